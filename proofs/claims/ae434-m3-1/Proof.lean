import JvmDerived
import JvmDerived.Pilot.@@N@@Statement
import JvmDerived.Pilot.@@N@@Code
set_option linter.unusedVariables false
set_option linter.unusedSimpArgs false
namespace Jvm.Pilot.@@N@@
open Jvm Jvm.ClassFile Sem Op Lib Jvm.Free Jvm.Stand Jvm.LawKit Jvm.RoadKit Bundle Jvm.Pilot.@@N@@.Jvm.D
abbrev sI (x : Int32) : Slot := .val (.int x)
abbrev sJ (x : Int64) : Slot := .val (.long x)
abbrev sR (a : Addr) : Slot := .val (.ref a)
abbrev sN : Slot := .val .null
abbrev sU : Slot := .unset
abbrev sW : Slot := .second
abbrev own_S (p : Program) (e : Env) (below : List Frame) (T : State) (m : MethodId) (pc : Nat) (L : Array Slot) (S : List Value) (t : State) : Prop := Steps p.tables e below (T.setTop (mkF m pc L S)) t
theorem own_xor (x y : Int32) (hy : 0 < y.toInt) : (x ^^^ y) < (0 : Int32) ↔ x.toInt < 0 := by
  have e0 : (0 : Int32).toInt = 0 := by decide
  rw [Int32.lt_iff_toInt_lt, e0]
  have h1 : (x ^^^ y).toBitVec.msb = (x.toBitVec.msb ^^ y.toBitVec.msb) := by
    show (x.toBitVec ^^^ y.toBitVec).msb = _
    rw [BitVec.msb_xor]
  have h2 : y.toBitVec.msb = false := by
    rw [BitVec.msb_eq_toInt]
    exact decide_eq_false (by show ¬ y.toInt < 0; omega)
  rw [h2, Bool.xor_false, BitVec.msb_eq_toInt, BitVec.msb_eq_toInt] at h1
  exact decide_eq_decide.mp h1
def own_fm (x y : Int32) : Int32 := Int32.ofInt (x.toInt % y.toInt)
theorem own_fm_int (x y : Int32) (hy : 0 < y.toInt) : (own_fm x y).toInt = x.toInt % y.toInt := by
  have h1 := Int.emod_nonneg x.toInt (show y.toInt ≠ 0 by omega)
  have h2 := Int.emod_lt_of_pos x.toInt hy
  have r := rng32 y
  exact Int32.toInt_ofInt_of_le (by omega) (by omega)
theorem own_fm_a (x y : Int32) (hy : 0 < y.toInt) (h : ¬ (x ^^^ y) < (0 : Int32)) : x % y = own_fm x y := by
  apply Int32.toInt_inj.mp
  rw [own_fm_int x y hy]
  exact (c_irem x y y.toInt rfl).1 (by have := mt (own_xor x y hy).mpr h; omega)
theorem own_fm_neg (x y : Int32) (hy : 0 < y.toInt) (h : (x ^^^ y) < (0 : Int32)) : (x % y).toInt = -((-x.toInt) % y.toInt) := (c_irem x y y.toInt rfl).2 ((own_xor x y hy).mp h)
theorem own_emod_neg (a b : Int) (hb : 0 < b) : (-((-a) % b) = 0 → a % b = 0) ∧ (-((-a) % b) ≠ 0 → a % b = b - (-a) % b) := by
  have h1 := Int.emod_nonneg (-a) (show b ≠ 0 by omega)
  have h2 := Int.emod_lt_of_pos (-a) hb
  have h3 := Int.emod_nonneg a (show b ≠ 0 by omega)
  have h4 := Int.emod_lt_of_pos a hb
  have h5 : (a % b + (-a) % b) % b = 0 := by rw [← Int.add_emod, Int.add_right_neg, Int.zero_emod]
  by_cases q : a % b + (-a) % b < b
  · rw [Int.emod_eq_of_lt (by omega) q] at h5
    omega
  · have h6 : (a % b + (-a) % b - b) % b = 0 := by rw [Int.sub_emod_right]; exact h5
    rw [Int.emod_eq_of_lt (by omega) (by omega)] at h6
    omega
theorem own_fm_b (x y : Int32) (hy : 0 < y.toInt) (h : (x ^^^ y) < (0 : Int32)) (hz : x % y = (0 : Int32)) : x % y = own_fm x y := by
  apply Int32.toInt_inj.mp
  rw [own_fm_int x y hy]
  have h1 := own_fm_neg x y hy h
  have e0 : (0 : Int32).toInt = 0 := by decide
  rw [hz, e0] at h1
  rw [hz, e0, (own_emod_neg x.toInt y.toInt hy).1 h1.symm]
theorem own_fm_c (x y : Int32) (hy : 0 < y.toInt) (h : (x ^^^ y) < (0 : Int32)) (hz : ¬ x % y = (0 : Int32)) : (x % y) + y = own_fm x y := by
  apply Int32.toInt_inj.mp
  rw [own_fm_int x y hy]
  have h1 := own_fm_neg x y hy h
  have e0 : (0 : Int32).toInt = 0 := by decide
  have h0 : -((-x.toInt) % y.toInt) ≠ 0 := fun q => hz (by apply Int32.toInt_inj.mp; rw [h1, q, e0])
  rw [(own_emod_neg x.toInt y.toInt hy).2 h0]
  have h2 := Int.emod_nonneg (-x.toInt) (show y.toInt ≠ 0 by omega)
  have h3 := Int.emod_lt_of_pos (-x.toInt) hy
  have h4 := c_iadd (x % y) y
  rw [h1] at h4
  have r := rng32 (x % y + y)
  have r1 := rng32 y
  omega
def own_start (b len w : Int32) : Int32 := ((((own_fm b w).toInt64) * (len.toInt64)) / (w.toInt64)).toInt32
theorem own_prod (f m n : Int) (h0 : 0 ≤ f) (h1 : f < n) (h2 : 0 ≤ m) (h3 : n < 2147483648) (h4 : m < 2147483648) : 0 ≤ f * m ∧ f * m ≤ 2147483646 * 2147483647 := by
  refine ⟨Int.mul_nonneg h0 h2, ?_⟩
  exact Int.mul_le_mul (by omega) (by omega) h2 (by omega)
theorem own_quot (f m n : Int) (h0 : 0 ≤ f) (h1 : f < n) (h2 : 0 ≤ m) : 0 ≤ f * m / n ∧ f * m / n ≤ m ∧ f * m / n * n ≤ f * m ∧ f * m < (f * m / n + 1) * n := by
  have hn : 0 < n := by omega
  have p := Int.mul_nonneg h0 h2
  refine ⟨Int.ediv_nonneg p (by omega), ?_, Int.ediv_mul_le _ (by omega), Int.lt_ediv_add_one_mul_self _ hn⟩
  apply Int.le_of_lt_add_one
  apply Int.ediv_lt_of_lt_mul hn
  have : f * m ≤ n * m := Int.mul_le_mul_of_nonneg_right (by omega) h2
  rw [Int.add_mul, Int.mul_comm m n]
  omega
theorem own_start_int (b len w : Int32) (hw : 0 < w.toInt) (hl : 0 ≤ len.toInt) : (own_start b len w).toInt = (b.toInt % w.toInt) * len.toInt / w.toInt := by
  have f0 := Int.emod_nonneg b.toInt (show w.toInt ≠ 0 by omega)
  have f1 := Int.emod_lt_of_pos b.toInt hw
  have rw_ := rng32 w
  have rl := rng32 len
  have pr := own_prod _ len.toInt w.toInt f0 f1 hl rw_.2 rl.2
  have qu := own_quot _ len.toInt w.toInt f0 f1 hl
  have m := c_lmul ((own_fm b w).toInt64) (len.toInt64)
  rw [c_i2l, c_i2l, own_fm_int b w hw] at m
  have rm := rng64 ((own_fm b w).toInt64 * len.toInt64)
  have em : ((own_fm b w).toInt64 * len.toInt64).toInt = (b.toInt % w.toInt) * len.toInt := by
    generalize (b.toInt % w.toInt) * len.toInt = P at *
    omega
  have hne : w.toInt64 ≠ -1 := fun q => by
    have := congrArg Int64.toInt q
    rw [c_i2l, show (-1 : Int64).toInt = -1 by decide] at this
    omega
  have d := (c_ldiv ((own_fm b w).toInt64 * len.toInt64) w.toInt64 w.toInt (c_i2l w) hne).1 (by rw [em]; exact pr.1)
  rw [em] at d
  have c := c_l2i (((own_fm b w).toInt64 * len.toInt64) / w.toInt64)
  rw [d] at c
  unfold own_start
  have r5 := rng32 ((((own_fm b w).toInt64 * len.toInt64) / w.toInt64).toInt32)
  generalize (b.toInt % w.toInt) * len.toInt / w.toInt = Q at *
  omega
theorem own_work (x : Int32) : 0 < ((1 : Int32) + ((x &&& (2147483647 : Int32)) % (2147483647 : Int32))).toInt := by
  have h1 := (c_and x 2147483647 (by decide)).1
  have h2 := (c_irem (x &&& 2147483647) 2147483647 2147483647 (by decide)).1 h1
  have h3 := c_iadd 1 ((x &&& 2147483647) % 2147483647)
  have e1 : (1 : Int32).toInt = 1 := by decide
  rw [e1, h2] at h3
  have r := rng32 (1 + ((x &&& 2147483647) % 2147483647))
  omega
theorem own_work7 (x : Int32) : 0 < ((1 : Int32) + (x &&& (7 : Int32))).toInt := by
  have h1 := c_and x 7 (by decide)
  have h3 := c_iadd 1 (x &&& 7)
  have e1 : (1 : Int32).toInt = 1 := by decide
  have e7 : (7 : Int32).toInt = 7 := by decide
  rw [e1] at h3
  rw [e7] at h1
  have r := rng32 (1 + (x &&& 7))
  omega
theorem own_rem (b w : Int32) (hw : 0 < w.toInt) (n rem : Int64) (hn : n = w.toInt64) (hr : rem = b.toInt64 - (b.toInt64 / n) * n) :
    (rem < (0 : Int64) → (rem + n).toInt = b.toInt % w.toInt) ∧ (¬ rem < (0 : Int64) → rem.toInt = b.toInt % w.toInt) := by
  have e0 : (0 : Int64).toInt = 0 := by decide
  have en : n.toInt = w.toInt := by rw [hn, c_i2l]
  have h := c_lrem b.toInt64 n w.toInt en
  rw [← hr, c_i2l] at h
  have f0 := Int.emod_nonneg b.toInt (show w.toInt ≠ 0 by omega)
  have f1 := Int.emod_lt_of_pos b.toInt hw
  have f2 := Int.emod_nonneg (-b.toInt) (show w.toInt ≠ 0 by omega)
  have f3 := Int.emod_lt_of_pos (-b.toInt) hw
  have g := own_emod_neg b.toInt w.toInt hw
  have a := c_ladd rem n
  rw [en] at a
  have ra := rng64 (rem + n)
  have rb := rng32 w
  simp only [Int64.lt_iff_toInt_lt, e0]
  by_cases q : 0 ≤ b.toInt
  · have h' := h.1 q
    omega
  · have h' := h.2 (by omega)
    omega
theorem own_fin (r m n sl : Int64) (R M N : Int) (hr : r.toInt = R) (hm : m.toInt = M) (hn : n.toInt = N) (h0 : 0 ≤ R) (h1 : R < N) (h2 : 0 ≤ M) (h3 : N < 2147483648) (h4 : M < 2147483648) (hs : sl.toInt = R * M / N) :
    ¬ sl < (0 : Int64) ∧ ¬ r * m < sl * n ∧ r * m < (sl + (1 : Int64)) * n := by
  have e0 : (0 : Int64).toInt = 0 := by decide
  have e1 : (1 : Int64).toInt = 1 := by decide
  have p := own_prod R M N h0 h1 h2 h3 h4
  have q := own_quot R M N h0 h1 h2
  have a1 := c_lmul r m
  have a2 := c_lmul sl n
  have a3 := c_ladd sl 1
  have a4 := c_lmul (sl + 1) n
  have r1 := rng64 (r * m)
  have r2 := rng64 (sl * n)
  have r3 := rng64 (sl + 1)
  have r4 := rng64 ((sl + 1) * n)
  rw [hr, hm] at a1
  rw [hs, hn] at a2
  rw [hs, e1] at a3
  simp only [Int64.lt_iff_toInt_lt, e0]
  rw [hs]
  have e3 : (sl + 1).toInt = R * M / N + 1 := by
    generalize R * M / N = Q at *
    omega
  rw [e3, hn] at a4
  rw [Int.add_mul, Int.one_mul] at q a4
  generalize R * M / N * N = QN at *
  generalize R * M / N = Q at *
  generalize R * M = P at *
  refine ⟨by omega, by omega, by omega⟩
theorem own_d5_0 : decode jdk_29_method_50_code 0 = .ok (.iload_n 0, 1) := by decide +kernel
theorem own_d5_1 : decode jdk_29_method_50_code 1 = .ok (.iload_n 1, 1) := by decide +kernel
theorem own_d5_2 : decode jdk_29_method_50_code 2 = .ok (.irem, 1) := by decide +kernel
theorem own_d5_3 : decode jdk_29_method_50_code 3 = .ok (.istore_n 2, 1) := by decide +kernel
theorem own_d5_4 : decode jdk_29_method_50_code 4 = .ok (.iload_n 0, 1) := by decide +kernel
theorem own_d5_5 : decode jdk_29_method_50_code 5 = .ok (.iload_n 1, 1) := by decide +kernel
theorem own_d5_6 : decode jdk_29_method_50_code 6 = .ok (.ixor, 1) := by decide +kernel
theorem own_d5_7 : decode jdk_29_method_50_code 7 = .ok (.ifCond .ge 11, 3) := by decide +kernel
theorem own_d5_10 : decode jdk_29_method_50_code 10 = .ok (.iload_n 2, 1) := by decide +kernel
theorem own_d5_11 : decode jdk_29_method_50_code 11 = .ok (.ifCond .eq 7, 3) := by decide +kernel
theorem own_d5_14 : decode jdk_29_method_50_code 14 = .ok (.iload_n 2, 1) := by decide +kernel
theorem own_d5_15 : decode jdk_29_method_50_code 15 = .ok (.iload_n 1, 1) := by decide +kernel
theorem own_d5_16 : decode jdk_29_method_50_code 16 = .ok (.iadd, 1) := by decide +kernel
theorem own_d5_17 : decode jdk_29_method_50_code 17 = .ok (.ireturn, 1) := by decide +kernel
theorem own_d5_18 : decode jdk_29_method_50_code 18 = .ok (.iload_n 2, 1) := by decide +kernel
theorem own_d5_19 : decode jdk_29_method_50_code 19 = .ok (.ireturn, 1) := by decide +kernel
theorem own_ef_5 (m : MethodId) (x0 : Int32) (x1 : Int32) : entryFrame m #[(.int x0), (.int x1)] 3 = mkF m 0 #[sI x0, sI x1, .unset] [] := by first | (simp [entryFrame, mkF, argsToLocals, Value.category]; done) | rfl
def own_Q5 (Z : State) (p1 : Int32) (p2 : Int32) (h0 : Heap) (n0 : Nat) (v : Option Value) (h : Heap) (L : List Loc) : Prop := v = some (.int (own_fm p1 p2)) ∧ Fr n0 L ∧ h = h0
abbrev own_y0 : MethodName := ⟨"java/lang/Math", "floorMod", "(II)I"⟩
set_option maxRecDepth 65536 in
set_option maxHeartbeats 40000000 in
theorem own_rm5 (l : Launch) (Z : State) (a0 : Array Value) (hw : ∀ d ∈ tables_1, d.before a0 Z = true) (ws : List Jvm.Cond) (p1 : Int32) (p2 : Int32) (h0 : Heap) (n0 : Nat) (Z0 : n0 ≤ h0.size) (hpos : 0 < p2.toInt) :
    MetFree l own_y0 (head1 (Jvm.Cond.code own_y0 jdk_29_method_50_code 3 (some .int) :: ws) ({ frames := 0, cells := 0, slots := 0, locals := 0 } : Room)) (fun a U => a = #[(.int p1), (.int p2)] ∧ Z.Warmed39 U.vm ∧ U.heap = h0) (fun _ _ _ _ _ => True) (fun _ U o U' => ∃ v L, o = .returned v ∧ own_Q5 Z p1 p2 h0 n0 v U'.heap L ∧ FrameEnd U o U' L ({ frames := 0, cells := 0, slots := 0, locals := 0 } : Room).cells ({ frames := 0, cells := 0, slots := 0, locals := 0 } : Room).slots) := by
  refine MetFree.of_bodySF (Jvm.Free.JP.mathPlain rfl (by decide +kernel)) hisR ?_
  intro p e s m args below meth c s₁ Bd hml0 hP hK
  obtain ⟨rfl, hZ, hh⟩ := hP
  have hx := Bd.exec
  have hby := Bd.bytes
  have hml : c.maxLocals = 3 := hml0
  have hown : s.vm.findClass "java/lang/Math" = some m.cls := findClass_of_methodNamed Bd.named
  have hnm := (name_of_methodNamed Bd.named Bd.method).1
  have X0 : Stand p l e ({ frames := 0, cells := 0, slots := 0, locals := 0 } : Room) s m #[(.int p1), (.int p2)] below meth c s₁ [] 0 0 := Stand.of_body Bd
  have e0 : s₁.heap = h0 := by rw [← hh, Bd.state]; rfl
  have N0 := Fr.nil n0
  obtain ⟨R0, hR0⟩ : ∃ R : State → Prop, R = fun t => Steps p.tables e below (s₁.setTop (entryFrame m #[(.int p1), (.int p2)] 3)) t := ⟨_, rfl⟩
  have pre0 : ∀ t, Steps p.tables e below (s₁.setTop (mkF m 0 #[sI p1, sI p2, sU] [])) t → R0 t := fun t k => by rw [hR0]; exact castTop (own_ef_5 m p1 p2) k
  have pre1 : ∀ t, own_S p e below s₁ m 7 #[sI p1, sI p2, sI (p1 % p2)] [(.int (p1 ^^^ p2))] t → R0 t := fun t k => pre0 t (by
    refine XS.iloadN X0.here hx rfl (hb hby own_d5_0) rfl ?_
    show own_S p e below s₁ m 1 #[sI p1, sI p2, sU] [(.int p1)] _
    refine XS.iloadN X0.here hx rfl (hb hby own_d5_1) rfl ?_
    show own_S p e below s₁ m 2 #[sI p1, sI p2, sU] [(.int p2), (.int p1)] _
    refine iremM X0 hx rfl (hb hby own_d5_2) rfl (by intro q; rw [q] at hpos; exact absurd hpos (by decide)) ?_
    show own_S p e below s₁ m 3 #[sI p1, sI p2, sU] [(.int (p1 % p2))] _
    refine XS.istoreN X0.here hx rfl (hb hby own_d5_3) rfl (l' := #[sI p1, sI p2, sI (p1 % p2)]) rfl ?_
    show own_S p e below s₁ m 4 #[sI p1, sI p2, sI (p1 % p2)] [] _
    refine XS.iloadN X0.here hx rfl (hb hby own_d5_4) rfl ?_
    show own_S p e below s₁ m 5 #[sI p1, sI p2, sI (p1 % p2)] [(.int p1)] _
    refine XS.iloadN X0.here hx rfl (hb hby own_d5_5) rfl ?_
    show own_S p e below s₁ m 6 #[sI p1, sI p2, sI (p1 % p2)] [(.int p2), (.int p1)] _
    refine XS.ixor X0.here hx rfl (hb hby own_d5_6) rfl ?_
    exact k)
  by_cases hc7 : (p1 ^^^ p2) < (0 : Int32)
  · have pre2 : ∀ t, own_S p e below s₁ m 11 #[sI p1, sI p2, sI (p1 % p2)] [(.int (p1 % p2))] t → R0 t := fun t k => pre1 t (by
      refine XS.ifNo X0.here hx rfl (hb hby own_d5_7) rfl ((if0 _ _).trans (tlt hc7).2.1) ?_
      show own_S p e below s₁ m 10 #[sI p1, sI p2, sI (p1 % p2)] [] _
      refine XS.iloadN X0.here hx rfl (hb hby own_d5_10) rfl ?_
      exact k)
    by_cases hc11 : (p1 % p2) = (0 : Int32)
    · have pre3 : ∀ t, own_S p e below s₁ m 19 #[sI p1, sI p2, sI (p1 % p2)] [(.int (p1 % p2))] t → R0 t := fun t k => pre2 t (by
        refine XS.ifYes X0.here hx rfl (pc0 := 11) (pc' := 18) rfl (hb hby own_d5_11) rfl ((if0 _ _).trans (teq hc11).1) (by decide) (by decide) ?_
        show own_S p e below s₁ m 18 #[sI p1, sI p2, sI (p1 % p2)] [] _
        refine XS.iloadN X0.here hx rfl (hb hby own_d5_18) rfl ?_
        exact k)
      obtain ⟨fs, hr, hrun, hended, hW, hsame⟩ := X0.leave (v := some (.int (p1 % p2))) (fun h => by rw [Bd.returns] at h; cases h)
      refine ⟨_, _, cast (congrFun hR0 _) (pre3 _ (retOut X0 hx Bd.returns rfl (Or.inl ⟨rfl, Or.inl rfl, _, rfl⟩) (hb hby own_d5_19) hr)), hrun, hended, _, _, rfl, ?_, ⟨_, rfl⟩, hW, hsame.mono (by decide) (by decide)⟩
      show own_Q5 Z _ _ h0 n0 _ s₁.heap _
      rw [e0]
      exact ⟨(by rw [own_fm_b p1 p2 hpos hc7 hc11]), N0, rfl⟩
    · have pre4 : ∀ t, own_S p e below s₁ m 17 #[sI p1, sI p2, sI (p1 % p2)] [(.int ((p1 % p2) + p2))] t → R0 t := fun t k => pre2 t (by
        refine XS.ifNo X0.here hx rfl (hb hby own_d5_11) rfl ((if0 _ _).trans (feq hc11).1) ?_
        show own_S p e below s₁ m 14 #[sI p1, sI p2, sI (p1 % p2)] [] _
        refine XS.iloadN X0.here hx rfl (hb hby own_d5_14) rfl ?_
        show own_S p e below s₁ m 15 #[sI p1, sI p2, sI (p1 % p2)] [(.int (p1 % p2))] _
        refine XS.iloadN X0.here hx rfl (hb hby own_d5_15) rfl ?_
        show own_S p e below s₁ m 16 #[sI p1, sI p2, sI (p1 % p2)] [(.int p2), (.int (p1 % p2))] _
        refine XS.iadd X0.here hx rfl (hb hby own_d5_16) rfl ?_
        exact k)
      obtain ⟨fs, hr, hrun, hended, hW, hsame⟩ := X0.leave (v := some (.int ((p1 % p2) + p2))) (fun h => by rw [Bd.returns] at h; cases h)
      refine ⟨_, _, cast (congrFun hR0 _) (pre4 _ (retOut X0 hx Bd.returns rfl (Or.inl ⟨rfl, Or.inl rfl, _, rfl⟩) (hb hby own_d5_17) hr)), hrun, hended, _, _, rfl, ?_, ⟨_, rfl⟩, hW, hsame.mono (by decide) (by decide)⟩
      show own_Q5 Z _ _ h0 n0 _ s₁.heap _
      rw [e0]
      exact ⟨(by rw [own_fm_c p1 p2 hpos hc7 hc11]), N0, rfl⟩
  · have pre5 : ∀ t, own_S p e below s₁ m 19 #[sI p1, sI p2, sI (p1 % p2)] [(.int (p1 % p2))] t → R0 t := fun t k => pre1 t (by
      refine XS.ifYes X0.here hx rfl (pc0 := 7) (pc' := 18) rfl (hb hby own_d5_7) rfl ((if0 _ _).trans (flt hc7).2.1) (by decide) (by decide) ?_
      show own_S p e below s₁ m 18 #[sI p1, sI p2, sI (p1 % p2)] [] _
      refine XS.iloadN X0.here hx rfl (hb hby own_d5_18) rfl ?_
      exact k)
    obtain ⟨fs, hr, hrun, hended, hW, hsame⟩ := X0.leave (v := some (.int (p1 % p2))) (fun h => by rw [Bd.returns] at h; cases h)
    refine ⟨_, _, cast (congrFun hR0 _) (pre5 _ (retOut X0 hx Bd.returns rfl (Or.inl ⟨rfl, Or.inl rfl, _, rfl⟩) (hb hby own_d5_19) hr)), hrun, hended, _, _, rfl, ?_, ⟨_, rfl⟩, hW, hsame.mono (by decide) (by decide)⟩
    show own_Q5 Z _ _ h0 n0 _ s₁.heap _
    rw [e0]
    exact ⟨(by rw [own_fm_a p1 p2 hpos hc7]), N0, rfl⟩
theorem own_d2_0 : decode jdk_30_method_1_code 0 = .ok (.aload_n 0, 1) := by decide +kernel
theorem own_d2_1 : decode jdk_30_method_1_code 1 = .ok (.invokespecial 1, 3) := by decide +kernel
theorem own_d2_4 : decode jdk_30_method_1_code 4 = .ok (.return_, 1) := by decide +kernel
theorem own_pn_0 : plainName "java/lang/Record" = true := by first | (simp [plainName, overriddenIn]; done) | decide +kernel
theorem own_ef_2 (m : MethodId) (x0 : Addr) : entryFrame m #[(.ref x0)] 1 = mkF m 0 #[sR x0] [] := by first | (simp [entryFrame, mkF, argsToLocals, Value.category]; done) | rfl
def own_Q2 (Z : State) (a1 : Addr) (h0 : Heap) (n0 : Nat) (v : Option Value) (h : Heap) (L : List Loc) : Prop := v = none ∧ Fr n0 L ∧ h = h0
abbrev own_y1 : MethodName := ⟨"java/lang/Record", "<init>", "()V"⟩
set_option maxRecDepth 65536 in
set_option maxHeartbeats 40000000 in
theorem own_rm2 (l : Launch) (Z : State) (a0 : Array Value) (hw : ∀ d ∈ tables_1, d.before a0 Z = true) (ws : List Jvm.Cond) (a1 : Addr) (h0 : Heap) (n0 : Nat) (Z0 : n0 ≤ h0.size)  :
    MetFree l own_y1 (head1 (Jvm.Cond.code own_y1 jdk_30_method_1_code 1 none :: ws) ({ frames := 1, cells := 0, slots := 0, locals := 12 } : Room)) (fun a U => a = #[(.ref a1)] ∧ Z.Warmed39 U.vm ∧ U.heap = h0) (fun _ _ _ _ _ => True) (fun _ U o U' => ∃ v L, o = .returned v ∧ own_Q2 Z a1 h0 n0 v U'.heap L ∧ FrameEnd U o U' L ({ frames := 1, cells := 0, slots := 0, locals := 12 } : Room).cells ({ frames := 1, cells := 0, slots := 0, locals := 12 } : Room).slots) := by
  refine MetFree.of_bodySF (plainFor_of_name own_pn_0) hisR ?_
  intro p e s m args below meth c s₁ Bd hml0 hP hK
  obtain ⟨rfl, hZ, hh⟩ := hP
  have hw12 := hw _ (List.mem_of_getElem? (i := 12) rfl)
  have hw13 := hw _ (List.mem_of_getElem? (i := 13) rfl)
  have hw14 := hw _ (List.mem_of_getElem? (i := 14) rfl)
  have hx := Bd.exec
  have hby := Bd.bytes
  have hml : c.maxLocals = 1 := hml0
  have hown : s.vm.findClass "java/lang/Record" = some m.cls := findClass_of_methodNamed Bd.named
  have hnm := (name_of_methodNamed Bd.named Bd.method).1
  have X0 : Stand p l e ({ frames := 1, cells := 0, slots := 0, locals := 12 } : Room) s m #[(.ref a1)] below meth c s₁ [] 0 0 := Stand.of_body Bd
  have e0 : s₁.heap = h0 := by rw [← hh, Bd.state]; rfl
  have N0 := Fr.nil n0
  obtain ⟨R0, hR0⟩ : ∃ R : State → Prop, R = fun t => Steps p.tables e below (s₁.setTop (entryFrame m #[(.ref a1)] 1)) t := ⟨_, rfl⟩
  have pre0 : ∀ t, Steps p.tables e below (s₁.setTop (mkF m 0 #[sR a1] [])) t → R0 t := fun t k => by rw [hR0]; exact castTop (own_ef_2 m a1) k
  have pre1 : ∀ t, own_S p e below s₁ m 1 #[sR a1] [(.ref a1)] t → R0 t := fun t k => pre0 t (by
    refine XS.aloadN X0.here hx rfl (hb hby own_d2_0) rfl rfl ?_
    exact k)
  obtain ⟨T2, X2, e2, st2⟩ := initO X0 hx hZ hown hw12 hw13 hw14 e0 (g := (mkF m 1 #[sR a1] [(.ref a1)])) rfl (by rw [hml]; rfl) rfl (hb hby own_d2_1) (by decide) (W := 0) (by show 2 * 0 + _ ≤ _; exact Nat.le_of_eq rfl) (by decide)
  have pre3 : ∀ t, own_S p e below T2 m 4 #[sR a1] [] t → R0 t := fun t k => pre1 t (by
    refine st2 _ ?_
    exact k)
  obtain ⟨fs, hr, hrun, hended, hW, hsame⟩ := X2.leave (v := none) (fun _ => rfl)
  refine ⟨_, _, cast (congrFun hR0 _) (pre3 _ (X2.returnOut hx Bd.returns (hb hby own_d2_4) hr)), hrun, hended, _, _, rfl, ?_, ⟨_, rfl⟩, hW, hsame.mono (by decide) (by decide)⟩
  show own_Q2 Z _ h0 n0 _ T2.heap _
  rw [e2]
  exact ⟨rfl, N0, rfl⟩
theorem own_pd_0 : parseMethodDescriptor "()V" = some ⟨[], none⟩ := by decide +kernel
theorem own_d1_0 : decode prog_169_method_1_code 0 = .ok (.aload_n 0, 1) := by decide +kernel
theorem own_d1_1 : decode prog_169_method_1_code 1 = .ok (.invokespecial 1, 3) := by decide +kernel
theorem own_d1_4 : decode prog_169_method_1_code 4 = .ok (.aload_n 0, 1) := by decide +kernel
theorem own_d1_5 : decode prog_169_method_1_code 5 = .ok (.iload_n 1, 1) := by decide +kernel
theorem own_d1_6 : decode prog_169_method_1_code 6 = .ok (.putfield 7, 3) := by decide +kernel
theorem own_d1_9 : decode prog_169_method_1_code 9 = .ok (.aload_n 0, 1) := by decide +kernel
theorem own_d1_10 : decode prog_169_method_1_code 10 = .ok (.iload_n 2, 1) := by decide +kernel
theorem own_d1_11 : decode prog_169_method_1_code 11 = .ok (.putfield 13, 3) := by decide +kernel
theorem own_d1_14 : decode prog_169_method_1_code 14 = .ok (.return_, 1) := by decide +kernel
theorem own_pn_1 : plainName "com/example/murmuration/murmuration/reduction/Blocks" = true := by first | (simp [plainName, overriddenIn]; done) | decide +kernel
theorem own_ef_1 (m : MethodId) (x0 : Addr) (x1 : Int32) (x2 : Int32) : entryFrame m #[(.ref x0), (.int x1), (.int x2)] 3 = mkF m 0 #[sR x0, sI x1, sI x2] [] := by first | (simp [entryFrame, mkF, argsToLocals, Value.category]; done) | rfl
def own_Q1 (Z : State) (a1 : Addr) (p2 : Int32) (p3 : Int32) (u1 : Value) (u2 : Value) (h0 : Heap) (n0 : Nat) (v : Option Value) (h : Heap) (L : List Loc) : Prop := v = none ∧ Fr n0 L ∧ Keep h0 h [a1] ∧ Exa Z h a1 "com/example/murmuration/murmuration/reduction/Blocks" ∧ Fld Z h a1 "com/example/murmuration/murmuration/reduction/Blocks" "length" "I" (.int p2) ∧ Fld Z h a1 "com/example/murmuration/murmuration/reduction/Blocks" "workers" "I" (.int p3)
abbrev own_y2 : MethodName := ⟨"com/example/murmuration/murmuration/reduction/Blocks", "<init>", "(II)V"⟩
set_option maxRecDepth 65536 in
set_option maxHeartbeats 40000000 in
theorem own_rm1 (l : Launch) (Z : State) (a0 : Array Value) (hw : ∀ d ∈ tables_1, d.before a0 Z = true) (ws : List Jvm.Cond) (a1 : Addr) (p2 : Int32) (p3 : Int32) (u1 : Value) (u2 : Value) (h0 : Heap) (n0 : Nat) (Z0 : n0 ≤ h0.size) (E_a1 : Exa Z h0 a1 "com/example/murmuration/murmuration/reduction/Blocks") (F_length_a1 : Fld Z h0 a1 "com/example/murmuration/murmuration/reduction/Blocks" "length" "I" u1) (F_workers_a1 : Fld Z h0 a1 "com/example/murmuration/murmuration/reduction/Blocks" "workers" "I" u2) (g_a1 : n0 ≤ a1) :
    MetFree l own_y2 (head1 (Jvm.Cond.code own_y2 prog_169_method_1_code 3 none :: ws) ({ frames := 2, cells := 0, slots := 0, locals := 24 } : Room)) (fun a U => a = #[(.ref a1), (.int p2), (.int p3)] ∧ Z.Warmed39 U.vm ∧ U.heap = h0) (fun _ _ _ _ _ => True) (fun _ U o U' => ∃ v L, o = .returned v ∧ own_Q1 Z a1 p2 p3 u1 u2 h0 n0 v U'.heap L ∧ FrameEnd U o U' L ({ frames := 2, cells := 0, slots := 0, locals := 24 } : Room).cells ({ frames := 2, cells := 0, slots := 0, locals := 24 } : Room).slots) := by
  refine MetFree.of_bodySF (plainFor_of_name own_pn_1) hisR ?_
  intro p e s m args below meth c s₁ Bd hml0 hP hK
  obtain ⟨rfl, hZ, hh⟩ := hP
  have hw2 := hw _ (List.mem_of_getElem? (i := 2) rfl)
  have hw7 := hw _ (List.mem_of_getElem? (i := 7) rfl)
  have hw8 := hw _ (List.mem_of_getElem? (i := 8) rfl)
  have hw10 := hw _ (List.mem_of_getElem? (i := 10) rfl)
  have hw11 := hw _ (List.mem_of_getElem? (i := 11) rfl)
  have hw15 := hw _ (List.mem_of_getElem? (i := 15) rfl)
  have hw16 := hw _ (List.mem_of_getElem? (i := 16) rfl)
  have hw17 := hw _ (List.mem_of_getElem? (i := 17) rfl)
  have hw18 := hw _ (List.mem_of_getElem? (i := 18) rfl)
  have hx := Bd.exec
  have hby := Bd.bytes
  have hml : c.maxLocals = 3 := hml0
  have hown : s.vm.findClass "com/example/murmuration/murmuration/reduction/Blocks" = some m.cls := findClass_of_methodNamed Bd.named
  have hnm := (name_of_methodNamed Bd.named Bd.method).1
  have X0 : Stand p l e ({ frames := 2, cells := 0, slots := 0, locals := 24 } : Room) s m #[(.ref a1), (.int p2), (.int p3)] below meth c s₁ [] 0 0 := Stand.of_body Bd
  have e0 : s₁.heap = h0 := by rw [← hh, Bd.state]; rfl
  have N0 := Fr.nil n0
  obtain ⟨R0, hR0⟩ : ∃ R : State → Prop, R = fun t => Steps p.tables e below (s₁.setTop (entryFrame m #[(.ref a1), (.int p2), (.int p3)] 3)) t := ⟨_, rfl⟩
  have pre0 : ∀ t, Steps p.tables e below (s₁.setTop (mkF m 0 #[sR a1, sI p2, sI p3] [])) t → R0 t := fun t k => by rw [hR0]; exact castTop (own_ef_1 m a1 p2 p3) k
  have pre1 : ∀ t, own_S p e below s₁ m 1 #[sR a1, sI p2, sI p3] [(.ref a1)] t → R0 t := fun t k => pre0 t (by
    refine XS.aloadN X0.here hx rfl (hb hby own_d1_0) rfl rfl ?_
    exact k)
  obtain ⟨_, _, ⟨T2, L2, k2, n2⟩, -, X2, ⟨Lc2, hQ2, l2, y2, z2⟩, st2⟩ := X0.specialBack hx (y := own_y1) rfl hown (mvT hZ hw7) (mvT hZ hw8) (mvT hZ hw11) (by decide) (backOf (W := 0) (own_rm2 l Z a0 hw [] a1 h0 n0 Z0 ) hZ hw11 hw10 (by decide) (by decide)) (g := (mkF m 1 #[sR a1, sI p2, sI p3] [(.ref a1)])) rfl (by rw [hml]; rfl) (Steps.refl _) (a := a1) (argsL := []) (rest := []) (lenOf own_pd_0 rfl) rfl (by show 2 * 0 + _ ≤ _; exact Nat.le_of_eq rfl) (hb hby own_d1_1) (fun _ _ => ⟨rfl, e0, (by decide : 0 + 0 ≤ _), (by decide : 0 + 0 ≤ _)⟩)
  dsimp only [Pt.U, Pt.locs, Pt.cells, Pt.slots] at X2 l2 y2 z2 st2 hQ2
  subst l2 y2 z2
  obtain ⟨rfl, N2q, eh2⟩ := hQ2
  have N2 := Fr.app N0 N2q
  have pre3 : ∀ t, own_S p e below T2 m 6 #[sR a1, sI p2, sI p3] [(.int p2), (.ref a1)] t → R0 t := fun t k => pre1 t (by
    refine st2.trans ?_
    show own_S p e below T2 m 4 #[sR a1, sI p2, sI p3] [] _
    refine XS.aloadN X2.here hx rfl (hb hby own_d1_4) rfl rfl ?_
    show own_S p e below T2 m 5 #[sR a1, sI p2, sI p3] [(.ref a1)] _
    refine XS.iloadN X2.here hx rfl (hb hby own_d1_5) rfl ?_
    exact k)
  obtain ⟨T4, h4, X4, e4, W4, st4⟩ := putF X2 hx hZ hown (host := "") (Or.inl hw15) Via.refl eh2 F_length_a1 E_a1 (Or.inr ⟨hw16, rfl, hnm⟩) hw2 (ty := .int) (by decide) rfl rfl (g := (mkF m 6 #[sR a1, sI p2, sI p3] [(.int p2), (.ref a1)])) rfl rfl (hb hby own_d1_6)
  have f5 := Nat.le_trans Z0 (Keep.of_wr W4).1
  have f6 := E_a1.wr W4
  have f7 := F_workers_a1.other W4 (Or.inr (slot_ne (Or.inr hw18) (Or.inr hw16) (by decide) (t := .int) (t' := .int) (by decide) (by decide)))
  have f8 := F_length_a1.same W4
  have N9 := Fr.snoc X4 N2 g_a1
  have K10 : Keep h0 h4 [a1] := (Keep.refl h0 [a1]).wr W4 (Or.inl (List.mem_of_getElem? (i := 0) rfl))
  have pre11 : ∀ t, own_S p e below T4 m 11 #[sR a1, sI p2, sI p3] [(.int p3), (.ref a1)] t → R0 t := fun t k => pre3 t (by
    refine st4 _ ?_
    show own_S p e below T4 m 9 #[sR a1, sI p2, sI p3] [] _
    refine XS.aloadN X4.here hx rfl (hb hby own_d1_9) rfl rfl ?_
    show own_S p e below T4 m 10 #[sR a1, sI p2, sI p3] [(.ref a1)] _
    refine XS.iloadN X4.here hx rfl (hb hby own_d1_10) rfl ?_
    exact k)
  obtain ⟨T12, h12, X12, e12, W12, st12⟩ := putF X4 hx hZ hown (host := "") (Or.inl hw17) Via.refl e4 f7 f6 (Or.inr ⟨hw18, rfl, hnm⟩) hw2 (ty := .int) (by decide) rfl rfl (g := (mkF m 11 #[sR a1, sI p2, sI p3] [(.int p3), (.ref a1)])) rfl rfl (hb hby own_d1_11)
  have f13 := Nat.le_trans f5 (Keep.of_wr W12).1
  have f14 := f6.wr W12
  have f15 := f8.other W12 (Or.inr (slot_ne (Or.inr hw16) (Or.inr hw18) (by decide) (t := .int) (t' := .int) (by decide) (by decide)))
  have f16 := f7.same W12
  have N17 := Fr.snoc X12 N9 g_a1
  have K18 : Keep h0 h12 [a1] := K10.wr W12 (Or.inl (List.mem_of_getElem? (i := 0) rfl))
  have pre19 : ∀ t, own_S p e below T12 m 14 #[sR a1, sI p2, sI p3] [] t → R0 t := fun t k => pre11 t (by
    refine st12 _ ?_
    exact k)
  obtain ⟨fs, hr, hrun, hended, hW, hsame⟩ := X12.leave (v := none) (fun _ => rfl)
  refine ⟨_, _, cast (congrFun hR0 _) (pre19 _ (X12.returnOut hx Bd.returns (hb hby own_d1_14) hr)), hrun, hended, _, _, rfl, ?_, ⟨_, rfl⟩, hW, hsame.mono (by decide) (by decide)⟩
  show own_Q1 Z _ _ _ _ _ h0 n0 _ T12.heap _
  rw [e12]
  exact ⟨rfl, N17, K18, f14, f15, f16⟩
theorem own_pd_1 : parseMethodDescriptor "(II)I" = some ⟨[.int, .int], some .int⟩ := by decide +kernel
theorem own_d4_0 : decode prog_169_method_2_code 0 = .ok (.iload_n 1, 1) := by decide +kernel
theorem own_d4_1 : decode prog_169_method_2_code 1 = .ok (.aload_n 0, 1) := by decide +kernel
theorem own_d4_2 : decode prog_169_method_2_code 2 = .ok (.getfield 13, 3) := by decide +kernel
theorem own_d4_5 : decode prog_169_method_2_code 5 = .ok (.invokestatic 16, 3) := by decide +kernel
theorem own_d4_8 : decode prog_169_method_2_code 8 = .ok (.i2l, 1) := by decide +kernel
theorem own_d4_9 : decode prog_169_method_2_code 9 = .ok (.aload_n 0, 1) := by decide +kernel
theorem own_d4_10 : decode prog_169_method_2_code 10 = .ok (.getfield 7, 3) := by decide +kernel
theorem own_d4_13 : decode prog_169_method_2_code 13 = .ok (.i2l, 1) := by decide +kernel
theorem own_d4_14 : decode prog_169_method_2_code 14 = .ok (.lmul, 1) := by decide +kernel
theorem own_d4_15 : decode prog_169_method_2_code 15 = .ok (.aload_n 0, 1) := by decide +kernel
theorem own_d4_16 : decode prog_169_method_2_code 16 = .ok (.getfield 13, 3) := by decide +kernel
theorem own_d4_19 : decode prog_169_method_2_code 19 = .ok (.i2l, 1) := by decide +kernel
theorem own_d4_20 : decode prog_169_method_2_code 20 = .ok (.ldiv, 1) := by decide +kernel
theorem own_d4_21 : decode prog_169_method_2_code 21 = .ok (.l2i, 1) := by decide +kernel
theorem own_d4_22 : decode prog_169_method_2_code 22 = .ok (.ireturn, 1) := by decide +kernel
theorem own_ef_4 (m : MethodId) (x0 : Addr) (x1 : Int32) : entryFrame m #[(.ref x0), (.int x1)] 2 = mkF m 0 #[sR x0, sI x1] [] := by first | (simp [entryFrame, mkF, argsToLocals, Value.category]; done) | rfl
def own_Q4 (Z : State) (a1 : Addr) (p2 : Int32) (w1 : Int32) (w2 : Int32) (h0 : Heap) (n0 : Nat) (v : Option Value) (h : Heap) (L : List Loc) : Prop := v = some (.int (own_start p2 w1 w2)) ∧ Fr n0 L ∧ h = h0
abbrev own_y3 : MethodName := ⟨"com/example/murmuration/murmuration/reduction/Blocks", "start", "(I)I"⟩
set_option maxRecDepth 65536 in
set_option maxHeartbeats 40000000 in
theorem own_rm4 (l : Launch) (Z : State) (a0 : Array Value) (hw : ∀ d ∈ tables_1, d.before a0 Z = true) (ws : List Jvm.Cond) (a1 : Addr) (p2 : Int32) (w1 : Int32) (w2 : Int32) (h0 : Heap) (n0 : Nat) (Z0 : n0 ≤ h0.size) (F_length_a1 : Fld Z h0 a1 "com/example/murmuration/murmuration/reduction/Blocks" "length" "I" (.int w1)) (F_workers_a1 : Fld Z h0 a1 "com/example/murmuration/murmuration/reduction/Blocks" "workers" "I" (.int w2)) (hpos : 0 < w2.toInt) :
    MetFree l own_y3 (head1 (Jvm.Cond.code own_y3 prog_169_method_2_code 2 (some .int) :: ws) ({ frames := 1, cells := 0, slots := 0, locals := 14 } : Room)) (fun a U => a = #[(.ref a1), (.int p2)] ∧ Z.Warmed39 U.vm ∧ U.heap = h0) (fun _ _ _ _ _ => True) (fun _ U o U' => ∃ v L, o = .returned v ∧ own_Q4 Z a1 p2 w1 w2 h0 n0 v U'.heap L ∧ FrameEnd U o U' L ({ frames := 1, cells := 0, slots := 0, locals := 14 } : Room).cells ({ frames := 1, cells := 0, slots := 0, locals := 14 } : Room).slots) := by
  refine MetFree.of_bodySF (plainFor_of_name own_pn_1) hisR ?_
  intro p e s m args below meth c s₁ Bd hml0 hP hK
  obtain ⟨rfl, hZ, hh⟩ := hP
  have hw15 := hw _ (List.mem_of_getElem? (i := 15) rfl)
  have hw17 := hw _ (List.mem_of_getElem? (i := 17) rfl)
  have hw24 := hw _ (List.mem_of_getElem? (i := 24) rfl)
  have hw25 := hw _ (List.mem_of_getElem? (i := 25) rfl)
  have hw26 := hw _ (List.mem_of_getElem? (i := 26) rfl)
  have hw27 := hw _ (List.mem_of_getElem? (i := 27) rfl)
  have hx := Bd.exec
  have hby := Bd.bytes
  have hml : c.maxLocals = 2 := hml0
  have hown : s.vm.findClass "com/example/murmuration/murmuration/reduction/Blocks" = some m.cls := findClass_of_methodNamed Bd.named
  have hnm := (name_of_methodNamed Bd.named Bd.method).1
  have X0 : Stand p l e ({ frames := 1, cells := 0, slots := 0, locals := 14 } : Room) s m #[(.ref a1), (.int p2)] below meth c s₁ [] 0 0 := Stand.of_body Bd
  have e0 : s₁.heap = h0 := by rw [← hh, Bd.state]; rfl
  have N0 := Fr.nil n0
  obtain ⟨R0, hR0⟩ : ∃ R : State → Prop, R = fun t => Steps p.tables e below (s₁.setTop (entryFrame m #[(.ref a1), (.int p2)] 2)) t := ⟨_, rfl⟩
  have pre0 : ∀ t, Steps p.tables e below (s₁.setTop (mkF m 0 #[sR a1, sI p2] [])) t → R0 t := fun t k => by rw [hR0]; exact castTop (own_ef_4 m a1 p2) k
  have pre1 : ∀ t, own_S p e below s₁ m 2 #[sR a1, sI p2] [(.ref a1), (.int p2)] t → R0 t := fun t k => pre0 t (by
    refine XS.iloadN X0.here hx rfl (hb hby own_d4_0) rfl ?_
    show own_S p e below s₁ m 1 #[sR a1, sI p2] [(.int p2)] _
    refine XS.aloadN X0.here hx rfl (hb hby own_d4_1) rfl rfl ?_
    exact k)
  obtain ⟨T2, X2, e2, st2⟩ := getF X0 hx hZ hown (host := "") (Or.inl hw17) Via.refl e0 F_workers_a1 (g := (mkF m 2 #[sR a1, sI p2] [(.ref a1), (.int p2)])) rfl rfl (hb hby own_d4_2)
  have pre3 : ∀ t, own_S p e below T2 m 5 #[sR a1, sI p2] [(.int w2), (.int p2)] t → R0 t := fun t k => pre1 t (by
    refine st2 _ ?_
    exact k)
  have hp4 : 0 < w2.toInt := hpos
  obtain ⟨_, _, ⟨T5, L5, k5, n5⟩, -, X5, ⟨Lc5, hQ5, l5, y5, z5⟩, st5⟩ := Jvm.LawKit.callS X2 hx (y := own_y0) hown (mvT hZ hw24) (mvT hZ hw25) (mvT hZ hw26) (mvT hZ hw27) (by decide) (backOf (W := 0) (own_rm5 l Z a0 hw [] p2 w2 h0 n0 Z0 hp4) hZ hw27 hw26 (by decide) (by decide)) (g := (mkF m 5 #[sR a1, sI p2] [(.int w2), (.int p2)])) rfl (by rw [hml]; rfl) (argsL := [(.int p2), (.int w2)]) (rest := []) (lenOf own_pd_1 rfl) rfl (by show 2 * 0 + _ ≤ _; exact Nat.le_of_eq rfl) (hb hby own_d4_5) (fun _ _ => ⟨rfl, e2, (by decide : 0 + 0 ≤ _), (by decide : 0 + 0 ≤ _)⟩)
  dsimp only [Pt.U, Pt.locs, Pt.cells, Pt.slots] at X5 l5 y5 z5 st5 hQ5
  subst l5 y5 z5
  obtain ⟨rfl, N5q, eh5⟩ := hQ5
  have N5 := Fr.app N0 N5q
  have pre6 : ∀ t, own_S p e below T5 m 10 #[sR a1, sI p2] [(.ref a1), (.long ((own_fm p2 w2).toInt64))] t → R0 t := fun t k => pre3 t (by
    refine st5 _ ?_
    show own_S p e below T5 m 8 #[sR a1, sI p2] [(.int (own_fm p2 w2))] _
    refine XS.i2l X5.here hx rfl (hb hby own_d4_8) rfl ?_
    show own_S p e below T5 m 9 #[sR a1, sI p2] [(.long ((own_fm p2 w2).toInt64))] _
    refine XS.aloadN X5.here hx rfl (hb hby own_d4_9) rfl rfl ?_
    exact k)
  obtain ⟨T7, X7, e7, st7⟩ := getF X5 hx hZ hown (host := "") (Or.inl hw15) Via.refl eh5 F_length_a1 (g := (mkF m 10 #[sR a1, sI p2] [(.ref a1), (.long ((own_fm p2 w2).toInt64))])) rfl rfl (hb hby own_d4_10)
  have pre8 : ∀ t, own_S p e below T7 m 16 #[sR a1, sI p2] [(.ref a1), (.long (((own_fm p2 w2).toInt64) * (w1.toInt64)))] t → R0 t := fun t k => pre6 t (by
    refine st7 _ ?_
    show own_S p e below T7 m 13 #[sR a1, sI p2] [(.int w1), (.long ((own_fm p2 w2).toInt64))] _
    refine XS.i2l X7.here hx rfl (hb hby own_d4_13) rfl ?_
    show own_S p e below T7 m 14 #[sR a1, sI p2] [(.long (w1.toInt64)), (.long ((own_fm p2 w2).toInt64))] _
    refine XS.lmul X7.here hx rfl (hb hby own_d4_14) rfl ?_
    show own_S p e below T7 m 15 #[sR a1, sI p2] [(.long (((own_fm p2 w2).toInt64) * (w1.toInt64)))] _
    refine XS.aloadN X7.here hx rfl (hb hby own_d4_15) rfl rfl ?_
    exact k)
  obtain ⟨T9, X9, e9, st9⟩ := getF X7 hx hZ hown (host := "") (Or.inl hw17) Via.refl e7 F_workers_a1 (g := (mkF m 16 #[sR a1, sI p2] [(.ref a1), (.long (((own_fm p2 w2).toInt64) * (w1.toInt64)))])) rfl rfl (hb hby own_d4_16)
  have pre10 : ∀ t, own_S p e below T9 m 22 #[sR a1, sI p2] [(.int (((((own_fm p2 w2).toInt64) * (w1.toInt64)) / (w2.toInt64)).toInt32))] t → R0 t := fun t k => pre8 t (by
    refine st9 _ ?_
    show own_S p e below T9 m 19 #[sR a1, sI p2] [(.int w2), (.long (((own_fm p2 w2).toInt64) * (w1.toInt64)))] _
    refine XS.i2l X9.here hx rfl (hb hby own_d4_19) rfl ?_
    show own_S p e below T9 m 20 #[sR a1, sI p2] [(.long (w2.toInt64)), (.long (((own_fm p2 w2).toInt64) * (w1.toInt64)))] _
    refine XS.ldiv X9.here hx rfl (hb hby own_d4_20) rfl (by intro q; have q' := congrArg Int64.toInt q; rw [c_i2l] at q'; rw [q'] at hpos; exact absurd hpos (by decide)) ?_
    show own_S p e below T9 m 21 #[sR a1, sI p2] [(.long ((((own_fm p2 w2).toInt64) * (w1.toInt64)) / (w2.toInt64)))] _
    refine XS.l2i X9.here hx rfl (hb hby own_d4_21) rfl ?_
    exact k)
  obtain ⟨fs, hr, hrun, hended, hW, hsame⟩ := X9.leave (v := some (.int (((((own_fm p2 w2).toInt64) * (w1.toInt64)) / (w2.toInt64)).toInt32))) (fun h => by rw [Bd.returns] at h; cases h)
  refine ⟨_, _, cast (congrFun hR0 _) (pre10 _ (retOut X9 hx Bd.returns rfl (Or.inl ⟨rfl, Or.inl rfl, _, rfl⟩) (hb hby own_d4_22) hr)), hrun, hended, _, _, rfl, ?_, ⟨_, rfl⟩, hW, hsame.mono (by decide) (by decide)⟩
  show own_Q4 Z _ _ _ _ h0 n0 _ T9.heap _
  rw [e9]
  exact ⟨rfl, N5, rfl⟩
theorem own_pd_2 : parseMethodDescriptor "(II)V" = some ⟨[.int, .int], none⟩ := by decide +kernel
theorem own_pd_3 : parseMethodDescriptor "(I)I" = some ⟨[.int], some .int⟩ := by decide +kernel
theorem own_pn_2 : plainName "com/example/murmuration/murmuration/reduction/BlocksStartPinLaw" = true := by first | (simp [plainName, overriddenIn]; done) | decide +kernel
theorem own_ef_0 (m : MethodId) (x0 : Int32) (x1 : Int32) (x2 : Int32) (x3 : Int32) : entryFrame m #[(.int x0), (.int x1), (.int x2), (.int x3)] maxLocals = mkF m 0 #[sI x0, sI x1, sI x2, sI x3, .unset, .unset, .unset, .unset, .unset, .unset, .unset, .unset, .unset, .unset, .unset, .unset, .unset] [] := by first | (simp [entryFrame, mkF, argsToLocals, Value.category, maxLocals]; done) | rfl
def own_Q0 (Z : State) (p1 : Int32) (p2 : Int32) (p3 : Int32) (p4 : Int32) (h0 : Heap) (n0 : Nat) (v : Option Value) (h : Heap) (L : List Loc) : Prop := v = some (.int 1) ∧ Fr n0 L
set_option maxRecDepth 65536 in
set_option maxHeartbeats 40000000 in
theorem own_rm0 (l : Launch) (Z : State) (a0 : Array Value) (hw : ∀ d ∈ tables_1, d.before a0 Z = true) (ws : List Jvm.Cond) (p1 : Int32) (p2 : Int32) (p3 : Int32) (p4 : Int32) (h0 : Heap) (n0 : Nat) (Z0 : n0 ≤ h0.size)  :
    MetFree l x (head1 (Jvm.Cond.code x code maxLocals ret :: ws) room_1) (fun a U => a = #[(.int p1), (.int p2), (.int p3), (.int p4)] ∧ Z.Warmed39 U.vm ∧ U.heap = h0) (fun _ _ _ _ _ => True) (fun _ U o U' => ∃ v L, o = .returned v ∧ own_Q0 Z p1 p2 p3 p4 h0 n0 v U'.heap L ∧ FrameEnd U o U' L room_1.cells room_1.slots) := by
  refine MetFree.of_bodySF (plainFor_of_name own_pn_2) hisR ?_
  intro p e s m args below meth c s₁ Bd hml0 hP hK
  obtain ⟨rfl, hZ, hh⟩ := hP
  have hw0 := hw _ (List.mem_of_getElem? (i := 0) rfl)
  have hw1 := hw _ (List.mem_of_getElem? (i := 1) rfl)
  have hw2 := hw _ (List.mem_of_getElem? (i := 2) rfl)
  have hw3 := hw _ (List.mem_of_getElem? (i := 3) rfl)
  have hw4 := hw _ (List.mem_of_getElem? (i := 4) rfl)
  have hw5 := hw _ (List.mem_of_getElem? (i := 5) rfl)
  have hw6 := hw _ (List.mem_of_getElem? (i := 6) rfl)
  have hw16 := hw _ (List.mem_of_getElem? (i := 16) rfl)
  have hw18 := hw _ (List.mem_of_getElem? (i := 18) rfl)
  have hw19 := hw _ (List.mem_of_getElem? (i := 19) rfl)
  have hw20 := hw _ (List.mem_of_getElem? (i := 20) rfl)
  have hw21 := hw _ (List.mem_of_getElem? (i := 21) rfl)
  have hw22 := hw _ (List.mem_of_getElem? (i := 22) rfl)
  have hw23 := hw _ (List.mem_of_getElem? (i := 23) rfl)
  have hx := Bd.exec
  have hby := Bd.bytes
  have hml : c.maxLocals = 17 := hml0
  have hown : s.vm.findClass "com/example/murmuration/murmuration/reduction/BlocksStartPinLaw" = some m.cls := findClass_of_methodNamed Bd.named
  have hnm := (name_of_methodNamed Bd.named Bd.method).1
  have X0 : Stand p l e room_1 s m #[(.int p1), (.int p2), (.int p3), (.int p4)] below meth c s₁ [] 0 0 := Stand.of_body Bd
  have e0 : s₁.heap = h0 := by rw [← hh, Bd.state]; rfl
  have N0 := Fr.nil n0
  obtain ⟨R0, hR0⟩ : ∃ R : State → Prop, R = fun t => Steps p.tables e below (s₁.setTop (entryFrame m #[(.int p1), (.int p2), (.int p3), (.int p4)] maxLocals)) t := ⟨_, rfl⟩
  have pre0 : ∀ t, Steps p.tables e below (s₁.setTop (mkF m 0 #[sI p1, sI p2, sI p3, sI p4, sU, sU, sU, sU, sU, sU, sU, sU, sU, sU, sU, sU, sU] [])) t → R0 t := fun t k => by rw [hR0]; exact castTop (own_ef_0 m p1 p2 p3 p4) k
  have pre1 : ∀ t, own_S p e below s₁ m 4 #[sI p1, sI p2, sI p3, sI p4, sU, sU, sU, sU, sU, sU, sU, sU, sU, sU, sU, sU, sU] [(.int (p1 &&& (2147483647 : Int32)))] t → R0 t := fun t k => pre0 t (by
    refine XS.iloadN X0.here hx rfl (hb hby at_0) rfl ?_
    show own_S p e below s₁ m 1 #[sI p1, sI p2, sI p3, sI p4, sU, sU, sU, sU, sU, sU, sU, sU, sU, sU, sU, sU, sU] [(.int p1)] _
    refine X0.ldcInt hx hown (mvT hZ hw0) (g := (mkF m 1 #[sI p1, sI p2, sI p3, sI p4, sU, sU, sU, sU, sU, sU, sU, sU, sU, sU, sU, sU, sU] [(.int p1)])) rfl (hb hby at_1) _ ?_
    show own_S p e below s₁ m 3 #[sI p1, sI p2, sI p3, sI p4, sU, sU, sU, sU, sU, sU, sU, sU, sU, sU, sU, sU, sU] [(.int 2147483647), (.int p1)] _
    refine XS.iand X0.here hx rfl (hb hby at_3) rfl ?_
    exact k)
  obtain ⟨v4, hv4⟩ : ∃ z : Int32, z = (p1 &&& (2147483647 : Int32)) := ⟨_, rfl⟩
  have pre2 : ∀ t, own_S p e below s₁ m 4 #[sI p1, sI p2, sI p3, sI p4, sU, sU, sU, sU, sU, sU, sU, sU, sU, sU, sU, sU, sU] [(.int v4)] t → R0 t := fun t k => pre1 t (by subst hv4; exact k)
  have b4 : 0 ≤ v4.toInt := by rw [hv4]; exact (c_and p1 2147483647 (by decide)).1
  have pre3 : ∀ t, own_S p e below s₁ m 9 #[sI p1, sI p2, sI p3, sI p4, sI v4, sU, sU, sU, sU, sU, sU, sU, sU, sU, sU, sU, sU] [(.int (p4 &&& (1 : Int32)))] t → R0 t := fun t k => pre2 t (by
    refine XS.istore X0.here hx rfl (hb hby at_4) rfl (l' := #[sI p1, sI p2, sI p3, sI p4, sI v4, sU, sU, sU, sU, sU, sU, sU, sU, sU, sU, sU, sU]) rfl ?_
    show own_S p e below s₁ m 6 #[sI p1, sI p2, sI p3, sI p4, sI v4, sU, sU, sU, sU, sU, sU, sU, sU, sU, sU, sU, sU] [] _
    refine XS.iloadN X0.here hx rfl (hb hby at_6) rfl ?_
    show own_S p e below s₁ m 7 #[sI p1, sI p2, sI p3, sI p4, sI v4, sU, sU, sU, sU, sU, sU, sU, sU, sU, sU, sU, sU] [(.int p4)] _
    refine XS.iconst X0.here hx rfl (hb hby at_7) ?_
    show own_S p e below s₁ m 8 #[sI p1, sI p2, sI p3, sI p4, sI v4, sU, sU, sU, sU, sU, sU, sU, sU, sU, sU, sU, sU] [(.int 1), (.int p4)] _
    refine XS.iand X0.here hx rfl (hb hby at_8) rfl ?_
    exact k)
  obtain ⟨T4, Lc5, n4, X6, e7, N8, P9, pre10⟩ : ∃ (T4 : State) (Lc5 : List Loc) (n4 : Int32), Stand p l e room_1 s m #[(.int p1), (.int p2), (.int p3), (.int p4)] below meth c T4 Lc5 0 0 ∧ T4.heap = h0 ∧ Fr n0 Lc5 ∧ (0 ≤ n4.toInt) ∧ ∀ t, own_S p e below T4 m 19 #[sI p1, sI p2, sI p3, sI p4, sI n4, sU, sU, sU, sU, sU, sU, sU, sU, sU, sU, sU, sU] [] t → R0 t := by
    by_cases hc9 : (p4 &&& (1 : Int32)) = (0 : Int32)
    · have pre11 : ∀ t, own_S p e below s₁ m 19 #[sI p1, sI p2, sI p3, sI p4, sI v4, sU, sU, sU, sU, sU, sU, sU, sU, sU, sU, sU, sU] [] t → R0 t := fun t k => pre3 t (by
        refine XS.ifYes X0.here hx rfl (pc0 := 9) (pc' := 19) rfl (hb hby at_9) rfl ((if0 _ _).trans (teq hc9).1) (by decide) (by decide) ?_
        exact k)
      exact ⟨_, _, v4, X0, e0, N0, b4, pre11⟩
    · have pre12 : ∀ t, own_S p e below s₁ m 19 #[sI p1, sI p2, sI p3, sI p4, sI (v4 &&& (15 : Int32)), sU, sU, sU, sU, sU, sU, sU, sU, sU, sU, sU, sU] [] t → R0 t := fun t k => pre3 t (by
        refine XS.ifNo X0.here hx rfl (hb hby at_9) rfl ((if0 _ _).trans (feq hc9).1) ?_
        show own_S p e below s₁ m 12 #[sI p1, sI p2, sI p3, sI p4, sI v4, sU, sU, sU, sU, sU, sU, sU, sU, sU, sU, sU, sU] [] _
        refine XS.iload X0.here hx rfl (hb hby at_12) rfl ?_
        show own_S p e below s₁ m 14 #[sI p1, sI p2, sI p3, sI p4, sI v4, sU, sU, sU, sU, sU, sU, sU, sU, sU, sU, sU, sU] [(.int v4)] _
        refine XS.bipush X0.here hx rfl (hb hby at_14) ?_
        show own_S p e below s₁ m 16 #[sI p1, sI p2, sI p3, sI p4, sI v4, sU, sU, sU, sU, sU, sU, sU, sU, sU, sU, sU, sU] [(.int 15), (.int v4)] _
        refine XS.iand X0.here hx rfl (hb hby at_16) rfl ?_
        show own_S p e below s₁ m 17 #[sI p1, sI p2, sI p3, sI p4, sI v4, sU, sU, sU, sU, sU, sU, sU, sU, sU, sU, sU, sU] [(.int (v4 &&& (15 : Int32)))] _
        refine XS.istore X0.here hx rfl (hb hby at_17) rfl (l' := #[sI p1, sI p2, sI p3, sI p4, sI (v4 &&& (15 : Int32)), sU, sU, sU, sU, sU, sU, sU, sU, sU, sU, sU, sU]) rfl ?_
        exact k)
      exact ⟨_, _, (v4 &&& (15 : Int32)), X0, e0, N0, (c_and v4 15 (by decide)).1, pre12⟩
  have hn4 := P9
  have pre13 : ∀ t, own_S p e below T4 m 22 #[sI p1, sI p2, sI p3, sI p4, sI n4, sU, sU, sU, sU, sU, sU, sU, sU, sU, sU, sU, sU] [(.int (p4 &&& (2 : Int32)))] t → R0 t := fun t k => pre10 t (by
    refine XS.iloadN X6.here hx rfl (hb hby at_19) rfl ?_
    show own_S p e below T4 m 20 #[sI p1, sI p2, sI p3, sI p4, sI n4, sU, sU, sU, sU, sU, sU, sU, sU, sU, sU, sU, sU] [(.int p4)] _
    refine XS.iconst X6.here hx rfl (hb hby at_20) ?_
    show own_S p e below T4 m 21 #[sI p1, sI p2, sI p3, sI p4, sI n4, sU, sU, sU, sU, sU, sU, sU, sU, sU, sU, sU, sU] [(.int 2), (.int p4)] _
    refine XS.iand X6.here hx rfl (hb hby at_21) rfl ?_
    exact k)
  obtain ⟨T14, Lc15, k5, X16, e17, N18, P19, pre20⟩ : ∃ (T14 : State) (Lc15 : List Loc) (k5 : Int32), Stand p l e room_1 s m #[(.int p1), (.int p2), (.int p3), (.int p4)] below meth c T14 Lc15 0 0 ∧ T14.heap = h0 ∧ Fr n0 Lc15 ∧ (0 < k5.toInt) ∧ ∀ t, own_S p e below T14 m 47 #[sI p1, sI p2, sI p3, sI p4, sI n4, sI k5, sU, sU, sU, sU, sU, sU, sU, sU, sU, sU, sU] [] t → R0 t := by
    by_cases hc22 : (p4 &&& (2 : Int32)) = (0 : Int32)
    · have pre21 : ∀ t, own_S p e below T4 m 47 #[sI p1, sI p2, sI p3, sI p4, sI n4, sI ((1 : Int32) + ((p2 &&& (2147483647 : Int32)) % (2147483647 : Int32))), sU, sU, sU, sU, sU, sU, sU, sU, sU, sU, sU] [] t → R0 t := fun t k => pre13 t (by
        refine XS.ifYes X6.here hx rfl (pc0 := 22) (pc' := 36) rfl (hb hby at_22) rfl ((if0 _ _).trans (teq hc22).1) (by decide) (by decide) ?_
        show own_S p e below T4 m 36 #[sI p1, sI p2, sI p3, sI p4, sI n4, sU, sU, sU, sU, sU, sU, sU, sU, sU, sU, sU, sU] [] _
        refine XS.iconst X6.here hx rfl (hb hby at_36) ?_
        show own_S p e below T4 m 37 #[sI p1, sI p2, sI p3, sI p4, sI n4, sU, sU, sU, sU, sU, sU, sU, sU, sU, sU, sU, sU] [(.int 1)] _
        refine XS.iloadN X6.here hx rfl (hb hby at_37) rfl ?_
        show own_S p e below T4 m 38 #[sI p1, sI p2, sI p3, sI p4, sI n4, sU, sU, sU, sU, sU, sU, sU, sU, sU, sU, sU, sU] [(.int p2), (.int 1)] _
        refine X6.ldcInt hx hown (mvT hZ hw0) (g := (mkF m 38 #[sI p1, sI p2, sI p3, sI p4, sI n4, sU, sU, sU, sU, sU, sU, sU, sU, sU, sU, sU, sU] [(.int p2), (.int 1)])) rfl (hb hby at_38) _ ?_
        show own_S p e below T4 m 40 #[sI p1, sI p2, sI p3, sI p4, sI n4, sU, sU, sU, sU, sU, sU, sU, sU, sU, sU, sU, sU] [(.int 2147483647), (.int p2), (.int 1)] _
        refine XS.iand X6.here hx rfl (hb hby at_40) rfl ?_
        show own_S p e below T4 m 41 #[sI p1, sI p2, sI p3, sI p4, sI n4, sU, sU, sU, sU, sU, sU, sU, sU, sU, sU, sU, sU] [(.int (p2 &&& (2147483647 : Int32))), (.int 1)] _
        refine X6.ldcInt hx hown (mvT hZ hw0) (g := (mkF m 41 #[sI p1, sI p2, sI p3, sI p4, sI n4, sU, sU, sU, sU, sU, sU, sU, sU, sU, sU, sU, sU] [(.int (p2 &&& (2147483647 : Int32))), (.int 1)])) rfl (hb hby at_41) _ ?_
        show own_S p e below T4 m 43 #[sI p1, sI p2, sI p3, sI p4, sI n4, sU, sU, sU, sU, sU, sU, sU, sU, sU, sU, sU, sU] [(.int 2147483647), (.int (p2 &&& (2147483647 : Int32))), (.int 1)] _
        refine iremM X6 hx rfl (hb hby at_43) rfl (by decide) ?_
        show own_S p e below T4 m 44 #[sI p1, sI p2, sI p3, sI p4, sI n4, sU, sU, sU, sU, sU, sU, sU, sU, sU, sU, sU, sU] [(.int ((p2 &&& (2147483647 : Int32)) % (2147483647 : Int32))), (.int 1)] _
        refine XS.iadd X6.here hx rfl (hb hby at_44) rfl ?_
        show own_S p e below T4 m 45 #[sI p1, sI p2, sI p3, sI p4, sI n4, sU, sU, sU, sU, sU, sU, sU, sU, sU, sU, sU, sU] [(.int ((1 : Int32) + ((p2 &&& (2147483647 : Int32)) % (2147483647 : Int32))))] _
        refine XS.istore X6.here hx rfl (hb hby at_45) rfl (l' := #[sI p1, sI p2, sI p3, sI p4, sI n4, sI ((1 : Int32) + ((p2 &&& (2147483647 : Int32)) % (2147483647 : Int32))), sU, sU, sU, sU, sU, sU, sU, sU, sU, sU, sU]) rfl ?_
        exact k)
      exact ⟨_, _, ((1 : Int32) + ((p2 &&& (2147483647 : Int32)) % (2147483647 : Int32))), X6, e7, N8, own_work p2, pre21⟩
    · have pre22 : ∀ t, own_S p e below T4 m 47 #[sI p1, sI p2, sI p3, sI p4, sI n4, sI ((1 : Int32) + (p2 &&& (7 : Int32))), sU, sU, sU, sU, sU, sU, sU, sU, sU, sU, sU] [] t → R0 t := fun t k => pre13 t (by
        refine XS.ifNo X6.here hx rfl (hb hby at_22) rfl ((if0 _ _).trans (feq hc22).1) ?_
        show own_S p e below T4 m 25 #[sI p1, sI p2, sI p3, sI p4, sI n4, sU, sU, sU, sU, sU, sU, sU, sU, sU, sU, sU, sU] [] _
        refine XS.iconst X6.here hx rfl (hb hby at_25) ?_
        show own_S p e below T4 m 26 #[sI p1, sI p2, sI p3, sI p4, sI n4, sU, sU, sU, sU, sU, sU, sU, sU, sU, sU, sU, sU] [(.int 1)] _
        refine XS.iloadN X6.here hx rfl (hb hby at_26) rfl ?_
        show own_S p e below T4 m 27 #[sI p1, sI p2, sI p3, sI p4, sI n4, sU, sU, sU, sU, sU, sU, sU, sU, sU, sU, sU, sU] [(.int p2), (.int 1)] _
        refine XS.bipush X6.here hx rfl (hb hby at_27) ?_
        show own_S p e below T4 m 29 #[sI p1, sI p2, sI p3, sI p4, sI n4, sU, sU, sU, sU, sU, sU, sU, sU, sU, sU, sU, sU] [(.int 7), (.int p2), (.int 1)] _
        refine XS.iand X6.here hx rfl (hb hby at_29) rfl ?_
        show own_S p e below T4 m 30 #[sI p1, sI p2, sI p3, sI p4, sI n4, sU, sU, sU, sU, sU, sU, sU, sU, sU, sU, sU, sU] [(.int (p2 &&& (7 : Int32))), (.int 1)] _
        refine XS.iadd X6.here hx rfl (hb hby at_30) rfl ?_
        show own_S p e below T4 m 31 #[sI p1, sI p2, sI p3, sI p4, sI n4, sU, sU, sU, sU, sU, sU, sU, sU, sU, sU, sU, sU] [(.int ((1 : Int32) + (p2 &&& (7 : Int32))))] _
        refine XS.istore X6.here hx rfl (hb hby at_31) rfl (l' := #[sI p1, sI p2, sI p3, sI p4, sI n4, sI ((1 : Int32) + (p2 &&& (7 : Int32))), sU, sU, sU, sU, sU, sU, sU, sU, sU, sU, sU]) rfl ?_
        show own_S p e below T4 m 33 #[sI p1, sI p2, sI p3, sI p4, sI n4, sI ((1 : Int32) + (p2 &&& (7 : Int32))), sU, sU, sU, sU, sU, sU, sU, sU, sU, sU, sU] [] _
        refine XS.goto X6.here hx rfl (pc0 := 33) (pc' := 47) rfl (hb hby at_33) (by decide) (by decide) ?_
        exact k)
      exact ⟨_, _, ((1 : Int32) + (p2 &&& (7 : Int32))), X6, e7, N8, own_work7 p2, pre22⟩
  have hk5 := P19
  have pre23 : ∀ t, own_S p e below T14 m 50 #[sI p1, sI p2, sI p3, sI p4, sI n4, sI k5, sU, sU, sU, sU, sU, sU, sU, sU, sU, sU, sU] [(.long (k5.toInt64))] t → R0 t := fun t k => pre20 t (by
    refine XS.iload X16.here hx rfl (hb hby at_47) rfl ?_
    show own_S p e below T14 m 49 #[sI p1, sI p2, sI p3, sI p4, sI n4, sI k5, sU, sU, sU, sU, sU, sU, sU, sU, sU, sU, sU] [(.int k5)] _
    refine XS.i2l X16.here hx rfl (hb hby at_49) rfl ?_
    exact k)
  obtain ⟨v6, hv6⟩ : ∃ z : Int64, z = (k5.toInt64) := ⟨_, rfl⟩
  have pre24 : ∀ t, own_S p e below T14 m 50 #[sI p1, sI p2, sI p3, sI p4, sI n4, sI k5, sU, sU, sU, sU, sU, sU, sU, sU, sU, sU, sU] [(.long v6)] t → R0 t := fun t k => pre23 t (by subst hv6; exact k)
  have b6 : v6.toInt = k5.toInt := by rw [hv6, c_i2l]
  have pre25 : ∀ t, own_S p e below T14 m 55 #[sI p1, sI p2, sI p3, sI p4, sI n4, sI k5, sJ v6, sW, sU, sU, sU, sU, sU, sU, sU, sU, sU] [(.long (n4.toInt64))] t → R0 t := fun t k => pre24 t (by
    refine XS.lstore X16.here hx rfl (hb hby at_50) rfl (l' := #[sI p1, sI p2, sI p3, sI p4, sI n4, sI k5, sJ v6, sW, sU, sU, sU, sU, sU, sU, sU, sU, sU]) rfl ?_
    show own_S p e below T14 m 52 #[sI p1, sI p2, sI p3, sI p4, sI n4, sI k5, sJ v6, sW, sU, sU, sU, sU, sU, sU, sU, sU, sU] [] _
    refine XS.iload X16.here hx rfl (hb hby at_52) rfl ?_
    show own_S p e below T14 m 54 #[sI p1, sI p2, sI p3, sI p4, sI n4, sI k5, sJ v6, sW, sU, sU, sU, sU, sU, sU, sU, sU, sU] [(.int n4)] _
    refine XS.i2l X16.here hx rfl (hb hby at_54) rfl ?_
    exact k)
  obtain ⟨v8, hv8⟩ : ∃ z : Int64, z = (n4.toInt64) := ⟨_, rfl⟩
  have pre26 : ∀ t, own_S p e below T14 m 55 #[sI p1, sI p2, sI p3, sI p4, sI n4, sI k5, sJ v6, sW, sU, sU, sU, sU, sU, sU, sU, sU, sU] [(.long v8)] t → R0 t := fun t k => pre25 t (by subst hv8; exact k)
  have b8 : v8.toInt = n4.toInt := by rw [hv8, c_i2l]
  have pre27 : ∀ t, own_S p e below T14 m 62 #[sI p1, sI p2, sI p3, sI p4, sI n4, sI k5, sJ v6, sW, sJ v8, sW, sU, sU, sU, sU, sU, sU, sU] [(.long ((p3.toInt64) - ((p3.toInt64) / v6) * v6))] t → R0 t := fun t k => pre26 t (by
    refine XS.lstore X16.here hx rfl (hb hby at_55) rfl (l' := #[sI p1, sI p2, sI p3, sI p4, sI n4, sI k5, sJ v6, sW, sJ v8, sW, sU, sU, sU, sU, sU, sU, sU]) rfl ?_
    show own_S p e below T14 m 57 #[sI p1, sI p2, sI p3, sI p4, sI n4, sI k5, sJ v6, sW, sJ v8, sW, sU, sU, sU, sU, sU, sU, sU] [] _
    refine XS.iloadN X16.here hx rfl (hb hby at_57) rfl ?_
    show own_S p e below T14 m 58 #[sI p1, sI p2, sI p3, sI p4, sI n4, sI k5, sJ v6, sW, sJ v8, sW, sU, sU, sU, sU, sU, sU, sU] [(.int p3)] _
    refine XS.i2l X16.here hx rfl (hb hby at_58) rfl ?_
    show own_S p e below T14 m 59 #[sI p1, sI p2, sI p3, sI p4, sI n4, sI k5, sJ v6, sW, sJ v8, sW, sU, sU, sU, sU, sU, sU, sU] [(.long (p3.toInt64))] _
    refine XS.lload X16.here hx rfl (hb hby at_59) rfl ?_
    show own_S p e below T14 m 61 #[sI p1, sI p2, sI p3, sI p4, sI n4, sI k5, sJ v6, sW, sJ v8, sW, sU, sU, sU, sU, sU, sU, sU] [(.long v6), (.long (p3.toInt64))] _
    refine XS.lrem X16.here hx rfl (hb hby at_61) rfl (by intro q; rw [q] at b6; rw [← b6] at hk5; exact absurd hk5 (by decide)) ?_
    exact k)
  obtain ⟨v10, hv10⟩ : ∃ z : Int64, z = ((p3.toInt64) - ((p3.toInt64) / v6) * v6) := ⟨_, rfl⟩
  have pre28 : ∀ t, own_S p e below T14 m 62 #[sI p1, sI p2, sI p3, sI p4, sI n4, sI k5, sJ v6, sW, sJ v8, sW, sU, sU, sU, sU, sU, sU, sU] [(.long v10)] t → R0 t := fun t k => pre27 t (by subst hv10; exact k)
  have hrem := own_rem p3 k5 hk5 v6 v10 hv6 hv10
  have pre29 : ∀ t, own_S p e below T14 m 68 #[sI p1, sI p2, sI p3, sI p4, sI n4, sI k5, sJ v6, sW, sJ v8, sW, sJ v10, sW, sU, sU, sU, sU, sU] [(.int (lcmpW v10 (0 : Int64)))] t → R0 t := fun t k => pre28 t (by
    refine XS.lstore X16.here hx rfl (hb hby at_62) rfl (l' := #[sI p1, sI p2, sI p3, sI p4, sI n4, sI k5, sJ v6, sW, sJ v8, sW, sJ v10, sW, sU, sU, sU, sU, sU]) rfl ?_
    show own_S p e below T14 m 64 #[sI p1, sI p2, sI p3, sI p4, sI n4, sI k5, sJ v6, sW, sJ v8, sW, sJ v10, sW, sU, sU, sU, sU, sU] [] _
    refine XS.lload X16.here hx rfl (hb hby at_64) rfl ?_
    show own_S p e below T14 m 66 #[sI p1, sI p2, sI p3, sI p4, sI n4, sI k5, sJ v6, sW, sJ v8, sW, sJ v10, sW, sU, sU, sU, sU, sU] [(.long v10)] _
    refine XS.lconst X16.here hx rfl (hb hby at_66) ?_
    show own_S p e below T14 m 67 #[sI p1, sI p2, sI p3, sI p4, sI n4, sI k5, sJ v6, sW, sJ v8, sW, sJ v10, sW, sU, sU, sU, sU, sU] [(.long 0), (.long v10)] _
    refine XS.lcmp X16.here hx rfl (hb hby at_67) rfl ?_
    exact k)
  by_cases hc68 : v10 < (0 : Int64)
  · have pre30 : ∀ t, own_S p e below T14 m 81 #[sI p1, sI p2, sI p3, sI p4, sI n4, sI k5, sJ v6, sW, sJ v8, sW, sJ v10, sW, sU, sU, sU, sU, sU] [(.long (v10 + v6))] t → R0 t := fun t k => pre29 t (by
      refine XS.ifNo X16.here hx rfl (hb hby at_68) rfl ((if0 _ _).trans (tlt ((lw_lt _ _).mpr hc68)).2.1) ?_
      show own_S p e below T14 m 71 #[sI p1, sI p2, sI p3, sI p4, sI n4, sI k5, sJ v6, sW, sJ v8, sW, sJ v10, sW, sU, sU, sU, sU, sU] [] _
      refine XS.lload X16.here hx rfl (hb hby at_71) rfl ?_
      show own_S p e below T14 m 73 #[sI p1, sI p2, sI p3, sI p4, sI n4, sI k5, sJ v6, sW, sJ v8, sW, sJ v10, sW, sU, sU, sU, sU, sU] [(.long v10)] _
      refine XS.lload X16.here hx rfl (hb hby at_73) rfl ?_
      show own_S p e below T14 m 75 #[sI p1, sI p2, sI p3, sI p4, sI n4, sI k5, sJ v6, sW, sJ v8, sW, sJ v10, sW, sU, sU, sU, sU, sU] [(.long v6), (.long v10)] _
      refine XS.ladd X16.here hx rfl (hb hby at_75) rfl ?_
      show own_S p e below T14 m 76 #[sI p1, sI p2, sI p3, sI p4, sI n4, sI k5, sJ v6, sW, sJ v8, sW, sJ v10, sW, sU, sU, sU, sU, sU] [(.long (v10 + v6))] _
      refine XS.goto X16.here hx rfl (pc0 := 76) (pc' := 81) rfl (hb hby at_76) (by decide) (by decide) ?_
      exact k)
    obtain ⟨v12, hv12⟩ : ∃ z : Int64, z = (v10 + v6) := ⟨_, rfl⟩
    have pre31 : ∀ t, own_S p e below T14 m 81 #[sI p1, sI p2, sI p3, sI p4, sI n4, sI k5, sJ v6, sW, sJ v8, sW, sJ v10, sW, sU, sU, sU, sU, sU] [(.long v12)] t → R0 t := fun t k => pre30 t (by subst hv12; exact k)
    have b12 : v12.toInt = p3.toInt % k5.toInt := by rw [hv12]; exact hrem.1 hc68
    have f0 := Int.emod_nonneg p3.toInt (show k5.toInt ≠ 0 by omega)
    have f1 := Int.emod_lt_of_pos p3.toInt hk5
    have pre32 : ∀ t, own_S p e below T14 m 83 #[sI p1, sI p2, sI p3, sI p4, sI n4, sI k5, sJ v6, sW, sJ v8, sW, sJ v10, sW, sJ v12, sW, sU, sU, sU] [] t → R0 t := fun t k => pre31 t (by
      refine XS.lstore X16.here hx rfl (hb hby at_81) rfl (l' := #[sI p1, sI p2, sI p3, sI p4, sI n4, sI k5, sJ v6, sW, sJ v8, sW, sJ v10, sW, sJ v12, sW, sU, sU, sU]) rfl ?_
      exact k)
    obtain ⟨T33, h33, X33, e33, E33, A33, D33, -, st33⟩ := newO X16 hx hZ hown hw1 hw2 hw3 e17 (g := (mkF m 83 #[sI p1, sI p2, sI p3, sI p4, sI n4, sI k5, sJ v6, sW, sJ v8, sW, sJ v10, sW, sJ v12, sW, sU, sU, sU] [])) rfl (hb hby at_83) (by decide) (by decide)
    obtain ⟨b33, g33⟩ : ∃ z, z = h0.size := ⟨_, rfl⟩
    rw [← g33] at A33 D33 st33
    have g_b33 : n0 ≤ b33 := Nat.le_trans Z0 (Nat.le_of_eq g33.symm)
    have f34 := Nat.le_trans Z0 E33.1
    have f35 : Fld Z h33 b33 "com/example/murmuration/murmuration/reduction/Blocks" "length" "I" (.int 0) := D33 (Or.inr hw16) (ty := .int) (by decide)
    have f36 : Fld Z h33 b33 "com/example/murmuration/murmuration/reduction/Blocks" "workers" "I" (.int 0) := D33 (Or.inr hw18) (ty := .int) (by decide)
    have pre37 : ∀ t, own_S p e below T33 m 91 #[sI p1, sI p2, sI p3, sI p4, sI n4, sI k5, sJ v6, sW, sJ v8, sW, sJ v10, sW, sJ v12, sW, sU, sU, sU] [(.int k5), (.int n4), (.ref b33), (.ref b33)] t → R0 t := fun t k => pre32 t (by
      refine st33 _ ?_
      show own_S p e below T33 m 86 #[sI p1, sI p2, sI p3, sI p4, sI n4, sI k5, sJ v6, sW, sJ v8, sW, sJ v10, sW, sJ v12, sW, sU, sU, sU] [(.ref b33)] _
      refine XS.dup X33.here hx rfl (hb hby at_86) rfl rfl ?_
      show own_S p e below T33 m 87 #[sI p1, sI p2, sI p3, sI p4, sI n4, sI k5, sJ v6, sW, sJ v8, sW, sJ v10, sW, sJ v12, sW, sU, sU, sU] [(.ref b33), (.ref b33)] _
      refine XS.iload X33.here hx rfl (hb hby at_87) rfl ?_
      show own_S p e below T33 m 89 #[sI p1, sI p2, sI p3, sI p4, sI n4, sI k5, sJ v6, sW, sJ v8, sW, sJ v10, sW, sJ v12, sW, sU, sU, sU] [(.int n4), (.ref b33), (.ref b33)] _
      refine XS.iload X33.here hx rfl (hb hby at_89) rfl ?_
      exact k)
    obtain ⟨_, _, ⟨T38, L38, k38, n38⟩, -, X38, ⟨Lc38, hQ38, l38, y38, z38⟩, st38⟩ := X33.specialBack hx (y := own_y2) rfl hown (mvT hZ hw4) (mvT hZ hw5) (mvT hZ hw6) (by decide) (backOf (W := 1) (own_rm1 l Z a0 hw [] b33 n4 k5 (.int 0) (.int 0) h33 n0 f34 A33 f35 f36 g_b33) hZ hw6 hw3 (by decide) (by decide)) (g := (mkF m 91 #[sI p1, sI p2, sI p3, sI p4, sI n4, sI k5, sJ v6, sW, sJ v8, sW, sJ v10, sW, sJ v12, sW, sU, sU, sU] [(.int k5), (.int n4), (.ref b33), (.ref b33)])) rfl (by rw [hml]; rfl) (Steps.refl _) (a := b33) (argsL := [(.int n4), (.int k5)]) (rest := [(.ref b33)]) (lenOf own_pd_2 rfl) rfl (by show 2 * 0 + _ ≤ _; exact Nat.le_of_eq rfl) (hb hby at_91) (fun _ _ => ⟨rfl, e33, (by decide : 1 + 0 ≤ _), (by decide : 2 + 0 ≤ _)⟩)
    dsimp only [Pt.U, Pt.locs, Pt.cells, Pt.slots] at X38 l38 y38 z38 st38 hQ38
    subst l38 y38 z38
    obtain ⟨rfl, N38q, K38, ex38, fx38_0, fx38_1⟩ := hQ38
    have f39 := Nat.le_trans f34 K38.1
    have f40 := A33.keep K38
    have N38 := Fr.app N18 N38q
    have pre41 : ∀ t, own_S p e below T38 m 95 #[sI p1, sI p2, sI p3, sI p4, sI n4, sI k5, sJ v6, sW, sJ v8, sW, sJ v10, sW, sJ v12, sW, sU, sU, sU] [(.int p3), (.ref b33)] t → R0 t := fun t k => pre37 t (by
      refine st38.trans ?_
      show own_S p e below T38 m 94 #[sI p1, sI p2, sI p3, sI p4, sI n4, sI k5, sJ v6, sW, sJ v8, sW, sJ v10, sW, sJ v12, sW, sU, sU, sU] [(.ref b33)] _
      refine XS.iloadN X38.here hx rfl (hb hby at_94) rfl ?_
      exact k)
    have hp42 : 0 < k5.toInt := hk5
    obtain ⟨cq43, kq43, q43a, q43b, q43c⟩ := isOf hZ rfl ex38
    obtain ⟨_, _, ⟨T43, L43, k43, n43⟩, -, X43, ⟨Lc43, hQ43, l43, y43, z43⟩, st43⟩ := X38.virtualBack hx (y := own_y3) (z := own_y3) hown (mvT hZ hw19) (mvT hZ hw20) (notFace_of_selects (args := #[]) (mvT hZ hw22)) (mvT hZ hw22) (mvT hZ hw21) (by decide) (backOf (W := 0) (own_rm4 l Z a0 hw [] b33 p3 n4 k5 T38.heap n0 f39 fx38_0 fx38_1 hp42) hZ hw23 hw3 (by decide) (by decide)) q43a q43c (g := (mkF m 95 #[sI p1, sI p2, sI p3, sI p4, sI n4, sI k5, sJ v6, sW, sJ v8, sW, sJ v10, sW, sJ v12, sW, sU, sU, sU] [(.int p3), (.ref b33)])) rfl (by rw [hml]; rfl) (Steps.refl _) (argsL := [(.int p3)]) (rest := []) (lenOf own_pd_3 rfl) rfl (by show 2 * 0 + _ ≤ _; exact Nat.le_of_eq rfl) (hb hby at_95) (fun _ _ => ⟨rfl, rfl, (by decide : 1 + 0 ≤ _), (by decide : 2 + 0 ≤ _)⟩)
    dsimp only [Pt.U, Pt.locs, Pt.cells, Pt.slots] at X43 l43 y43 z43 st43 hQ43
    subst l43 y43 z43
    obtain ⟨rfl, N43q, eh43⟩ := hQ43
    have N43 := Fr.app N38 N43q
    have pre44 : ∀ t, own_S p e below T43 m 98 #[sI p1, sI p2, sI p3, sI p4, sI n4, sI k5, sJ v6, sW, sJ v8, sW, sJ v10, sW, sJ v12, sW, sU, sU, sU] [(.int (own_start p3 n4 k5))] t → R0 t := fun t k => pre41 t (by
      refine st43.trans ?_
      exact k)
    obtain ⟨v14, hv14⟩ : ∃ z : Int32, z = (own_start p3 n4 k5) := ⟨_, rfl⟩
    have pre45 : ∀ t, own_S p e below T43 m 98 #[sI p1, sI p2, sI p3, sI p4, sI n4, sI k5, sJ v6, sW, sJ v8, sW, sJ v10, sW, sJ v12, sW, sU, sU, sU] [(.int v14)] t → R0 t := fun t k => pre44 t (by subst hv14; exact k)
    have b14 : v14.toInt = (p3.toInt % k5.toInt) * n4.toInt / k5.toInt := by rw [hv14]; exact own_start_int p3 n4 k5 hk5 hn4
    have pre46 : ∀ t, own_S p e below T43 m 103 #[sI p1, sI p2, sI p3, sI p4, sI n4, sI k5, sJ v6, sW, sJ v8, sW, sJ v10, sW, sJ v12, sW, sI v14, sU, sU] [(.long (v14.toInt64))] t → R0 t := fun t k => pre45 t (by
      refine XS.istore X43.here hx rfl (hb hby at_98) rfl (l' := #[sI p1, sI p2, sI p3, sI p4, sI n4, sI k5, sJ v6, sW, sJ v8, sW, sJ v10, sW, sJ v12, sW, sI v14, sU, sU]) rfl ?_
      show own_S p e below T43 m 100 #[sI p1, sI p2, sI p3, sI p4, sI n4, sI k5, sJ v6, sW, sJ v8, sW, sJ v10, sW, sJ v12, sW, sI v14, sU, sU] [] _
      refine XS.iload X43.here hx rfl (hb hby at_100) rfl ?_
      show own_S p e below T43 m 102 #[sI p1, sI p2, sI p3, sI p4, sI n4, sI k5, sJ v6, sW, sJ v8, sW, sJ v10, sW, sJ v12, sW, sI v14, sU, sU] [(.int v14)] _
      refine XS.i2l X43.here hx rfl (hb hby at_102) rfl ?_
      exact k)
    obtain ⟨v15, hv15⟩ : ∃ z : Int64, z = (v14.toInt64) := ⟨_, rfl⟩
    have pre47 : ∀ t, own_S p e below T43 m 103 #[sI p1, sI p2, sI p3, sI p4, sI n4, sI k5, sJ v6, sW, sJ v8, sW, sJ v10, sW, sJ v12, sW, sI v14, sU, sU] [(.long v15)] t → R0 t := fun t k => pre46 t (by subst hv15; exact k)
    have b15 : v15.toInt = (p3.toInt % k5.toInt) * n4.toInt / k5.toInt := by rw [hv15, c_i2l, b14]
    have hfin := own_fin v12 v8 v6 v15 _ _ _ b12 b8 b6 f0 f1 hn4 (rng32 k5).2 (rng32 n4).2 b15
    have pre48 : ∀ t, own_S p e below T43 m 109 #[sI p1, sI p2, sI p3, sI p4, sI n4, sI k5, sJ v6, sW, sJ v8, sW, sJ v10, sW, sJ v12, sW, sI v14, sJ v15, sW] [(.int (lcmpW v15 (0 : Int64)))] t → R0 t := fun t k => pre47 t (by
      refine XS.lstore X43.here hx rfl (hb hby at_103) rfl (l' := #[sI p1, sI p2, sI p3, sI p4, sI n4, sI k5, sJ v6, sW, sJ v8, sW, sJ v10, sW, sJ v12, sW, sI v14, sJ v15, sW]) rfl ?_
      show own_S p e below T43 m 105 #[sI p1, sI p2, sI p3, sI p4, sI n4, sI k5, sJ v6, sW, sJ v8, sW, sJ v10, sW, sJ v12, sW, sI v14, sJ v15, sW] [] _
      refine XS.lload X43.here hx rfl (hb hby at_105) rfl ?_
      show own_S p e below T43 m 107 #[sI p1, sI p2, sI p3, sI p4, sI n4, sI k5, sJ v6, sW, sJ v8, sW, sJ v10, sW, sJ v12, sW, sI v14, sJ v15, sW] [(.long v15)] _
      refine XS.lconst X43.here hx rfl (hb hby at_107) ?_
      show own_S p e below T43 m 108 #[sI p1, sI p2, sI p3, sI p4, sI n4, sI k5, sJ v6, sW, sJ v8, sW, sJ v10, sW, sJ v12, sW, sI v14, sJ v15, sW] [(.long 0), (.long v15)] _
      refine XS.lcmp X43.here hx rfl (hb hby at_108) rfl ?_
      exact k)
    have hc49 : ¬ (v15 < (0 : Int64)) := hfin.1
    have pre50 : ∀ t, own_S p e below T43 m 123 #[sI p1, sI p2, sI p3, sI p4, sI n4, sI k5, sJ v6, sW, sJ v8, sW, sJ v10, sW, sJ v12, sW, sI v14, sJ v15, sW] [(.int (lcmpW (v15 * v6) (v12 * v8)))] t → R0 t := fun t k => pre48 t (by
      refine XS.ifNo X43.here hx rfl (hb hby at_109) rfl ((if0 _ _).trans (flt (mt (lw_lt _ _).mp hc49)).1) ?_
      show own_S p e below T43 m 112 #[sI p1, sI p2, sI p3, sI p4, sI n4, sI k5, sJ v6, sW, sJ v8, sW, sJ v10, sW, sJ v12, sW, sI v14, sJ v15, sW] [] _
      refine XS.lload X43.here hx rfl (hb hby at_112) rfl ?_
      show own_S p e below T43 m 114 #[sI p1, sI p2, sI p3, sI p4, sI n4, sI k5, sJ v6, sW, sJ v8, sW, sJ v10, sW, sJ v12, sW, sI v14, sJ v15, sW] [(.long v15)] _
      refine XS.lload X43.here hx rfl (hb hby at_114) rfl ?_
      show own_S p e below T43 m 116 #[sI p1, sI p2, sI p3, sI p4, sI n4, sI k5, sJ v6, sW, sJ v8, sW, sJ v10, sW, sJ v12, sW, sI v14, sJ v15, sW] [(.long v6), (.long v15)] _
      refine XS.lmul X43.here hx rfl (hb hby at_116) rfl ?_
      show own_S p e below T43 m 117 #[sI p1, sI p2, sI p3, sI p4, sI n4, sI k5, sJ v6, sW, sJ v8, sW, sJ v10, sW, sJ v12, sW, sI v14, sJ v15, sW] [(.long (v15 * v6))] _
      refine XS.lload X43.here hx rfl (hb hby at_117) rfl ?_
      show own_S p e below T43 m 119 #[sI p1, sI p2, sI p3, sI p4, sI n4, sI k5, sJ v6, sW, sJ v8, sW, sJ v10, sW, sJ v12, sW, sI v14, sJ v15, sW] [(.long v12), (.long (v15 * v6))] _
      refine XS.lload X43.here hx rfl (hb hby at_119) rfl ?_
      show own_S p e below T43 m 121 #[sI p1, sI p2, sI p3, sI p4, sI n4, sI k5, sJ v6, sW, sJ v8, sW, sJ v10, sW, sJ v12, sW, sI v14, sJ v15, sW] [(.long v8), (.long v12), (.long (v15 * v6))] _
      refine XS.lmul X43.here hx rfl (hb hby at_121) rfl ?_
      show own_S p e below T43 m 122 #[sI p1, sI p2, sI p3, sI p4, sI n4, sI k5, sJ v6, sW, sJ v8, sW, sJ v10, sW, sJ v12, sW, sI v14, sJ v15, sW] [(.long (v12 * v8)), (.long (v15 * v6))] _
      refine XS.lcmp X43.here hx rfl (hb hby at_122) rfl ?_
      exact k)
    have hc51 : ¬ ((v12 * v8) < (v15 * v6)) := hfin.2.1
    have pre52 : ∀ t, own_S p e below T43 m 139 #[sI p1, sI p2, sI p3, sI p4, sI n4, sI k5, sJ v6, sW, sJ v8, sW, sJ v10, sW, sJ v12, sW, sI v14, sJ v15, sW] [(.int (lcmpW (v12 * v8) ((v15 + (1 : Int64)) * v6)))] t → R0 t := fun t k => pre50 t (by
      refine XS.ifNo X43.here hx rfl (hb hby at_123) rfl ((if0 _ _).trans (flt (mt (lw_gt _ _).mp hc51)).2.2.1) ?_
      show own_S p e below T43 m 126 #[sI p1, sI p2, sI p3, sI p4, sI n4, sI k5, sJ v6, sW, sJ v8, sW, sJ v10, sW, sJ v12, sW, sI v14, sJ v15, sW] [] _
      refine XS.lload X43.here hx rfl (hb hby at_126) rfl ?_
      show own_S p e below T43 m 128 #[sI p1, sI p2, sI p3, sI p4, sI n4, sI k5, sJ v6, sW, sJ v8, sW, sJ v10, sW, sJ v12, sW, sI v14, sJ v15, sW] [(.long v12)] _
      refine XS.lload X43.here hx rfl (hb hby at_128) rfl ?_
      show own_S p e below T43 m 130 #[sI p1, sI p2, sI p3, sI p4, sI n4, sI k5, sJ v6, sW, sJ v8, sW, sJ v10, sW, sJ v12, sW, sI v14, sJ v15, sW] [(.long v8), (.long v12)] _
      refine XS.lmul X43.here hx rfl (hb hby at_130) rfl ?_
      show own_S p e below T43 m 131 #[sI p1, sI p2, sI p3, sI p4, sI n4, sI k5, sJ v6, sW, sJ v8, sW, sJ v10, sW, sJ v12, sW, sI v14, sJ v15, sW] [(.long (v12 * v8))] _
      refine XS.lload X43.here hx rfl (hb hby at_131) rfl ?_
      show own_S p e below T43 m 133 #[sI p1, sI p2, sI p3, sI p4, sI n4, sI k5, sJ v6, sW, sJ v8, sW, sJ v10, sW, sJ v12, sW, sI v14, sJ v15, sW] [(.long v15), (.long (v12 * v8))] _
      refine XS.lconst X43.here hx rfl (hb hby at_133) ?_
      show own_S p e below T43 m 134 #[sI p1, sI p2, sI p3, sI p4, sI n4, sI k5, sJ v6, sW, sJ v8, sW, sJ v10, sW, sJ v12, sW, sI v14, sJ v15, sW] [(.long 1), (.long v15), (.long (v12 * v8))] _
      refine XS.ladd X43.here hx rfl (hb hby at_134) rfl ?_
      show own_S p e below T43 m 135 #[sI p1, sI p2, sI p3, sI p4, sI n4, sI k5, sJ v6, sW, sJ v8, sW, sJ v10, sW, sJ v12, sW, sI v14, sJ v15, sW] [(.long (v15 + (1 : Int64))), (.long (v12 * v8))] _
      refine XS.lload X43.here hx rfl (hb hby at_135) rfl ?_
      show own_S p e below T43 m 137 #[sI p1, sI p2, sI p3, sI p4, sI n4, sI k5, sJ v6, sW, sJ v8, sW, sJ v10, sW, sJ v12, sW, sI v14, sJ v15, sW] [(.long v6), (.long (v15 + (1 : Int64))), (.long (v12 * v8))] _
      refine XS.lmul X43.here hx rfl (hb hby at_137) rfl ?_
      show own_S p e below T43 m 138 #[sI p1, sI p2, sI p3, sI p4, sI n4, sI k5, sJ v6, sW, sJ v8, sW, sJ v10, sW, sJ v12, sW, sI v14, sJ v15, sW] [(.long ((v15 + (1 : Int64)) * v6)), (.long (v12 * v8))] _
      refine XS.lcmp X43.here hx rfl (hb hby at_138) rfl ?_
      exact k)
    have hc53 : (v12 * v8) < ((v15 + (1 : Int64)) * v6) := hfin.2.2
    have pre54 : ∀ t, own_S p e below T43 m 147 #[sI p1, sI p2, sI p3, sI p4, sI n4, sI k5, sJ v6, sW, sJ v8, sW, sJ v10, sW, sJ v12, sW, sI v14, sJ v15, sW] [(.int 1)] t → R0 t := fun t k => pre52 t (by
      refine XS.ifNo X43.here hx rfl (hb hby at_139) rfl ((if0 _ _).trans (tlt ((lw_lt _ _).mpr hc53)).2.1) ?_
      show own_S p e below T43 m 142 #[sI p1, sI p2, sI p3, sI p4, sI n4, sI k5, sJ v6, sW, sJ v8, sW, sJ v10, sW, sJ v12, sW, sI v14, sJ v15, sW] [] _
      refine XS.iconst X43.here hx rfl (hb hby at_142) ?_
      show own_S p e below T43 m 143 #[sI p1, sI p2, sI p3, sI p4, sI n4, sI k5, sJ v6, sW, sJ v8, sW, sJ v10, sW, sJ v12, sW, sI v14, sJ v15, sW] [(.int 1)] _
      refine XS.goto X43.here hx rfl (pc0 := 143) (pc' := 147) rfl (hb hby at_143) (by decide) (by decide) ?_
      exact k)
    obtain ⟨fs, hr, hrun, hended, hW, hsame⟩ := X43.leave (v := some (.int 1)) (fun h => by rw [Bd.returns] at h; cases h)
    refine ⟨_, _, cast (congrFun hR0 _) (pre54 _ (retN X43 hx (t := .boolean) Bd.returns (by simp) (hb hby at_147) hr)), hrun, hended, _, _, rfl, ?_, ⟨_, rfl⟩, hW, hsame.mono (by decide) (by decide)⟩
    show own_Q0 Z _ _ _ _ h0 n0 _ T43.heap _
    rw [eh43]
    exact ⟨rfl, N43⟩
  · have pre55 : ∀ t, own_S p e below T14 m 81 #[sI p1, sI p2, sI p3, sI p4, sI n4, sI k5, sJ v6, sW, sJ v8, sW, sJ v10, sW, sU, sU, sU, sU, sU] [(.long v10)] t → R0 t := fun t k => pre29 t (by
      refine XS.ifYes X16.here hx rfl (pc0 := 68) (pc' := 79) rfl (hb hby at_68) rfl ((if0 _ _).trans (flt (mt (lw_lt _ _).mp hc68)).2.1) (by decide) (by decide) ?_
      show own_S p e below T14 m 79 #[sI p1, sI p2, sI p3, sI p4, sI n4, sI k5, sJ v6, sW, sJ v8, sW, sJ v10, sW, sU, sU, sU, sU, sU] [] _
      refine XS.lload X16.here hx rfl (hb hby at_79) rfl ?_
      exact k)
    obtain ⟨v12, hv12⟩ : ∃ z : Int64, z = v10 := ⟨_, rfl⟩
    have pre56 : ∀ t, own_S p e below T14 m 81 #[sI p1, sI p2, sI p3, sI p4, sI n4, sI k5, sJ v6, sW, sJ v8, sW, sJ v10, sW, sU, sU, sU, sU, sU] [(.long v12)] t → R0 t := fun t k => pre55 t (by subst hv12; exact k)
    have b12 : v12.toInt = p3.toInt % k5.toInt := by rw [hv12]; exact hrem.2 hc68
    have f0 := Int.emod_nonneg p3.toInt (show k5.toInt ≠ 0 by omega)
    have f1 := Int.emod_lt_of_pos p3.toInt hk5
    have pre57 : ∀ t, own_S p e below T14 m 83 #[sI p1, sI p2, sI p3, sI p4, sI n4, sI k5, sJ v6, sW, sJ v8, sW, sJ v10, sW, sJ v12, sW, sU, sU, sU] [] t → R0 t := fun t k => pre56 t (by
      refine XS.lstore X16.here hx rfl (hb hby at_81) rfl (l' := #[sI p1, sI p2, sI p3, sI p4, sI n4, sI k5, sJ v6, sW, sJ v8, sW, sJ v10, sW, sJ v12, sW, sU, sU, sU]) rfl ?_
      exact k)
    obtain ⟨T58, h58, X58, e58, E58, A58, D58, -, st58⟩ := newO X16 hx hZ hown hw1 hw2 hw3 e17 (g := (mkF m 83 #[sI p1, sI p2, sI p3, sI p4, sI n4, sI k5, sJ v6, sW, sJ v8, sW, sJ v10, sW, sJ v12, sW, sU, sU, sU] [])) rfl (hb hby at_83) (by decide) (by decide)
    obtain ⟨b58, g58⟩ : ∃ z, z = h0.size := ⟨_, rfl⟩
    rw [← g58] at A58 D58 st58
    have g_b58 : n0 ≤ b58 := Nat.le_trans Z0 (Nat.le_of_eq g58.symm)
    have f59 := Nat.le_trans Z0 E58.1
    have f60 : Fld Z h58 b58 "com/example/murmuration/murmuration/reduction/Blocks" "length" "I" (.int 0) := D58 (Or.inr hw16) (ty := .int) (by decide)
    have f61 : Fld Z h58 b58 "com/example/murmuration/murmuration/reduction/Blocks" "workers" "I" (.int 0) := D58 (Or.inr hw18) (ty := .int) (by decide)
    have pre62 : ∀ t, own_S p e below T58 m 91 #[sI p1, sI p2, sI p3, sI p4, sI n4, sI k5, sJ v6, sW, sJ v8, sW, sJ v10, sW, sJ v12, sW, sU, sU, sU] [(.int k5), (.int n4), (.ref b58), (.ref b58)] t → R0 t := fun t k => pre57 t (by
      refine st58 _ ?_
      show own_S p e below T58 m 86 #[sI p1, sI p2, sI p3, sI p4, sI n4, sI k5, sJ v6, sW, sJ v8, sW, sJ v10, sW, sJ v12, sW, sU, sU, sU] [(.ref b58)] _
      refine XS.dup X58.here hx rfl (hb hby at_86) rfl rfl ?_
      show own_S p e below T58 m 87 #[sI p1, sI p2, sI p3, sI p4, sI n4, sI k5, sJ v6, sW, sJ v8, sW, sJ v10, sW, sJ v12, sW, sU, sU, sU] [(.ref b58), (.ref b58)] _
      refine XS.iload X58.here hx rfl (hb hby at_87) rfl ?_
      show own_S p e below T58 m 89 #[sI p1, sI p2, sI p3, sI p4, sI n4, sI k5, sJ v6, sW, sJ v8, sW, sJ v10, sW, sJ v12, sW, sU, sU, sU] [(.int n4), (.ref b58), (.ref b58)] _
      refine XS.iload X58.here hx rfl (hb hby at_89) rfl ?_
      exact k)
    obtain ⟨_, _, ⟨T63, L63, k63, n63⟩, -, X63, ⟨Lc63, hQ63, l63, y63, z63⟩, st63⟩ := X58.specialBack hx (y := own_y2) rfl hown (mvT hZ hw4) (mvT hZ hw5) (mvT hZ hw6) (by decide) (backOf (W := 1) (own_rm1 l Z a0 hw [] b58 n4 k5 (.int 0) (.int 0) h58 n0 f59 A58 f60 f61 g_b58) hZ hw6 hw3 (by decide) (by decide)) (g := (mkF m 91 #[sI p1, sI p2, sI p3, sI p4, sI n4, sI k5, sJ v6, sW, sJ v8, sW, sJ v10, sW, sJ v12, sW, sU, sU, sU] [(.int k5), (.int n4), (.ref b58), (.ref b58)])) rfl (by rw [hml]; rfl) (Steps.refl _) (a := b58) (argsL := [(.int n4), (.int k5)]) (rest := [(.ref b58)]) (lenOf own_pd_2 rfl) rfl (by show 2 * 0 + _ ≤ _; exact Nat.le_of_eq rfl) (hb hby at_91) (fun _ _ => ⟨rfl, e58, (by decide : 1 + 0 ≤ _), (by decide : 2 + 0 ≤ _)⟩)
    dsimp only [Pt.U, Pt.locs, Pt.cells, Pt.slots] at X63 l63 y63 z63 st63 hQ63
    subst l63 y63 z63
    obtain ⟨rfl, N63q, K63, ex63, fx63_0, fx63_1⟩ := hQ63
    have f64 := Nat.le_trans f59 K63.1
    have f65 := A58.keep K63
    have N63 := Fr.app N18 N63q
    have pre66 : ∀ t, own_S p e below T63 m 95 #[sI p1, sI p2, sI p3, sI p4, sI n4, sI k5, sJ v6, sW, sJ v8, sW, sJ v10, sW, sJ v12, sW, sU, sU, sU] [(.int p3), (.ref b58)] t → R0 t := fun t k => pre62 t (by
      refine st63.trans ?_
      show own_S p e below T63 m 94 #[sI p1, sI p2, sI p3, sI p4, sI n4, sI k5, sJ v6, sW, sJ v8, sW, sJ v10, sW, sJ v12, sW, sU, sU, sU] [(.ref b58)] _
      refine XS.iloadN X63.here hx rfl (hb hby at_94) rfl ?_
      exact k)
    have hp67 : 0 < k5.toInt := hk5
    obtain ⟨cq68, kq68, q68a, q68b, q68c⟩ := isOf hZ rfl ex63
    obtain ⟨_, _, ⟨T68, L68, k68, n68⟩, -, X68, ⟨Lc68, hQ68, l68, y68, z68⟩, st68⟩ := X63.virtualBack hx (y := own_y3) (z := own_y3) hown (mvT hZ hw19) (mvT hZ hw20) (notFace_of_selects (args := #[]) (mvT hZ hw22)) (mvT hZ hw22) (mvT hZ hw21) (by decide) (backOf (W := 0) (own_rm4 l Z a0 hw [] b58 p3 n4 k5 T63.heap n0 f64 fx63_0 fx63_1 hp67) hZ hw23 hw3 (by decide) (by decide)) q68a q68c (g := (mkF m 95 #[sI p1, sI p2, sI p3, sI p4, sI n4, sI k5, sJ v6, sW, sJ v8, sW, sJ v10, sW, sJ v12, sW, sU, sU, sU] [(.int p3), (.ref b58)])) rfl (by rw [hml]; rfl) (Steps.refl _) (argsL := [(.int p3)]) (rest := []) (lenOf own_pd_3 rfl) rfl (by show 2 * 0 + _ ≤ _; exact Nat.le_of_eq rfl) (hb hby at_95) (fun _ _ => ⟨rfl, rfl, (by decide : 1 + 0 ≤ _), (by decide : 2 + 0 ≤ _)⟩)
    dsimp only [Pt.U, Pt.locs, Pt.cells, Pt.slots] at X68 l68 y68 z68 st68 hQ68
    subst l68 y68 z68
    obtain ⟨rfl, N68q, eh68⟩ := hQ68
    have N68 := Fr.app N63 N68q
    have pre69 : ∀ t, own_S p e below T68 m 98 #[sI p1, sI p2, sI p3, sI p4, sI n4, sI k5, sJ v6, sW, sJ v8, sW, sJ v10, sW, sJ v12, sW, sU, sU, sU] [(.int (own_start p3 n4 k5))] t → R0 t := fun t k => pre66 t (by
      refine st68.trans ?_
      exact k)
    obtain ⟨v14, hv14⟩ : ∃ z : Int32, z = (own_start p3 n4 k5) := ⟨_, rfl⟩
    have pre70 : ∀ t, own_S p e below T68 m 98 #[sI p1, sI p2, sI p3, sI p4, sI n4, sI k5, sJ v6, sW, sJ v8, sW, sJ v10, sW, sJ v12, sW, sU, sU, sU] [(.int v14)] t → R0 t := fun t k => pre69 t (by subst hv14; exact k)
    have b14 : v14.toInt = (p3.toInt % k5.toInt) * n4.toInt / k5.toInt := by rw [hv14]; exact own_start_int p3 n4 k5 hk5 hn4
    have pre71 : ∀ t, own_S p e below T68 m 103 #[sI p1, sI p2, sI p3, sI p4, sI n4, sI k5, sJ v6, sW, sJ v8, sW, sJ v10, sW, sJ v12, sW, sI v14, sU, sU] [(.long (v14.toInt64))] t → R0 t := fun t k => pre70 t (by
      refine XS.istore X68.here hx rfl (hb hby at_98) rfl (l' := #[sI p1, sI p2, sI p3, sI p4, sI n4, sI k5, sJ v6, sW, sJ v8, sW, sJ v10, sW, sJ v12, sW, sI v14, sU, sU]) rfl ?_
      show own_S p e below T68 m 100 #[sI p1, sI p2, sI p3, sI p4, sI n4, sI k5, sJ v6, sW, sJ v8, sW, sJ v10, sW, sJ v12, sW, sI v14, sU, sU] [] _
      refine XS.iload X68.here hx rfl (hb hby at_100) rfl ?_
      show own_S p e below T68 m 102 #[sI p1, sI p2, sI p3, sI p4, sI n4, sI k5, sJ v6, sW, sJ v8, sW, sJ v10, sW, sJ v12, sW, sI v14, sU, sU] [(.int v14)] _
      refine XS.i2l X68.here hx rfl (hb hby at_102) rfl ?_
      exact k)
    obtain ⟨v15, hv15⟩ : ∃ z : Int64, z = (v14.toInt64) := ⟨_, rfl⟩
    have pre72 : ∀ t, own_S p e below T68 m 103 #[sI p1, sI p2, sI p3, sI p4, sI n4, sI k5, sJ v6, sW, sJ v8, sW, sJ v10, sW, sJ v12, sW, sI v14, sU, sU] [(.long v15)] t → R0 t := fun t k => pre71 t (by subst hv15; exact k)
    have b15 : v15.toInt = (p3.toInt % k5.toInt) * n4.toInt / k5.toInt := by rw [hv15, c_i2l, b14]
    have hfin := own_fin v12 v8 v6 v15 _ _ _ b12 b8 b6 f0 f1 hn4 (rng32 k5).2 (rng32 n4).2 b15
    have pre73 : ∀ t, own_S p e below T68 m 109 #[sI p1, sI p2, sI p3, sI p4, sI n4, sI k5, sJ v6, sW, sJ v8, sW, sJ v10, sW, sJ v12, sW, sI v14, sJ v15, sW] [(.int (lcmpW v15 (0 : Int64)))] t → R0 t := fun t k => pre72 t (by
      refine XS.lstore X68.here hx rfl (hb hby at_103) rfl (l' := #[sI p1, sI p2, sI p3, sI p4, sI n4, sI k5, sJ v6, sW, sJ v8, sW, sJ v10, sW, sJ v12, sW, sI v14, sJ v15, sW]) rfl ?_
      show own_S p e below T68 m 105 #[sI p1, sI p2, sI p3, sI p4, sI n4, sI k5, sJ v6, sW, sJ v8, sW, sJ v10, sW, sJ v12, sW, sI v14, sJ v15, sW] [] _
      refine XS.lload X68.here hx rfl (hb hby at_105) rfl ?_
      show own_S p e below T68 m 107 #[sI p1, sI p2, sI p3, sI p4, sI n4, sI k5, sJ v6, sW, sJ v8, sW, sJ v10, sW, sJ v12, sW, sI v14, sJ v15, sW] [(.long v15)] _
      refine XS.lconst X68.here hx rfl (hb hby at_107) ?_
      show own_S p e below T68 m 108 #[sI p1, sI p2, sI p3, sI p4, sI n4, sI k5, sJ v6, sW, sJ v8, sW, sJ v10, sW, sJ v12, sW, sI v14, sJ v15, sW] [(.long 0), (.long v15)] _
      refine XS.lcmp X68.here hx rfl (hb hby at_108) rfl ?_
      exact k)
    have hc74 : ¬ (v15 < (0 : Int64)) := hfin.1
    have pre75 : ∀ t, own_S p e below T68 m 123 #[sI p1, sI p2, sI p3, sI p4, sI n4, sI k5, sJ v6, sW, sJ v8, sW, sJ v10, sW, sJ v12, sW, sI v14, sJ v15, sW] [(.int (lcmpW (v15 * v6) (v12 * v8)))] t → R0 t := fun t k => pre73 t (by
      refine XS.ifNo X68.here hx rfl (hb hby at_109) rfl ((if0 _ _).trans (flt (mt (lw_lt _ _).mp hc74)).1) ?_
      show own_S p e below T68 m 112 #[sI p1, sI p2, sI p3, sI p4, sI n4, sI k5, sJ v6, sW, sJ v8, sW, sJ v10, sW, sJ v12, sW, sI v14, sJ v15, sW] [] _
      refine XS.lload X68.here hx rfl (hb hby at_112) rfl ?_
      show own_S p e below T68 m 114 #[sI p1, sI p2, sI p3, sI p4, sI n4, sI k5, sJ v6, sW, sJ v8, sW, sJ v10, sW, sJ v12, sW, sI v14, sJ v15, sW] [(.long v15)] _
      refine XS.lload X68.here hx rfl (hb hby at_114) rfl ?_
      show own_S p e below T68 m 116 #[sI p1, sI p2, sI p3, sI p4, sI n4, sI k5, sJ v6, sW, sJ v8, sW, sJ v10, sW, sJ v12, sW, sI v14, sJ v15, sW] [(.long v6), (.long v15)] _
      refine XS.lmul X68.here hx rfl (hb hby at_116) rfl ?_
      show own_S p e below T68 m 117 #[sI p1, sI p2, sI p3, sI p4, sI n4, sI k5, sJ v6, sW, sJ v8, sW, sJ v10, sW, sJ v12, sW, sI v14, sJ v15, sW] [(.long (v15 * v6))] _
      refine XS.lload X68.here hx rfl (hb hby at_117) rfl ?_
      show own_S p e below T68 m 119 #[sI p1, sI p2, sI p3, sI p4, sI n4, sI k5, sJ v6, sW, sJ v8, sW, sJ v10, sW, sJ v12, sW, sI v14, sJ v15, sW] [(.long v12), (.long (v15 * v6))] _
      refine XS.lload X68.here hx rfl (hb hby at_119) rfl ?_
      show own_S p e below T68 m 121 #[sI p1, sI p2, sI p3, sI p4, sI n4, sI k5, sJ v6, sW, sJ v8, sW, sJ v10, sW, sJ v12, sW, sI v14, sJ v15, sW] [(.long v8), (.long v12), (.long (v15 * v6))] _
      refine XS.lmul X68.here hx rfl (hb hby at_121) rfl ?_
      show own_S p e below T68 m 122 #[sI p1, sI p2, sI p3, sI p4, sI n4, sI k5, sJ v6, sW, sJ v8, sW, sJ v10, sW, sJ v12, sW, sI v14, sJ v15, sW] [(.long (v12 * v8)), (.long (v15 * v6))] _
      refine XS.lcmp X68.here hx rfl (hb hby at_122) rfl ?_
      exact k)
    have hc76 : ¬ ((v12 * v8) < (v15 * v6)) := hfin.2.1
    have pre77 : ∀ t, own_S p e below T68 m 139 #[sI p1, sI p2, sI p3, sI p4, sI n4, sI k5, sJ v6, sW, sJ v8, sW, sJ v10, sW, sJ v12, sW, sI v14, sJ v15, sW] [(.int (lcmpW (v12 * v8) ((v15 + (1 : Int64)) * v6)))] t → R0 t := fun t k => pre75 t (by
      refine XS.ifNo X68.here hx rfl (hb hby at_123) rfl ((if0 _ _).trans (flt (mt (lw_gt _ _).mp hc76)).2.2.1) ?_
      show own_S p e below T68 m 126 #[sI p1, sI p2, sI p3, sI p4, sI n4, sI k5, sJ v6, sW, sJ v8, sW, sJ v10, sW, sJ v12, sW, sI v14, sJ v15, sW] [] _
      refine XS.lload X68.here hx rfl (hb hby at_126) rfl ?_
      show own_S p e below T68 m 128 #[sI p1, sI p2, sI p3, sI p4, sI n4, sI k5, sJ v6, sW, sJ v8, sW, sJ v10, sW, sJ v12, sW, sI v14, sJ v15, sW] [(.long v12)] _
      refine XS.lload X68.here hx rfl (hb hby at_128) rfl ?_
      show own_S p e below T68 m 130 #[sI p1, sI p2, sI p3, sI p4, sI n4, sI k5, sJ v6, sW, sJ v8, sW, sJ v10, sW, sJ v12, sW, sI v14, sJ v15, sW] [(.long v8), (.long v12)] _
      refine XS.lmul X68.here hx rfl (hb hby at_130) rfl ?_
      show own_S p e below T68 m 131 #[sI p1, sI p2, sI p3, sI p4, sI n4, sI k5, sJ v6, sW, sJ v8, sW, sJ v10, sW, sJ v12, sW, sI v14, sJ v15, sW] [(.long (v12 * v8))] _
      refine XS.lload X68.here hx rfl (hb hby at_131) rfl ?_
      show own_S p e below T68 m 133 #[sI p1, sI p2, sI p3, sI p4, sI n4, sI k5, sJ v6, sW, sJ v8, sW, sJ v10, sW, sJ v12, sW, sI v14, sJ v15, sW] [(.long v15), (.long (v12 * v8))] _
      refine XS.lconst X68.here hx rfl (hb hby at_133) ?_
      show own_S p e below T68 m 134 #[sI p1, sI p2, sI p3, sI p4, sI n4, sI k5, sJ v6, sW, sJ v8, sW, sJ v10, sW, sJ v12, sW, sI v14, sJ v15, sW] [(.long 1), (.long v15), (.long (v12 * v8))] _
      refine XS.ladd X68.here hx rfl (hb hby at_134) rfl ?_
      show own_S p e below T68 m 135 #[sI p1, sI p2, sI p3, sI p4, sI n4, sI k5, sJ v6, sW, sJ v8, sW, sJ v10, sW, sJ v12, sW, sI v14, sJ v15, sW] [(.long (v15 + (1 : Int64))), (.long (v12 * v8))] _
      refine XS.lload X68.here hx rfl (hb hby at_135) rfl ?_
      show own_S p e below T68 m 137 #[sI p1, sI p2, sI p3, sI p4, sI n4, sI k5, sJ v6, sW, sJ v8, sW, sJ v10, sW, sJ v12, sW, sI v14, sJ v15, sW] [(.long v6), (.long (v15 + (1 : Int64))), (.long (v12 * v8))] _
      refine XS.lmul X68.here hx rfl (hb hby at_137) rfl ?_
      show own_S p e below T68 m 138 #[sI p1, sI p2, sI p3, sI p4, sI n4, sI k5, sJ v6, sW, sJ v8, sW, sJ v10, sW, sJ v12, sW, sI v14, sJ v15, sW] [(.long ((v15 + (1 : Int64)) * v6)), (.long (v12 * v8))] _
      refine XS.lcmp X68.here hx rfl (hb hby at_138) rfl ?_
      exact k)
    have hc78 : (v12 * v8) < ((v15 + (1 : Int64)) * v6) := hfin.2.2
    have pre79 : ∀ t, own_S p e below T68 m 147 #[sI p1, sI p2, sI p3, sI p4, sI n4, sI k5, sJ v6, sW, sJ v8, sW, sJ v10, sW, sJ v12, sW, sI v14, sJ v15, sW] [(.int 1)] t → R0 t := fun t k => pre77 t (by
      refine XS.ifNo X68.here hx rfl (hb hby at_139) rfl ((if0 _ _).trans (tlt ((lw_lt _ _).mpr hc78)).2.1) ?_
      show own_S p e below T68 m 142 #[sI p1, sI p2, sI p3, sI p4, sI n4, sI k5, sJ v6, sW, sJ v8, sW, sJ v10, sW, sJ v12, sW, sI v14, sJ v15, sW] [] _
      refine XS.iconst X68.here hx rfl (hb hby at_142) ?_
      show own_S p e below T68 m 143 #[sI p1, sI p2, sI p3, sI p4, sI n4, sI k5, sJ v6, sW, sJ v8, sW, sJ v10, sW, sJ v12, sW, sI v14, sJ v15, sW] [(.int 1)] _
      refine XS.goto X68.here hx rfl (pc0 := 143) (pc' := 147) rfl (hb hby at_143) (by decide) (by decide) ?_
      exact k)
    obtain ⟨fs, hr, hrun, hended, hW, hsame⟩ := X68.leave (v := some (.int 1)) (fun h => by rw [Bd.returns] at h; cases h)
    refine ⟨_, _, cast (congrFun hR0 _) (pre79 _ (retN X68 hx (t := .boolean) Bd.returns (by simp) (hb hby at_147) hr)), hrun, hended, _, _, rfl, ?_, ⟨_, rfl⟩, hW, hsame.mono (by decide) (by decide)⟩
    show own_Q0 Z _ _ _ _ h0 n0 _ T68.heap _
    rw [eh68]
    exact ⟨rfl, N68⟩
set_option maxRecDepth 65536 in
set_option maxHeartbeats 40000000 in
theorem own_comes {Post : Tables → Env → Array Value → State → Outcome → State → Prop} (hpost : ∀ tb e args s v u, (limb_1_1.after args s (.returned v) u = true ∧ limb_1_2.after args s (.returned v) u = true ∧ True) → FrameEnd s (.returned v) u (Jvm.fieldLocs frame_1_writes args s ++ Jvm.arrayLocs frame_1_arrays args s ++ Jvm.staticLocs frame_1_statics s) 16 128 → Post tb e args s (.returned v) u) :
    ArmFor flags0 classFile x code maxLocals ret World_1 tables_1 room_1 Calls_1 rest_1 Pre_1 Post := by
  intro l hfl _ _ p e ha hc hk s m args below hf hA hF happ hP
  obtain ⟨hcalls, hrest, hpre⟩ := hP
  obtain ⟨-, -, -, hnamed, -, -, -, hat⟩ := (Spec.applies_iff hf).mp happ
  obtain ⟨hg, hn⟩ := and_e (Cond.before_iff.mp (show (Jvm.Cond.and given_1 narrow_1).before args s = true from hpre))
  obtain ⟨hcount, hg0⟩ := and_e hg
  obtain ⟨ha0, hg1⟩ := and_e hg0
  obtain ⟨ha1, hg2⟩ := and_e hg1
  obtain ⟨ha2, hg3⟩ := and_e hg2
  have ha3 := hg3
  obtain ⟨w0, w1, w2, w3, rfl⟩ : ∃ w0 w1 w2 w3 : Value, args = #[w0, w1, w2, w3] := by
    have hs : args.size = 4 := by simpa [Cond.value, given_1] using hcount
    obtain ⟨L⟩ := args
    match L, hs with
    | [w0, w1, w2, w3], _ => exact ⟨w0, w1, w2, w3, rfl⟩
  have hw := fun d (hd : d ∈ tables_1) => atoms_spec (ws := Jvm.Cond.code x code maxLocals ret :: tables_1) hat d (List.mem_cons_of_mem _ hd)
  have hfit : Fit s := fun {y c} hc i hi => by
    obtain ⟨ha, rfl⟩ := Array.getElem?_eq_some_iff.mp hc
    have q := List.all_eq_true.mp ((Array.all_eq_true_iff_forall_mem.mp hF) _ (Array.getElem_mem ha)) i (List.mem_range.mpr hi)
    simpa [Array.getElem?_eq_getElem hi] using q
  obtain ⟨i0, ei0⟩ := is_v ha0
  obtain rfl : w0 = (.int i0) := Option.some.inj ei0
  obtain ⟨i1, ei1⟩ := is_v ha1
  obtain rfl : w1 = (.int i1) := Option.some.inj ei1
  obtain ⟨i2, ei2⟩ := is_v ha2
  obtain rfl : w2 = (.int i2) := Option.some.inj ei2
  obtain ⟨i3, ei3⟩ := is_v ha3
  obtain rfl : w3 = (.int i3) := Option.some.inj ei3
  obtain ⟨n, o, h1, h2, h3, _, L, rfl, ⟨rfl, N⟩, hq⟩ := own_rm0 l s _ hw tables_1 i0 i1 i2 i3  s.heap s.heap.size (Nat.le_refl _)  p e ha hc hk s m _ below hf ((Spec.applies_iff_loose hf).mp happ).1 ⟨rfl, State.Warmed39.refl s, rfl⟩ trivial
  refine ⟨n, _, h1, h2, h3, hpost _ _ _ _ _ _ ⟨Cond.after_iff.mpr rfl, Cond.after_iff.mpr (eq_i res_at (Term.int_eval (1)) rfl), trivial⟩ ⟨hq.1, hq.2.1, (hq.2.2.sift fun y hy => Or.inr (N y hy)).mono (by decide) (by decide)⟩⟩
theorem main_1_1 : Claimed_1_1 := own_comes fun _ _ _ _ _ _ h hF => ⟨h.1, hF⟩
theorem main_1_2 : Claimed_1_2 := own_comes fun _ _ _ _ _ _ h hF => ⟨h.2.1, hF⟩
end Jvm.Pilot.@@N@@
namespace Jvm.Pilot.@@N@@
open Jvm Jvm.ClassFile Sem Op Lib Jvm.Free Jvm.Stand Jvm.Pilot.@@N@@.Jvm.D
/-! MADE BY PROGRAM (witnessworld.py) out of the Statement's table words and the real class files: 11 classes; the members and pool entries that the words name. The judged class is class 1, her method 1. -/
namespace start1
open Jvm.ClassFile
def u (s : String) : CpInfo := .utf8 (stringToUtf16 s)
/-- a pool by its gaps: so many unusable entries, then the entry; so many at the end -/
def gap : Nat → List CpInfo → List CpInfo
  | 0, r => r
  | n + 1, r => .unusable :: gap n r
def poolList (es : List (Nat × CpInfo)) (last : Nat) : List CpInfo := es.foldr (fun e r => gap e.1 (e.2 :: r)) (gap last [])
def pool (es : List (Nat × CpInfo)) (last : Nat) : Array CpInfo := ⟨poolList es last⟩
def fileOf (pool : Array CpInfo) (this : Nat) (attrs : Array Attribute := #[]) (ms : Array MethodInfo := #[]) (fl : Nat := 33) (sup : Nat := 0) (ifs : Array Nat := #[]) (fds : Array FieldInfo := #[]) : ClassFile where
  minorVersion := 0
  majorVersion := 65
  constantPool := pool
  accessFlags := fl
  thisClass := this
  superClass := sup
  interfaces := ifs
  fields := fds
  methods := ms
  attributes := attrs
def plain (name : String) (sup : Option ClassId) : Class where
  name := name
  kind := .ordinary
  loader := none
  accessFlags := 33
  super := sup
  interfaces := #[]
  cf := none
  fields := #[]
  methods := #[]
  instanceTypes := #[]
  staticTypes := #[]
  resolved := #[]
  callSites := []
  init := .initialized
  statics := none
  mirror := none

def pool0 : Array CpInfo := pool [(5, u "<init>"), (0, u "()V"), (1, .class_ 10), (1, u "java/lang/Object")] 113

def k0c0 : Code := { maxStack := 0, maxLocals := 1, code := object_method_1_code, exceptionTable := #[], attributes := #[] }
def k0m0 : Method := { name := "<init>", desc := "()V", sig := { parameters := [], returnType := none }, accessFlags := 1, code := some k0c0 }
/-- java/lang/Object -/
def k0 : Class := { plain "java/lang/Object" none with
  accessFlags := 33
  interfaces := #[]
  cf := some (fileOf pool0 8 #[] #[{ accessFlags := 1, nameIndex := 5, descriptorIndex := 6, attributes := #[] }] 33 0 #[] #[])
  fields := #[]
  methods := #[k0m0]
  instanceTypes := #[]
  staticTypes := #[]
  resolved := Array.replicate 124 none
  statics := none }

def pool1 : Array CpInfo := pool [(2, .class_ 4), (1, u "java/lang/Object"), (0, u "<init>"), (0, u "()V"), (0, .integer 2147483647), (0, .class_ 9), (0, u "com/example/murmuration/murmuration/reduction/Blocks"), (0, .methodref 8 11), (0, .nameAndType 5 12), (0, u "(II)V"), (0, .methodref 8 14), (0, .nameAndType 15 16), (0, u "start"), (0, u "(I)I"), (0, .class_ 18), (0, u "com/example/murmuration/murmuration/reduction/BlocksStartPinLaw"), (2, u "law"), (0, u "(IIII)Z")] 3

def k1m0 : Method := { name := "<init>", desc := "()V", sig := { parameters := [], returnType := none }, accessFlags := 1, code := none }
def k1c1 : Code := { maxStack := 6, maxLocals := 17, code := code, exceptionTable := #[], attributes := #[] }
def k1m1 : Method := { name := "law", desc := "(IIII)Z", sig := { parameters := [.int, .int, .int, .int], returnType := some .boolean }, accessFlags := 9, code := some k1c1 }
/-- com/example/murmuration/murmuration/reduction/BlocksStartPinLaw -/
def k1 : Class := { plain "com/example/murmuration/murmuration/reduction/BlocksStartPinLaw" (some 0) with
  accessFlags := 49
  interfaces := #[]
  cf := some (fileOf pool1 17 #[] #[{ accessFlags := 1, nameIndex := 5, descriptorIndex := 6, attributes := #[] }, { accessFlags := 9, nameIndex := 21, descriptorIndex := 22, attributes := #[] }] 49 2 #[] #[])
  fields := #[]
  methods := #[k1m0, k1m1]
  instanceTypes := #[]
  staticTypes := #[]
  resolved := Array.replicate 26 none
  statics := none }

def pool2 : Array CpInfo := pool [(1, .methodref 2 3), (0, .class_ 4), (0, .nameAndType 5 6), (0, u "java/lang/Object"), (0, u "<init>"), (0, u "()V"), (0, .class_ 8), (0, u "java/lang/Record")] 13

def k2c0 : Code := { maxStack := 1, maxLocals := 1, code := jdk_30_method_1_code, exceptionTable := #[], attributes := #[] }
def k2m0 : Method := { name := "<init>", desc := "()V", sig := { parameters := [], returnType := none }, accessFlags := 4, code := some k2c0 }
/-- java/lang/Record -/
def k2 : Class := { plain "java/lang/Record" (some 0) with
  accessFlags := 1057
  interfaces := #[]
  cf := some (fileOf pool2 7 #[] #[{ accessFlags := 4, nameIndex := 5, descriptorIndex := 6, attributes := #[] }] 1057 2 #[] #[])
  fields := #[]
  methods := #[k2m0]
  instanceTypes := #[]
  staticTypes := #[]
  resolved := Array.replicate 22 none
  statics := none }

def pool3 : Array CpInfo := pool [(1, .methodref 2 3), (0, .class_ 4), (0, .nameAndType 5 6), (0, u "java/lang/Record"), (0, u "<init>"), (0, u "()V"), (0, .fieldref 8 9), (0, .class_ 10), (0, .nameAndType 11 12), (0, u "com/example/murmuration/murmuration/reduction/Blocks"), (0, u "length"), (0, u "I"), (0, .fieldref 8 14), (0, .nameAndType 15 12), (0, u "workers"), (0, .methodref 17 18), (0, .class_ 19), (0, .nameAndType 20 21), (0, u "java/lang/Math"), (0, u "floorMod"), (0, u "(II)I"), (2, u "start"), (0, u "(I)I"), (12, u "(II)V")] 28

def k3c0 : Code := { maxStack := 2, maxLocals := 3, code := prog_169_method_1_code, exceptionTable := #[], attributes := #[] }
def k3m0 : Method := { name := "<init>", desc := "(II)V", sig := { parameters := [.int, .int], returnType := none }, accessFlags := 0, code := some k3c0 }
def k3c1 : Code := { maxStack := 4, maxLocals := 2, code := prog_169_method_2_code, exceptionTable := #[], attributes := #[] }
def k3m1 : Method := { name := "start", desc := "(I)I", sig := { parameters := [.int], returnType := some .int }, accessFlags := 0, code := some k3c1 }
/-- com/example/murmuration/murmuration/reduction/Blocks -/
def k3 : Class := { plain "com/example/murmuration/murmuration/reduction/Blocks" (some 2) with
  accessFlags := 48
  interfaces := #[]
  cf := some (fileOf pool3 8 #[] #[{ accessFlags := 0, nameIndex := 5, descriptorIndex := 38, attributes := #[] }, { accessFlags := 0, nameIndex := 24, descriptorIndex := 25, attributes := #[] }] 48 2 #[] #[{ accessFlags := 18, nameIndex := 11, descriptorIndex := 12, attributes := #[] }, { accessFlags := 18, nameIndex := 15, descriptorIndex := 12, attributes := #[] }])
  fields := #[{ name := "length", type := .int, accessFlags := 18, slot := 0, constantValue := 0 }, { name := "workers", type := .int, accessFlags := 18, slot := 1, constantValue := 0 }]
  methods := #[k3m0, k3m1]
  instanceTypes := #[.int, .int]
  staticTypes := #[]
  resolved := Array.replicate 67 none
  statics := none }

def pool4 : Array CpInfo := pool [(1, .class_ 2), (0, u "java/lang/Math"), (1, .class_ 6), (1, u "java/lang/Object"), (0, u "<init>"), (0, u "()V"), (89, .class_ 100), (1, u "java/lang/Math$RandomNumberGeneratorHolder"), (47, u "floorMod"), (23, u "negativeZeroFloatBits"), (0, u "J"), (2, u "negativeZeroDoubleBits"), (68, u "$assertionsDisabled"), (0, u "Z"), (88, u "(II)I"), (2, u "twoToTheDoubleScaleDown"), (0, u "D"), (4, u "twoToTheDoubleScaleUp"), (9, u "E"), (3, u "PI"), (2, u "TAU"), (2, u "DEGREES_TO_RADIANS"), (0, u "RADIANS_TO_DEGREES")] 94

def k4m0 : Method := { name := "<init>", desc := "()V", sig := { parameters := [], returnType := none }, accessFlags := 2, code := none }
def k4c1 : Code := { maxStack := 2, maxLocals := 3, code := jdk_29_method_50_code, exceptionTable := #[], attributes := #[] }
def k4m1 : Method := { name := "floorMod", desc := "(II)I", sig := { parameters := [.int, .int], returnType := some .int }, accessFlags := 9, code := some k4c1 }
/-- java/lang/Math -/
def k4 : Class := { plain "java/lang/Math" (some 0) with
  accessFlags := 49
  interfaces := #[]
  cf := some (fileOf pool4 1 #[.nestMembers #[98]] #[{ accessFlags := 2, nameIndex := 7, descriptorIndex := 8, attributes := #[] }, { accessFlags := 9, nameIndex := 148, descriptorIndex := 335, attributes := #[] }] 49 4 #[] #[{ accessFlags := 25, nameIndex := 354, descriptorIndex := 339, attributes := #[] }, { accessFlags := 25, nameIndex := 358, descriptorIndex := 339, attributes := #[] }, { accessFlags := 25, nameIndex := 361, descriptorIndex := 339, attributes := #[] }, { accessFlags := 26, nameIndex := 364, descriptorIndex := 339, attributes := #[] }, { accessFlags := 26, nameIndex := 365, descriptorIndex := 339, attributes := #[] }, { accessFlags := 26, nameIndex := 172, descriptorIndex := 173, attributes := #[] }, { accessFlags := 26, nameIndex := 176, descriptorIndex := 173, attributes := #[] }, { accessFlags := 8, nameIndex := 344, descriptorIndex := 339, attributes := #[] }, { accessFlags := 8, nameIndex := 338, descriptorIndex := 339, attributes := #[] }, { accessFlags := 4120, nameIndex := 245, descriptorIndex := 246, attributes := #[] }])
  fields := #[{ name := "E", type := .double, accessFlags := 25, slot := 0, constantValue := 0 }, { name := "PI", type := .double, accessFlags := 25, slot := 1, constantValue := 0 }, { name := "TAU", type := .double, accessFlags := 25, slot := 2, constantValue := 0 }, { name := "DEGREES_TO_RADIANS", type := .double, accessFlags := 26, slot := 3, constantValue := 0 }, { name := "RADIANS_TO_DEGREES", type := .double, accessFlags := 26, slot := 4, constantValue := 0 }, { name := "negativeZeroFloatBits", type := .long, accessFlags := 26, slot := 5, constantValue := 0 }, { name := "negativeZeroDoubleBits", type := .long, accessFlags := 26, slot := 6, constantValue := 0 }, { name := "twoToTheDoubleScaleUp", type := .double, accessFlags := 8, slot := 7, constantValue := 0 }, { name := "twoToTheDoubleScaleDown", type := .double, accessFlags := 8, slot := 8, constantValue := 0 }, { name := "$assertionsDisabled", type := .boolean, accessFlags := 4120, slot := 9, constantValue := 0 }]
  methods := #[k4m0, k4m1]
  instanceTypes := #[]
  staticTypes := #[.double, .double, .double, .double, .double, .long, .long, .double, .double, .boolean]
  resolved := Array.replicate 460 none
  statics := none }

def pool5 : Array CpInfo := pool [(1, u "java/lang/Cloneable"), (0, .class_ 1), (0, u "java/lang/Object"), (0, .class_ 3)] 3

/-- java/lang/Cloneable -/
def k5 : Class := { plain "java/lang/Cloneable" (some 0) with
  accessFlags := 1537
  interfaces := #[]
  cf := some (fileOf pool5 2 #[] #[] 1537 4 #[] #[])
  fields := #[]
  methods := #[]
  instanceTypes := #[]
  staticTypes := #[]
  resolved := Array.replicate 8 none
  statics := none }

def pool6 : Array CpInfo := pool [(1, u "java/io/Serializable"), (0, .class_ 1), (0, u "java/lang/Object"), (0, .class_ 3)] 3

/-- java/io/Serializable -/
def k6 : Class := { plain "java/io/Serializable" (some 0) with
  accessFlags := 1537
  interfaces := #[]
  cf := some (fileOf pool6 2 #[] #[] 1537 4 #[] #[])
  fields := #[]
  methods := #[]
  instanceTypes := #[]
  staticTypes := #[]
  resolved := Array.replicate 8 none
  statics := none }

/-- the primitive byte -/
def k7 : Class := { plain "byte" none with kind := .primitive 'B', accessFlags := 0x411 }
/-- [B -/
def k8 : Class := { plain "[B" (some 0) with kind := .array 7 .byte, interfaces := #[5, 6], accessFlags := 1041 }

/-- the primitive int -/
def k9 : Class := { plain "int" none with kind := .primitive 'I', accessFlags := 0x411 }
/-- [I -/
def k10 : Class := { plain "[I" (some 0) with kind := .array 9 .int, interfaces := #[5, 6], accessFlags := 1041 }

def heap : Heap := #[]
def classes : Array Class := #[k0, k1, k2, k3, k4, k5, k6, k7, k8, k9, k10]
def interned : List (Array UInt16 × Addr) := []
def slotsUsed : Nat := 0
def theMethod : MethodId := ⟨1, 1⟩
def args0 : Array Value := #[.int 50, .int 3, .int 7, .int 0]
def aboutOver (below : List Frame) : State where
  vm := { classes := classes, interned := interned.toArray }
  heap := heap
  slotsUsed := slotsUsed
  threads := #[{ frames := .invoking theMethod args0 :: below }]
def below0 : List Frame := [.native { method := ⟨0, 0⟩, args := #[] }]
def about1 : State := aboutOver below0
def p0 : Program := .bare "" "" ""
def e0 : Env := launch0.env 0 0 0
theorem w_frames : about1.frames = Frame.invoking theMethod args0 :: below0 := rfl
set_option maxRecDepth 65536 in
theorem w_args : argsFit about1.vm theMethod args0 = true := by decide +kernel
set_option maxRecDepth 65536 in
theorem w_heap : heapFits about1 = true := by decide +kernel
set_option maxRecDepth 65536 in
theorem w_runnable : about1.curStatus? = some .runnable := by decide +kernel
set_option maxRecDepth 65536 in
theorem w_alone : about1.alone = true := by decide +kernel
set_option maxRecDepth 65536 in
theorem w_named : about1.methodNamed? x = some theMethod := by decide +kernel
set_option maxRecDepth 65536 in
theorem w_hears : about1.hears theMethod below0 = true := by decide +kernel
set_option maxRecDepth 65536 in
theorem w_ripe : about1.ripe theMethod args0 below0 = true := by decide +kernel
theorem w_running : about1.status = .running := rfl
set_option maxRecDepth 65536 in
theorem w_room : about1.hasRoom e0.platform room_1 = true :=
  launch0.hasRoom_least _ room_1 (by decide +kernel) (by decide +kernel) (by decide +kernel) (by decide +kernel) (by decide +kernel) (by decide +kernel)
theorem allAtoms_all (ts : List Jvm.Cond) (a : Array Jvm.Value) (st : Jvm.State) : (allAtoms ts).before a st = ts.all (fun c => c.before a st) := by
  induction ts with
  | nil => rfl
  | cons c t ih =>
    show (Jvm.Cond.and c (allAtoms t)).before a st = _
    rw [Jvm.Cond.before_and, ih, List.all_cons]
def words1 : List Jvm.Cond := Jvm.Cond.code x code maxLocals ret :: tables_1
/-- a 'code' word, met by the world's own term for the bytes: nothing is compared byte by byte -/
theorem code_word {y : MethodName} {bytes : ByteArray} {mx : Nat} {rt : Option FieldType} {a : Array Value} {s : State} {m : MethodId} {meth : Method} {c : Code} (h1 : s.methodNamed? y = some m) (h2 : s.vm.method? m = some meth) (h3 : meth.code = some c) (h4 : c.code = bytes)
    (h5 : (c.maxLocals == mx && c.exceptionTable.isEmpty && decide (c.maxStack ≤ mostOperands) && decide (meth.sig.returnType = rt) && !meth.locks && decide (parseMethodDescriptor y.desc = some meth.sig)) = true) : (Jvm.Cond.code y bytes mx rt).before a s = true := by
  simp only [Bool.and_eq_true, beq_iff_eq, Bool.not_eq_true', decide_eq_true_eq] at h5
  obtain ⟨⟨⟨⟨⟨g1, g2⟩, g3⟩, g4⟩, g5⟩, g6⟩ := h5
  simp [Cond.before, Cond.holds, Cond.value, h1, h2, h3, h4, g1, g2, g3, g4, g5, g6]
def isCode : Jvm.Cond → Bool
  | .code _ _ _ _ => true
  | _ => false
theorem all_split {L : List Jvm.Cond} {P : Jvm.Cond → Bool} (h1 : L.all (fun c => isCode c || P c) = true) (h2 : ∀ c ∈ L.filter isCode, P c = true) : L.all P = true := by
  refine List.all_eq_true.mpr fun c hc => ?_
  have h := List.all_eq_true.mp h1 c hc
  rcases Bool.eq_false_or_eq_true (isCode c) with hi | hi
  · exact h2 c (List.mem_filter.mpr ⟨hc, hi⟩)
  · simpa [hi] using h
set_option maxRecDepth 65536 in
theorem w_c0 : (Jvm.Cond.code x code maxLocals ret).before args0 about1 = true := code_word (m := ⟨1, 1⟩) (meth := k1m1) (c := k1c1) (by decide +kernel) rfl rfl rfl (by decide +kernel)
set_option maxRecDepth 65536 in
theorem w_c1 : (Jvm.Cond.code ({ cls := "com/example/murmuration/murmuration/reduction/Blocks", name := "<init>", desc := "(II)V" } : Jvm.MethodName) prog_169_method_1_code (3 : Nat) (Option.none : Option Jvm.ClassFile.FieldType)).before args0 about1 = true := code_word (m := ⟨3, 0⟩) (meth := k3m0) (c := k3c0) (by decide +kernel) rfl rfl rfl (by decide +kernel)
set_option maxRecDepth 65536 in
theorem w_c2 : (Jvm.Cond.code ({ cls := "java/lang/Record", name := "<init>", desc := "()V" } : Jvm.MethodName) jdk_30_method_1_code (1 : Nat) (Option.none : Option Jvm.ClassFile.FieldType)).before args0 about1 = true := code_word (m := ⟨2, 0⟩) (meth := k2m0) (c := k2c0) (by decide +kernel) rfl rfl rfl (by decide +kernel)
set_option maxRecDepth 65536 in
theorem w_c3 : (Jvm.Cond.code ({ cls := "java/lang/Object", name := "<init>", desc := "()V" } : Jvm.MethodName) object_method_1_code (1 : Nat) (Option.none : Option Jvm.ClassFile.FieldType)).before args0 about1 = true := code_word (m := ⟨0, 0⟩) (meth := k0m0) (c := k0c0) (by decide +kernel) rfl rfl rfl (by decide +kernel)
set_option maxRecDepth 65536 in
theorem w_c4 : (Jvm.Cond.code ({ cls := "com/example/murmuration/murmuration/reduction/Blocks", name := "start", desc := "(I)I" } : Jvm.MethodName) prog_169_method_2_code (2 : Nat) (Option.some Jvm.ClassFile.FieldType.int)).before args0 about1 = true := code_word (m := ⟨3, 1⟩) (meth := k3m1) (c := k3c1) (by decide +kernel) rfl rfl rfl (by decide +kernel)
set_option maxRecDepth 65536 in
theorem w_c5 : (Jvm.Cond.code ({ cls := "java/lang/Math", name := "floorMod", desc := "(II)I" } : Jvm.MethodName) jdk_29_method_50_code (3 : Nat) (Option.some Jvm.ClassFile.FieldType.int)).before args0 about1 = true := code_word (m := ⟨4, 1⟩) (meth := k4m1) (c := k4c1) (by decide +kernel) rfl rfl rfl (by decide +kernel)
def codes1 : List Jvm.Cond := [Jvm.Cond.code x code maxLocals ret, Jvm.Cond.code ({ cls := "com/example/murmuration/murmuration/reduction/Blocks", name := "<init>", desc := "(II)V" } : Jvm.MethodName) prog_169_method_1_code (3 : Nat) (Option.none : Option Jvm.ClassFile.FieldType), Jvm.Cond.code ({ cls := "java/lang/Record", name := "<init>", desc := "()V" } : Jvm.MethodName) jdk_30_method_1_code (1 : Nat) (Option.none : Option Jvm.ClassFile.FieldType), Jvm.Cond.code ({ cls := "java/lang/Object", name := "<init>", desc := "()V" } : Jvm.MethodName) object_method_1_code (1 : Nat) (Option.none : Option Jvm.ClassFile.FieldType), Jvm.Cond.code ({ cls := "com/example/murmuration/murmuration/reduction/Blocks", name := "start", desc := "(I)I" } : Jvm.MethodName) prog_169_method_2_code (2 : Nat) (Option.some Jvm.ClassFile.FieldType.int), Jvm.Cond.code ({ cls := "java/lang/Math", name := "floorMod", desc := "(II)I" } : Jvm.MethodName) jdk_29_method_50_code (3 : Nat) (Option.some Jvm.ClassFile.FieldType.int)]
set_option maxRecDepth 65536 in
theorem codes_eq : words1.filter isCode = codes1 := rfl
theorem w_codes : ∀ c ∈ words1.filter isCode, c.before args0 about1 = true := by
  rw [codes_eq]
  intro c hc
  simp only [codes1, List.mem_cons, List.not_mem_nil, or_false] at hc
  rcases hc with rfl | rfl | rfl | rfl | rfl | rfl
  · exact w_c0
  · exact w_c1
  · exact w_c2
  · exact w_c3
  · exact w_c4
  · exact w_c5
set_option maxRecDepth 65536 in
theorem w_t1 : (words1.take 24).all (fun c => isCode c || c.before args0 about1) = true := by decide +kernel
set_option maxRecDepth 65536 in
theorem w_t2 : (words1.drop 24).all (fun c => isCode c || c.before args0 about1) = true := by decide +kernel
theorem w_tables : (allAtoms (Jvm.Cond.code x code maxLocals ret :: tables_1)).before args0 about1 = true := by
  rw [allAtoms_all]
  show words1.all (fun c => c.before args0 about1) = true
  refine all_split ?_ w_codes
  rw [← List.take_append_drop 24 words1, List.all_append, w_t1, w_t2]
  rfl
set_option maxRecDepth 65536 in
theorem w_case : (Jvm.Cond.and given_1 narrow_1).before args0 about1 = true := by decide +kernel
theorem w_applies : (headSpec (Jvm.Cond.code x code maxLocals ret :: tables_1) room_1).applies x e0.platform about1 = true :=
  (Spec.applies_iff w_frames).mpr ⟨w_running, w_runnable, w_alone, w_named, w_hears, w_ripe, w_room, w_tables⟩
theorem atStart : AtStart classFile x code maxLocals ret World_1 tables_1 room_1 Calls_1 rest_1 Pre_1 launch0 p0 e0 about1 theMethod args0 below0 :=
  ⟨lists_1, trivial, launch0.admits_env _ _ _, launch0.least_env, fairChoices_fair.cas, fairChoices_fair.clock, w_frames, w_args, w_heap, w_applies, trivial, trivial, w_case⟩
end start1
theorem witness_1 : WitnessClaimed_1 := ⟨start1.p0, start1.e0, start1.about1, start1.theMethod, start1.args0, start1.below0, start1.atStart⟩
end Jvm.Pilot.@@N@@
