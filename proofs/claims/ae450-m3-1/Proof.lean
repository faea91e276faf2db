import JvmDerived
import JvmDerived.Pilot.@@N@@Statement
import JvmDerived.Pilot.@@N@@Code
set_option linter.unusedVariables false
set_option linter.unusedSimpArgs false
namespace Jvm.Pilot.@@N@@
open Jvm Jvm.ClassFile Sem Op Lib Jvm.Free Jvm.Stand Jvm.LawKit Jvm.RoadKit Bundle Jvm.Pilot.@@N@@.Jvm.D
abbrev sI (x : Int32) : Slot := .val (.int x)
abbrev sJ (x : Int64) : Slot := .val (.long x)
abbrev sR (a : Addr) : Slot := .val (.ref a)
abbrev sN : Slot := .val .null
abbrev sU : Slot := .unset
abbrev sW : Slot := .second
abbrev own_S (p : Program) (e : Env) (below : List Frame) (T : State) (m : MethodId) (pc : Nat) (L : Array Slot) (S : List Value) (t : State) : Prop := Steps p.tables e below (T.setTop (mkF m pc L S)) t
theorem own_addE (x y : Int64) (h1 : -9223372036854775808 ≤ x.toInt + y.toInt) (h2 : x.toInt + y.toInt < 9223372036854775808) : (x + y).toInt = x.toInt + y.toInt := by
  have a := c_ladd x y
  have r := rng64 (x + y)
  generalize x.toInt + y.toInt = P at *
  generalize (x + y).toInt = Q at *
  omega
theorem own_subE (x y : Int64) (h1 : -9223372036854775808 ≤ x.toInt - y.toInt) (h2 : x.toInt - y.toInt < 9223372036854775808) : (x - y).toInt = x.toInt - y.toInt := by
  have a := c_lsub x y
  have r := rng64 (x - y)
  generalize x.toInt - y.toInt = P at *
  generalize (x - y).toInt = Q at *
  omega
theorem own_mulE (x y : Int64) (h1 : -9223372036854775808 ≤ x.toInt * y.toInt) (h2 : x.toInt * y.toInt < 9223372036854775808) : (x * y).toInt = x.toInt * y.toInt := by
  have a := c_lmul x y
  have r := rng64 (x * y)
  generalize x.toInt * y.toInt = P at *
  generalize (x * y).toInt = Q at *
  omega
def own_up (n : Int64) : Int64 := if (n - (n / (1000000000 : Int64)) * (1000000000 : Int64)) = (0 : Int64) then (n / (1000000000 : Int64)) + ((0 : Int32).toInt64) else (n / (1000000000 : Int64)) + ((1 : Int32).toInt64)
theorem own_up_int (n : Int64) (h : 0 ≤ n.toInt) : (own_up n).toInt = (n.toInt + 999999999) / 1000000000 := by
  have e : (1000000000 : Int64).toInt = 1000000000 := by decide
  have e0 : ((0 : Int32).toInt64).toInt = 0 := by decide
  have e1 : ((1 : Int32).toInt64).toInt = 1 := by decide
  have z0 : (0 : Int64).toInt = 0 := by decide
  have h1 := (c_ldiv n 1000000000 1000000000 e (by decide)).1 h
  have h2 := (c_lrem n 1000000000 1000000000 e).1 h
  have r := rng64 n
  unfold own_up
  split
  · rename_i q
    have q' := congrArg Int64.toInt q
    rw [h2, z0] at q'
    have a := c_ladd (n / 1000000000) ((0 : Int32).toInt64)
    have ra := rng64 (n / 1000000000 + ((0 : Int32).toInt64))
    rw [e0, h1] at a
    omega
  · rename_i q
    have q' : ¬ n.toInt % 1000000000 = 0 := fun z => q (by apply Int64.toInt_inj.mp; rw [h2, z0, z])
    have a := c_ladd (n / 1000000000) ((1 : Int32).toInt64)
    have ra := rng64 (n / 1000000000 + ((1 : Int32).toInt64))
    rw [e1, h1] at a
    omega
theorem own_m (k : Int64) : 0 ≤ ((k &&& (9223372036854775807 : Int64)) - ((k &&& (9223372036854775807 : Int64)) / (9223372036 : Int64)) * (9223372036 : Int64)).toInt ∧ ((k &&& (9223372036854775807 : Int64)) - ((k &&& (9223372036854775807 : Int64)) / (9223372036 : Int64)) * (9223372036 : Int64)).toInt < 9223372036 := by
  have h1 : 0 ≤ (k &&& (9223372036854775807 : Int64)).toInt := by rw [c_maskL k 9223372036854775807 63 (by decide) (by decide)]; exact Int.emod_nonneg _ (by decide)
  have h2 := (c_lrem (k &&& (9223372036854775807 : Int64)) 9223372036 9223372036 (by decide)).1 h1
  rw [h2]
  omega
theorem own_mask (x : Int64) : 0 ≤ (x &&& (9223372036854775807 : Int64)).toInt := by rw [c_maskL x 9223372036854775807 63 (by decide) (by decide)]; exact Int.emod_nonneg _ (by decide)
theorem own_bn (m : Int64) (h : 0 ≤ m.toInt ∧ m.toInt < 9223372036) : 0 ≤ (m * (1000000000 : Int64)).toInt ∧ (m * (1000000000 : Int64)).toInt ≤ 9223372035000000000 := by
  have e : (1000000000 : Int64).toInt = 1000000000 := by decide
  rw [own_mulE m 1000000000 (by rw [e]; omega) (by rw [e]; omega), e]
  omega
theorem own_bp (m c : Int64) (h : 0 ≤ m.toInt ∧ m.toInt < 9223372036) (hc : 0 ≤ c.toInt ∧ c.toInt < 1000000000) : 0 ≤ (m * (1000000000 : Int64) + c).toInt := by
  have q := own_bn m h
  rw [own_addE _ c (by omega) (by omega)]
  omega
theorem own_div (N S : Int) (h : 0 < N) (hN : N < 9223372036854775808) (hS : S = (N + 999999999) / 1000000000) : 1 ≤ S ∧ S ≤ 9223372037 ∧ 0 ≤ (S - 1) * 1000000000 ∧ (S - 1) * 1000000000 < N ∧ N ≤ (S - 1) * 1000000000 + 1000000000 := by omega
theorem own_fin (n s : Int64) (h : 0 ≤ n.toInt) (hs : s = own_up n) :
    (n = (0 : Int64) → s = (0 : Int64)) ∧ (¬ n = (0 : Int64) → ¬ s < (1 : Int64) ∧ ¬ (9223372037 : Int64) < s ∧ (0 : Int64) < n - (s - (1 : Int64)) * (1000000000 : Int64) ∧ ¬ (1000000000 : Int64) < n - (s - (1 : Int64)) * (1000000000 : Int64)) := by
  have e : (1000000000 : Int64).toInt = 1000000000 := by decide
  have e1 : (1 : Int64).toInt = 1 := by decide
  have z0 : (0 : Int64).toInt = 0 := by decide
  have e9 : (9223372037 : Int64).toInt = 9223372037 := by decide
  have hu : s.toInt = (n.toInt + 999999999) / 1000000000 := by rw [hs]; exact own_up_int n h
  refine ⟨fun q => ?_, fun q => ?_⟩
  · apply Int64.toInt_inj.mp
    rw [hu, q, z0]; decide
  · have q' : n.toInt ≠ 0 := fun z => q (by apply Int64.toInt_inj.mp; rw [z, z0])
    have d := own_div n.toInt s.toInt (by omega) (rng64 n).2 hu
    have b1 : (s - 1).toInt = s.toInt - 1 := by rw [own_subE s 1 (by rw [e1]; omega) (by rw [e1]; omega), e1]
    have b3 : ((s - 1) * 1000000000).toInt = (s.toInt - 1) * 1000000000 := by rw [own_mulE (s - 1) 1000000000 (by rw [b1, e]; omega) (by rw [b1, e]; have := (rng64 n).2; omega), b1, e]
    have b4 : (n - (s - 1) * 1000000000).toInt = n.toInt - (s.toInt - 1) * 1000000000 := by rw [own_subE n _ (by rw [b3]; omega) (by rw [b3]; omega), b3]
    simp only [Int64.lt_iff_toInt_lt]
    rw [e1, e9, z0, e, b4]
    clear b4 b3 b1 hu hs
    refine ⟨by omega, by omega, by omega, by omega⟩
theorem own_static_long {t : Term} {args : Array Value} {s : State} {n : Int64} (h : (Jvm.Cond.eq t (.long n)).value args s none s [] = some true) : t.eval args s none [] s = some (.long n) := by
  obtain ⟨x, y, h1, h2, h3, h4⟩ := cmp_v (Or.inl h)
  obtain rfl : y = .long n := (Option.some.inj h2).symm
  obtain ⟨z, rfl⟩ : ∃ z, x = .long z := h4
  rw [gotT (eq_L h1 rfl) h] at h1
  exact h1
theorem own_d1_0 : decode prog_36_method_27_code 0 = .ok (.lload_n 0, 1) := by decide +kernel
theorem own_d1_1 : decode prog_36_method_27_code 1 = .ok (.getstatic 114, 3) := by decide +kernel
theorem own_d1_4 : decode prog_36_method_27_code 4 = .ok (.ldiv, 1) := by decide +kernel
theorem own_d1_5 : decode prog_36_method_27_code 5 = .ok (.lload_n 0, 1) := by decide +kernel
theorem own_d1_6 : decode prog_36_method_27_code 6 = .ok (.getstatic 114, 3) := by decide +kernel
theorem own_d1_9 : decode prog_36_method_27_code 9 = .ok (.lrem, 1) := by decide +kernel
theorem own_d1_10 : decode prog_36_method_27_code 10 = .ok (.lconst 0, 1) := by decide +kernel
theorem own_d1_11 : decode prog_36_method_27_code 11 = .ok (.lcmp, 1) := by decide +kernel
theorem own_d1_12 : decode prog_36_method_27_code 12 = .ok (.ifCond .ne 7, 3) := by decide +kernel
theorem own_d1_15 : decode prog_36_method_27_code 15 = .ok (.iconst 0, 1) := by decide +kernel
theorem own_d1_16 : decode prog_36_method_27_code 16 = .ok (.goto 4, 3) := by decide +kernel
theorem own_d1_19 : decode prog_36_method_27_code 19 = .ok (.iconst 1, 1) := by decide +kernel
theorem own_d1_20 : decode prog_36_method_27_code 20 = .ok (.i2l, 1) := by decide +kernel
theorem own_d1_21 : decode prog_36_method_27_code 21 = .ok (.ladd, 1) := by decide +kernel
theorem own_d1_22 : decode prog_36_method_27_code 22 = .ok (.lreturn, 1) := by decide +kernel
theorem own_pn_0 : plainName "com/example/adlim/adlim/client/Limit" = true := by first | (simp [plainName, overriddenIn]; done) | decide +kernel
theorem own_ef_1 (m : MethodId) (x0 : Int64) : entryFrame m #[(.long x0)] 2 = mkF m 0 #[sJ x0, .second] [] := by first | (simp [entryFrame, mkF, argsToLocals, Value.category]; done) | rfl
def own_Q1 (Z : State) (q1 : Int64) (h0 : Heap) (n0 : Nat) (v : Option Value) (h : Heap) (L : List Loc) : Prop := v = some (.long (own_up q1)) ∧ Fr n0 L ∧ h = h0
abbrev own_y0 : MethodName := ⟨"com/example/adlim/adlim/client/Limit", "secondsRoundedUp", "(J)J"⟩
set_option maxRecDepth 65536 in
set_option maxHeartbeats 40000000 in
theorem own_rm1 (l : Launch) (Z : State) (a0 : Array Value) (hw : ∀ d ∈ tables_1, d.before a0 Z = true) (ws : List Jvm.Cond) (q1 : Int64) (h0 : Heap) (n0 : Nat) (Z0 : n0 ≤ h0.size) (S_ONE_SECOND : Sta Z h0 "com/example/adlim/adlim/client/Limit" "ONE_SECOND" "J" (.long 1000000000)) :
    MetFree l own_y0 (head1 (Jvm.Cond.code own_y0 prog_36_method_27_code 2 (some .long) :: ws) ({ frames := 0, cells := 0, slots := 0, locals := 0 } : Room)) (fun a U => a = #[(.long q1)] ∧ Z.Warmed39 U.vm ∧ U.heap = h0) (fun _ _ _ _ _ => True) (fun _ U o U' => ∃ v L, o = .returned v ∧ own_Q1 Z q1 h0 n0 v U'.heap L ∧ FrameEnd U o U' L ({ frames := 0, cells := 0, slots := 0, locals := 0 } : Room).cells ({ frames := 0, cells := 0, slots := 0, locals := 0 } : Room).slots) := by
  refine MetFree.of_bodySF (plainFor_of_name own_pn_0) hisR ?_
  intro p e s m args below meth c s₁ Bd hml0 hP hK
  obtain ⟨rfl, hZ, hh⟩ := hP
  have hw6 := hw _ (List.mem_of_getElem? (i := 6) rfl)
  have hx := Bd.exec
  have hby := Bd.bytes
  have hml : c.maxLocals = 2 := hml0
  have hown : s.vm.findClass "com/example/adlim/adlim/client/Limit" = some m.cls := findClass_of_methodNamed Bd.named
  have hnm := (name_of_methodNamed Bd.named Bd.method).1
  have X0 : Stand p l e ({ frames := 0, cells := 0, slots := 0, locals := 0 } : Room) s m #[(.long q1)] below meth c s₁ [] 0 0 := Stand.of_body Bd
  have e0 : s₁.heap = h0 := by rw [← hh, Bd.state]; rfl
  have N0 := Fr.nil n0
  obtain ⟨R0, hR0⟩ : ∃ R : State → Prop, R = fun t => Steps p.tables e below (s₁.setTop (entryFrame m #[(.long q1)] 2)) t := ⟨_, rfl⟩
  have pre0 : ∀ t, Steps p.tables e below (s₁.setTop (mkF m 0 #[sJ q1, sW] [])) t → R0 t := fun t k => by rw [hR0]; exact castTop (own_ef_1 m q1) k
  have pre1 : ∀ t, own_S p e below s₁ m 1 #[sJ q1, sW] [(.long q1)] t → R0 t := fun t k => pre0 t (by
    refine XS.lloadN X0.here hx rfl (hb hby own_d1_0) rfl ?_
    exact k)
  obtain ⟨T2, X2, e2, st2⟩ := getS2 X0 hx hZ hown (host := "") (Or.inl hw6) Via.refl e0 S_ONE_SECOND (g := (mkF m 1 #[sJ q1, sW] [(.long q1)])) rfl (hb hby own_d1_1)
  have pre3 : ∀ t, own_S p e below T2 m 6 #[sJ q1, sW] [(.long q1), (.long (q1 / (1000000000 : Int64)))] t → R0 t := fun t k => pre1 t (by
    refine st2 _ ?_
    show own_S p e below T2 m 4 #[sJ q1, sW] [(.long 1000000000), (.long q1)] _
    refine XS.ldiv X2.here hx rfl (hb hby own_d1_4) rfl (by decide) ?_
    show own_S p e below T2 m 5 #[sJ q1, sW] [(.long (q1 / (1000000000 : Int64)))] _
    refine XS.lloadN X2.here hx rfl (hb hby own_d1_5) rfl ?_
    exact k)
  obtain ⟨T4, X4, e4, st4⟩ := getS2 X2 hx hZ hown (host := "") (Or.inl hw6) Via.refl e2 S_ONE_SECOND (g := (mkF m 6 #[sJ q1, sW] [(.long q1), (.long (q1 / (1000000000 : Int64)))])) rfl (hb hby own_d1_6)
  have pre5 : ∀ t, own_S p e below T4 m 12 #[sJ q1, sW] [(.int (lcmpW (q1 - (q1 / (1000000000 : Int64)) * (1000000000 : Int64)) (0 : Int64))), (.long (q1 / (1000000000 : Int64)))] t → R0 t := fun t k => pre3 t (by
    refine st4 _ ?_
    show own_S p e below T4 m 9 #[sJ q1, sW] [(.long 1000000000), (.long q1), (.long (q1 / (1000000000 : Int64)))] _
    refine XS.lrem X4.here hx rfl (hb hby own_d1_9) rfl (by decide) ?_
    show own_S p e below T4 m 10 #[sJ q1, sW] [(.long (q1 - (q1 / (1000000000 : Int64)) * (1000000000 : Int64))), (.long (q1 / (1000000000 : Int64)))] _
    refine XS.lconst X4.here hx rfl (hb hby own_d1_10) ?_
    show own_S p e below T4 m 11 #[sJ q1, sW] [(.long 0), (.long (q1 - (q1 / (1000000000 : Int64)) * (1000000000 : Int64))), (.long (q1 / (1000000000 : Int64)))] _
    refine XS.lcmp X4.here hx rfl (hb hby own_d1_11) rfl ?_
    exact k)
  by_cases hc12 : (q1 - (q1 / (1000000000 : Int64)) * (1000000000 : Int64)) = (0 : Int64)
  · have pre6 : ∀ t, own_S p e below T4 m 22 #[sJ q1, sW] [(.long ((q1 / (1000000000 : Int64)) + ((0 : Int32).toInt64)))] t → R0 t := fun t k => pre5 t (by
      refine XS.ifNo X4.here hx rfl (hb hby own_d1_12) rfl ((if0 _ _).trans (teq ((lw_eq _ _).mpr hc12)).2) ?_
      show own_S p e below T4 m 15 #[sJ q1, sW] [(.long (q1 / (1000000000 : Int64)))] _
      refine XS.iconst X4.here hx rfl (hb hby own_d1_15) ?_
      show own_S p e below T4 m 16 #[sJ q1, sW] [(.int 0), (.long (q1 / (1000000000 : Int64)))] _
      refine XS.goto X4.here hx rfl (pc0 := 16) (pc' := 20) rfl (hb hby own_d1_16) (by decide) (by decide) ?_
      show own_S p e below T4 m 20 #[sJ q1, sW] [(.int 0), (.long (q1 / (1000000000 : Int64)))] _
      refine XS.i2l X4.here hx rfl (hb hby own_d1_20) rfl ?_
      show own_S p e below T4 m 21 #[sJ q1, sW] [(.long ((0 : Int32).toInt64)), (.long (q1 / (1000000000 : Int64)))] _
      refine XS.ladd X4.here hx rfl (hb hby own_d1_21) rfl ?_
      exact k)
    obtain ⟨fs, hr, hrun, hended, hW, hsame⟩ := X4.leave (v := some (.long ((q1 / (1000000000 : Int64)) + ((0 : Int32).toInt64)))) (fun h => by rw [Bd.returns] at h; cases h)
    refine ⟨_, _, cast (congrFun hR0 _) (pre6 _ (retOut X4 hx Bd.returns rfl (Or.inr (Or.inl ⟨rfl, rfl, _, rfl⟩)) (hb hby own_d1_22) hr)), hrun, hended, _, _, rfl, ?_, ⟨_, rfl⟩, hW, hsame.mono (by decide) (by decide)⟩
    show own_Q1 Z _ h0 n0 _ T4.heap _
    rw [e4]
    exact ⟨(by rw [own_up, if_pos hc12]), N0, rfl⟩
  · have pre7 : ∀ t, own_S p e below T4 m 22 #[sJ q1, sW] [(.long ((q1 / (1000000000 : Int64)) + ((1 : Int32).toInt64)))] t → R0 t := fun t k => pre5 t (by
      refine XS.ifYes X4.here hx rfl (pc0 := 12) (pc' := 19) rfl (hb hby own_d1_12) rfl ((if0 _ _).trans (feq (mt (lw_eq _ _).mp hc12)).2) (by decide) (by decide) ?_
      show own_S p e below T4 m 19 #[sJ q1, sW] [(.long (q1 / (1000000000 : Int64)))] _
      refine XS.iconst X4.here hx rfl (hb hby own_d1_19) ?_
      show own_S p e below T4 m 20 #[sJ q1, sW] [(.int 1), (.long (q1 / (1000000000 : Int64)))] _
      refine XS.i2l X4.here hx rfl (hb hby own_d1_20) rfl ?_
      show own_S p e below T4 m 21 #[sJ q1, sW] [(.long ((1 : Int32).toInt64)), (.long (q1 / (1000000000 : Int64)))] _
      refine XS.ladd X4.here hx rfl (hb hby own_d1_21) rfl ?_
      exact k)
    obtain ⟨fs, hr, hrun, hended, hW, hsame⟩ := X4.leave (v := some (.long ((q1 / (1000000000 : Int64)) + ((1 : Int32).toInt64)))) (fun h => by rw [Bd.returns] at h; cases h)
    refine ⟨_, _, cast (congrFun hR0 _) (pre7 _ (retOut X4 hx Bd.returns rfl (Or.inr (Or.inl ⟨rfl, rfl, _, rfl⟩)) (hb hby own_d1_22) hr)), hrun, hended, _, _, rfl, ?_, ⟨_, rfl⟩, hW, hsame.mono (by decide) (by decide)⟩
    show own_Q1 Z _ h0 n0 _ T4.heap _
    rw [e4]
    exact ⟨(by rw [own_up, if_neg hc12]), N0, rfl⟩
theorem own_pd_0 : parseMethodDescriptor "(J)J" = some ⟨[.long], some .long⟩ := by decide +kernel
theorem own_pn_1 : plainName "com/example/adlim/adlim/client/LimitSecondsRoundedUpPinLaw" = true := by first | (simp [plainName, overriddenIn]; done) | decide +kernel
theorem own_ef_0 (m : MethodId) (x0 : Int64) (x1 : Int64) (x2 : Int32) : entryFrame m #[(.long x0), (.long x1), (.int x2)] maxLocals = mkF m 0 #[sJ x0, .second, sJ x1, .second, sI x2, .unset, .unset, .unset, .unset, .unset, .unset, .unset, .unset, .unset] [] := by first | (simp [entryFrame, mkF, argsToLocals, Value.category, maxLocals]; done) | rfl
def own_Q0 (Z : State) (q1 : Int64) (q2 : Int64) (p3 : Int32) (h0 : Heap) (n0 : Nat) (v : Option Value) (h : Heap) (L : List Loc) : Prop := v = some (.int 1) ∧ Fr n0 L
set_option maxRecDepth 65536 in
set_option maxHeartbeats 40000000 in
theorem own_rm0 (l : Launch) (Z : State) (a0 : Array Value) (hw : ∀ d ∈ tables_1, d.before a0 Z = true) (ws : List Jvm.Cond) (q1 : Int64) (q2 : Int64) (p3 : Int32) (h0 : Heap) (n0 : Nat) (Z0 : n0 ≤ h0.size) (S_ONE_SECOND : Sta Z h0 "com/example/adlim/adlim/client/Limit" "ONE_SECOND" "J" (.long 1000000000)) :
    MetFree l x (head1 (Jvm.Cond.code x code maxLocals ret :: ws) room_1) (fun a U => a = #[(.long q1), (.long q2), (.int p3)] ∧ Z.Warmed39 U.vm ∧ U.heap = h0) (fun _ _ _ _ _ => True) (fun _ U o U' => ∃ v L, o = .returned v ∧ own_Q0 Z q1 q2 p3 h0 n0 v U'.heap L ∧ FrameEnd U o U' L room_1.cells room_1.slots) := by
  refine MetFree.of_bodySF (plainFor_of_name own_pn_1) hisR ?_
  intro p e s m args below meth c s₁ Bd hml0 hP hK
  obtain ⟨rfl, hZ, hh⟩ := hP
  have hw0 := hw _ (List.mem_of_getElem? (i := 0) rfl)
  have hw1 := hw _ (List.mem_of_getElem? (i := 1) rfl)
  have hw2 := hw _ (List.mem_of_getElem? (i := 2) rfl)
  have hw3 := hw _ (List.mem_of_getElem? (i := 3) rfl)
  have hw4 := hw _ (List.mem_of_getElem? (i := 4) rfl)
  have hw5 := hw _ (List.mem_of_getElem? (i := 5) rfl)
  have hw8 := hw _ (List.mem_of_getElem? (i := 8) rfl)
  have hw9 := hw _ (List.mem_of_getElem? (i := 9) rfl)
  have hw10 := hw _ (List.mem_of_getElem? (i := 10) rfl)
  have hx := Bd.exec
  have hby := Bd.bytes
  have hml : c.maxLocals = 14 := hml0
  have hown : s.vm.findClass "com/example/adlim/adlim/client/LimitSecondsRoundedUpPinLaw" = some m.cls := findClass_of_methodNamed Bd.named
  have hnm := (name_of_methodNamed Bd.named Bd.method).1
  have X0 : Stand p l e room_1 s m #[(.long q1), (.long q2), (.int p3)] below meth c s₁ [] 0 0 := Stand.of_body Bd
  have e0 : s₁.heap = h0 := by rw [← hh, Bd.state]; rfl
  have N0 := Fr.nil n0
  obtain ⟨R0, hR0⟩ : ∃ R : State → Prop, R = fun t => Steps p.tables e below (s₁.setTop (entryFrame m #[(.long q1), (.long q2), (.int p3)] maxLocals)) t := ⟨_, rfl⟩
  have pre0 : ∀ t, Steps p.tables e below (s₁.setTop (mkF m 0 #[sJ q1, sW, sJ q2, sW, sI p3, sU, sU, sU, sU, sU, sU, sU, sU, sU] [])) t → R0 t := fun t k => by rw [hR0]; exact castTop (own_ef_0 m q1 q2 p3) k
  have pre1 : ∀ t, own_S p e below s₁ m 4 #[sJ q1, sW, sJ q2, sW, sI p3, sU, sU, sU, sU, sU, sU, sU, sU, sU] [(.int (p3 &&& (3 : Int32)))] t → R0 t := fun t k => pre0 t (by
    refine XS.iload X0.here hx rfl (hb hby at_0) rfl ?_
    show own_S p e below s₁ m 2 #[sJ q1, sW, sJ q2, sW, sI p3, sU, sU, sU, sU, sU, sU, sU, sU, sU] [(.int p3)] _
    refine XS.iconst X0.here hx rfl (hb hby at_2) ?_
    show own_S p e below s₁ m 3 #[sJ q1, sW, sJ q2, sW, sI p3, sU, sU, sU, sU, sU, sU, sU, sU, sU] [(.int 3), (.int p3)] _
    refine XS.iand X0.here hx rfl (hb hby at_3) rfl ?_
    exact k)
  obtain ⟨v7, hv7⟩ : ∃ z : Int32, z = (p3 &&& (3 : Int32)) := ⟨_, rfl⟩
  have pre2 : ∀ t, own_S p e below s₁ m 4 #[sJ q1, sW, sJ q2, sW, sI p3, sU, sU, sU, sU, sU, sU, sU, sU, sU] [(.int v7)] t → R0 t := fun t k => pre1 t (by subst hv7; exact k)
  have pre3 : ∀ t, own_S p e below s₁ m 15 #[sJ q1, sW, sJ q2, sW, sI p3, sU, sU, sI v7, sU, sU, sU, sU, sU, sU] [(.long ((q2 &&& (9223372036854775807 : Int64)) - ((q2 &&& (9223372036854775807 : Int64)) / (9223372036 : Int64)) * (9223372036 : Int64)))] t → R0 t := fun t k => pre2 t (by
    refine XS.istore X0.here hx rfl (hb hby at_4) rfl (l' := #[sJ q1, sW, sJ q2, sW, sI p3, sU, sU, sI v7, sU, sU, sU, sU, sU, sU]) rfl ?_
    show own_S p e below s₁ m 6 #[sJ q1, sW, sJ q2, sW, sI p3, sU, sU, sI v7, sU, sU, sU, sU, sU, sU] [] _
    refine XS.lloadN X0.here hx rfl (hb hby at_6) rfl ?_
    show own_S p e below s₁ m 7 #[sJ q1, sW, sJ q2, sW, sI p3, sU, sU, sI v7, sU, sU, sU, sU, sU, sU] [(.long q2)] _
    refine X0.ldc2Long hx hown (mvT hZ hw0) (g := (mkF m 7 #[sJ q1, sW, sJ q2, sW, sI p3, sU, sU, sI v7, sU, sU, sU, sU, sU, sU] [(.long q2)])) rfl (hb hby at_7) _ ?_
    show own_S p e below s₁ m 10 #[sJ q1, sW, sJ q2, sW, sI p3, sU, sU, sI v7, sU, sU, sU, sU, sU, sU] [(.long 9223372036854775807), (.long q2)] _
    refine XS.land X0.here hx rfl (hb hby at_10) rfl ?_
    show own_S p e below s₁ m 11 #[sJ q1, sW, sJ q2, sW, sI p3, sU, sU, sI v7, sU, sU, sU, sU, sU, sU] [(.long (q2 &&& (9223372036854775807 : Int64)))] _
    refine X0.ldc2Long hx hown (mvT hZ hw1) (g := (mkF m 11 #[sJ q1, sW, sJ q2, sW, sI p3, sU, sU, sI v7, sU, sU, sU, sU, sU, sU] [(.long (q2 &&& (9223372036854775807 : Int64)))])) rfl (hb hby at_11) _ ?_
    show own_S p e below s₁ m 14 #[sJ q1, sW, sJ q2, sW, sI p3, sU, sU, sI v7, sU, sU, sU, sU, sU, sU] [(.long 9223372036), (.long (q2 &&& (9223372036854775807 : Int64)))] _
    refine XS.lrem X0.here hx rfl (hb hby at_14) rfl (by decide) ?_
    exact k)
  obtain ⟨v8, hv8⟩ : ∃ z : Int64, z = ((q2 &&& (9223372036854775807 : Int64)) - ((q2 &&& (9223372036854775807 : Int64)) / (9223372036 : Int64)) * (9223372036 : Int64)) := ⟨_, rfl⟩
  have pre4 : ∀ t, own_S p e below s₁ m 15 #[sJ q1, sW, sJ q2, sW, sI p3, sU, sU, sI v7, sU, sU, sU, sU, sU, sU] [(.long v8)] t → R0 t := fun t k => pre3 t (by subst hv8; exact k)
  have b8 : 0 ≤ v8.toInt ∧ v8.toInt < 9223372036 := by rw [hv8]; exact own_m q2
  have pre5 : ∀ t, own_S p e below s₁ m 19 #[sJ q1, sW, sJ q2, sW, sI p3, sU, sU, sI v7, sJ v8, sW, sU, sU, sU, sU] [(.int v7)] t → R0 t := fun t k => pre4 t (by
    refine XS.lstore X0.here hx rfl (hb hby at_15) rfl (l' := #[sJ q1, sW, sJ q2, sW, sI p3, sU, sU, sI v7, sJ v8, sW, sU, sU, sU, sU]) rfl ?_
    show own_S p e below s₁ m 17 #[sJ q1, sW, sJ q2, sW, sI p3, sU, sU, sI v7, sJ v8, sW, sU, sU, sU, sU] [] _
    refine XS.iload X0.here hx rfl (hb hby at_17) rfl ?_
    exact k)
  obtain ⟨T6, Lc7, n5, X8, e9, N10, P11, pre12⟩ : ∃ (T6 : State) (Lc7 : List Loc) (n5 : Int64), Stand p l e room_1 s m #[(.long q1), (.long q2), (.int p3)] below meth c T6 Lc7 0 0 ∧ T6.heap = h0 ∧ Fr n0 Lc7 ∧ (0 ≤ n5.toInt) ∧ ∀ t, own_S p e below T6 m 80 #[sJ q1, sW, sJ q2, sW, sI p3, sJ n5, sW, sI v7, sJ v8, sW, sU, sU, sU, sU] [] t → R0 t := by
    by_cases hc19 : v7 = (0 : Int32)
    · have pre13 : ∀ t, own_S p e below s₁ m 80 #[sJ q1, sW, sJ q2, sW, sI p3, sJ (q1 &&& (9223372036854775807 : Int64)), sW, sI v7, sJ v8, sW, sU, sU, sU, sU] [] t → R0 t := fun t k => pre5 t (by
        refine XS.ifNo X0.here hx rfl (hb hby at_19) rfl ((if0 _ _).trans (teq hc19).2) ?_
        show own_S p e below s₁ m 22 #[sJ q1, sW, sJ q2, sW, sI p3, sU, sU, sI v7, sJ v8, sW, sU, sU, sU, sU] [] _
        refine XS.lloadN X0.here hx rfl (hb hby at_22) rfl ?_
        show own_S p e below s₁ m 23 #[sJ q1, sW, sJ q2, sW, sI p3, sU, sU, sI v7, sJ v8, sW, sU, sU, sU, sU] [(.long q1)] _
        refine X0.ldc2Long hx hown (mvT hZ hw0) (g := (mkF m 23 #[sJ q1, sW, sJ q2, sW, sI p3, sU, sU, sI v7, sJ v8, sW, sU, sU, sU, sU] [(.long q1)])) rfl (hb hby at_23) _ ?_
        show own_S p e below s₁ m 26 #[sJ q1, sW, sJ q2, sW, sI p3, sU, sU, sI v7, sJ v8, sW, sU, sU, sU, sU] [(.long 9223372036854775807), (.long q1)] _
        refine XS.land X0.here hx rfl (hb hby at_26) rfl ?_
        show own_S p e below s₁ m 27 #[sJ q1, sW, sJ q2, sW, sI p3, sU, sU, sI v7, sJ v8, sW, sU, sU, sU, sU] [(.long (q1 &&& (9223372036854775807 : Int64)))] _
        refine XS.lstore X0.here hx rfl (hb hby at_27) rfl (l' := #[sJ q1, sW, sJ q2, sW, sI p3, sJ (q1 &&& (9223372036854775807 : Int64)), sW, sI v7, sJ v8, sW, sU, sU, sU, sU]) rfl ?_
        show own_S p e below s₁ m 29 #[sJ q1, sW, sJ q2, sW, sI p3, sJ (q1 &&& (9223372036854775807 : Int64)), sW, sI v7, sJ v8, sW, sU, sU, sU, sU] [] _
        refine XS.goto X0.here hx rfl (pc0 := 29) (pc' := 80) rfl (hb hby at_29) (by decide) (by decide) ?_
        exact k)
      exact ⟨_, _, (q1 &&& (9223372036854775807 : Int64)), X0, e0, N0, own_mask q1, pre13⟩
    · have pre14 : ∀ t, own_S p e below s₁ m 35 #[sJ q1, sW, sJ q2, sW, sI p3, sU, sU, sI v7, sJ v8, sW, sU, sU, sU, sU] [(.int 1), (.int v7)] t → R0 t := fun t k => pre5 t (by
        refine XS.ifYes X0.here hx rfl (pc0 := 19) (pc' := 32) rfl (hb hby at_19) rfl ((if0 _ _).trans (feq hc19).2) (by decide) (by decide) ?_
        show own_S p e below s₁ m 32 #[sJ q1, sW, sJ q2, sW, sI p3, sU, sU, sI v7, sJ v8, sW, sU, sU, sU, sU] [] _
        refine XS.iload X0.here hx rfl (hb hby at_32) rfl ?_
        show own_S p e below s₁ m 34 #[sJ q1, sW, sJ q2, sW, sI p3, sU, sU, sI v7, sJ v8, sW, sU, sU, sU, sU] [(.int v7)] _
        refine XS.iconst X0.here hx rfl (hb hby at_34) ?_
        exact k)
      by_cases hc35 : v7 = (1 : Int32)
      · have pre15 : ∀ t, own_S p e below s₁ m 80 #[sJ q1, sW, sJ q2, sW, sI p3, sJ (v8 * (1000000000 : Int64)), sW, sI v7, sJ v8, sW, sU, sU, sU, sU] [] t → R0 t := fun t k => pre14 t (by
          refine XS.icmpNo X0.here hx rfl (hb hby at_35) rfl (teq hc35).2 ?_
          show own_S p e below s₁ m 38 #[sJ q1, sW, sJ q2, sW, sI p3, sU, sU, sI v7, sJ v8, sW, sU, sU, sU, sU] [] _
          refine XS.lload X0.here hx rfl (hb hby at_38) rfl ?_
          show own_S p e below s₁ m 40 #[sJ q1, sW, sJ q2, sW, sI p3, sU, sU, sI v7, sJ v8, sW, sU, sU, sU, sU] [(.long v8)] _
          refine X0.ldc2Long hx hown (mvT hZ hw9) (g := (mkF m 40 #[sJ q1, sW, sJ q2, sW, sI p3, sU, sU, sI v7, sJ v8, sW, sU, sU, sU, sU] [(.long v8)])) rfl (hb hby at_40) _ ?_
          show own_S p e below s₁ m 43 #[sJ q1, sW, sJ q2, sW, sI p3, sU, sU, sI v7, sJ v8, sW, sU, sU, sU, sU] [(.long 1000000000), (.long v8)] _
          refine XS.lmul X0.here hx rfl (hb hby at_43) rfl ?_
          show own_S p e below s₁ m 44 #[sJ q1, sW, sJ q2, sW, sI p3, sU, sU, sI v7, sJ v8, sW, sU, sU, sU, sU] [(.long (v8 * (1000000000 : Int64)))] _
          refine XS.lstore X0.here hx rfl (hb hby at_44) rfl (l' := #[sJ q1, sW, sJ q2, sW, sI p3, sJ (v8 * (1000000000 : Int64)), sW, sI v7, sJ v8, sW, sU, sU, sU, sU]) rfl ?_
          show own_S p e below s₁ m 46 #[sJ q1, sW, sJ q2, sW, sI p3, sJ (v8 * (1000000000 : Int64)), sW, sI v7, sJ v8, sW, sU, sU, sU, sU] [] _
          refine XS.goto X0.here hx rfl (pc0 := 46) (pc' := 80) rfl (hb hby at_46) (by decide) (by decide) ?_
          exact k)
        exact ⟨_, _, (v8 * (1000000000 : Int64)), X0, e0, N0, (own_bn v8 b8).1, pre15⟩
      · have pre16 : ∀ t, own_S p e below s₁ m 52 #[sJ q1, sW, sJ q2, sW, sI p3, sU, sU, sI v7, sJ v8, sW, sU, sU, sU, sU] [(.int 2), (.int v7)] t → R0 t := fun t k => pre14 t (by
          refine XS.icmpYes X0.here hx rfl (pc0 := 35) (pc' := 49) rfl (hb hby at_35) rfl (feq hc35).2 (by decide) (by decide) ?_
          show own_S p e below s₁ m 49 #[sJ q1, sW, sJ q2, sW, sI p3, sU, sU, sI v7, sJ v8, sW, sU, sU, sU, sU] [] _
          refine XS.iload X0.here hx rfl (hb hby at_49) rfl ?_
          show own_S p e below s₁ m 51 #[sJ q1, sW, sJ q2, sW, sI p3, sU, sU, sI v7, sJ v8, sW, sU, sU, sU, sU] [(.int v7)] _
          refine XS.iconst X0.here hx rfl (hb hby at_51) ?_
          exact k)
        by_cases hc52 : v7 = (2 : Int32)
        · have pre17 : ∀ t, own_S p e below s₁ m 80 #[sJ q1, sW, sJ q2, sW, sI p3, sJ ((v8 * (1000000000 : Int64)) + (1 : Int64)), sW, sI v7, sJ v8, sW, sU, sU, sU, sU] [] t → R0 t := fun t k => pre16 t (by
            refine XS.icmpNo X0.here hx rfl (hb hby at_52) rfl (teq hc52).2 ?_
            show own_S p e below s₁ m 55 #[sJ q1, sW, sJ q2, sW, sI p3, sU, sU, sI v7, sJ v8, sW, sU, sU, sU, sU] [] _
            refine XS.lload X0.here hx rfl (hb hby at_55) rfl ?_
            show own_S p e below s₁ m 57 #[sJ q1, sW, sJ q2, sW, sI p3, sU, sU, sI v7, sJ v8, sW, sU, sU, sU, sU] [(.long v8)] _
            refine X0.ldc2Long hx hown (mvT hZ hw9) (g := (mkF m 57 #[sJ q1, sW, sJ q2, sW, sI p3, sU, sU, sI v7, sJ v8, sW, sU, sU, sU, sU] [(.long v8)])) rfl (hb hby at_57) _ ?_
            show own_S p e below s₁ m 60 #[sJ q1, sW, sJ q2, sW, sI p3, sU, sU, sI v7, sJ v8, sW, sU, sU, sU, sU] [(.long 1000000000), (.long v8)] _
            refine XS.lmul X0.here hx rfl (hb hby at_60) rfl ?_
            show own_S p e below s₁ m 61 #[sJ q1, sW, sJ q2, sW, sI p3, sU, sU, sI v7, sJ v8, sW, sU, sU, sU, sU] [(.long (v8 * (1000000000 : Int64)))] _
            refine XS.lconst X0.here hx rfl (hb hby at_61) ?_
            show own_S p e below s₁ m 62 #[sJ q1, sW, sJ q2, sW, sI p3, sU, sU, sI v7, sJ v8, sW, sU, sU, sU, sU] [(.long 1), (.long (v8 * (1000000000 : Int64)))] _
            refine XS.ladd X0.here hx rfl (hb hby at_62) rfl ?_
            show own_S p e below s₁ m 63 #[sJ q1, sW, sJ q2, sW, sI p3, sU, sU, sI v7, sJ v8, sW, sU, sU, sU, sU] [(.long ((v8 * (1000000000 : Int64)) + (1 : Int64)))] _
            refine XS.lstore X0.here hx rfl (hb hby at_63) rfl (l' := #[sJ q1, sW, sJ q2, sW, sI p3, sJ ((v8 * (1000000000 : Int64)) + (1 : Int64)), sW, sI v7, sJ v8, sW, sU, sU, sU, sU]) rfl ?_
            show own_S p e below s₁ m 65 #[sJ q1, sW, sJ q2, sW, sI p3, sJ ((v8 * (1000000000 : Int64)) + (1 : Int64)), sW, sI v7, sJ v8, sW, sU, sU, sU, sU] [] _
            refine XS.goto X0.here hx rfl (pc0 := 65) (pc' := 80) rfl (hb hby at_65) (by decide) (by decide) ?_
            exact k)
          exact ⟨_, _, ((v8 * (1000000000 : Int64)) + (1 : Int64)), X0, e0, N0, own_bp v8 _ b8 (by decide), pre17⟩
        · have pre18 : ∀ t, own_S p e below s₁ m 80 #[sJ q1, sW, sJ q2, sW, sI p3, sJ ((v8 * (1000000000 : Int64)) + (999999999 : Int64)), sW, sI v7, sJ v8, sW, sU, sU, sU, sU] [] t → R0 t := fun t k => pre16 t (by
            refine XS.icmpYes X0.here hx rfl (pc0 := 52) (pc' := 68) rfl (hb hby at_52) rfl (feq hc52).2 (by decide) (by decide) ?_
            show own_S p e below s₁ m 68 #[sJ q1, sW, sJ q2, sW, sI p3, sU, sU, sI v7, sJ v8, sW, sU, sU, sU, sU] [] _
            refine XS.lload X0.here hx rfl (hb hby at_68) rfl ?_
            show own_S p e below s₁ m 70 #[sJ q1, sW, sJ q2, sW, sI p3, sU, sU, sI v7, sJ v8, sW, sU, sU, sU, sU] [(.long v8)] _
            refine X0.ldc2Long hx hown (mvT hZ hw9) (g := (mkF m 70 #[sJ q1, sW, sJ q2, sW, sI p3, sU, sU, sI v7, sJ v8, sW, sU, sU, sU, sU] [(.long v8)])) rfl (hb hby at_70) _ ?_
            show own_S p e below s₁ m 73 #[sJ q1, sW, sJ q2, sW, sI p3, sU, sU, sI v7, sJ v8, sW, sU, sU, sU, sU] [(.long 1000000000), (.long v8)] _
            refine XS.lmul X0.here hx rfl (hb hby at_73) rfl ?_
            show own_S p e below s₁ m 74 #[sJ q1, sW, sJ q2, sW, sI p3, sU, sU, sI v7, sJ v8, sW, sU, sU, sU, sU] [(.long (v8 * (1000000000 : Int64)))] _
            refine X0.ldc2Long hx hown (mvT hZ hw10) (g := (mkF m 74 #[sJ q1, sW, sJ q2, sW, sI p3, sU, sU, sI v7, sJ v8, sW, sU, sU, sU, sU] [(.long (v8 * (1000000000 : Int64)))])) rfl (hb hby at_74) _ ?_
            show own_S p e below s₁ m 77 #[sJ q1, sW, sJ q2, sW, sI p3, sU, sU, sI v7, sJ v8, sW, sU, sU, sU, sU] [(.long 999999999), (.long (v8 * (1000000000 : Int64)))] _
            refine XS.ladd X0.here hx rfl (hb hby at_77) rfl ?_
            show own_S p e below s₁ m 78 #[sJ q1, sW, sJ q2, sW, sI p3, sU, sU, sI v7, sJ v8, sW, sU, sU, sU, sU] [(.long ((v8 * (1000000000 : Int64)) + (999999999 : Int64)))] _
            refine XS.lstore X0.here hx rfl (hb hby at_78) rfl (l' := #[sJ q1, sW, sJ q2, sW, sI p3, sJ ((v8 * (1000000000 : Int64)) + (999999999 : Int64)), sW, sI v7, sJ v8, sW, sU, sU, sU, sU]) rfl ?_
            exact k)
          exact ⟨_, _, ((v8 * (1000000000 : Int64)) + (999999999 : Int64)), X0, e0, N0, own_bp v8 _ b8 (by decide), pre18⟩
  have b5 := P11
  have pre19 : ∀ t, own_S p e below T6 m 82 #[sJ q1, sW, sJ q2, sW, sI p3, sJ n5, sW, sI v7, sJ v8, sW, sU, sU, sU, sU] [(.long n5)] t → R0 t := fun t k => pre12 t (by
    refine XS.lload X8.here hx rfl (hb hby at_80) rfl ?_
    exact k)
  obtain ⟨_, _, ⟨T20, L20, k20, n20⟩, -, X20, ⟨Lc20, hQ20, l20, y20, z20⟩, st20⟩ := Jvm.LawKit.callS X8 hx (y := own_y0) hown (mvT hZ hw2) (mvT hZ hw3) (mvT hZ hw4) (mvT hZ hw5) (by decide) (backOf (W := 0) (own_rm1 l Z a0 hw [] n5 h0 n0 Z0 S_ONE_SECOND) hZ hw5 hw4 (by decide) (by decide)) (g := (mkF m 82 #[sJ q1, sW, sJ q2, sW, sI p3, sJ n5, sW, sI v7, sJ v8, sW, sU, sU, sU, sU] [(.long n5)])) rfl (by rw [hml]; rfl) (argsL := [(.long n5)]) (rest := []) (lenOf own_pd_0 rfl) rfl (by show 2 * 0 + _ ≤ _; exact Nat.le_of_eq rfl) (hb hby at_82) (fun _ _ => ⟨rfl, e9, (by decide : 0 + 0 ≤ _), (by decide : 0 + 0 ≤ _)⟩)
  dsimp only [Pt.U, Pt.locs, Pt.cells, Pt.slots] at X20 l20 y20 z20 st20 hQ20
  subst l20 y20 z20
  obtain ⟨rfl, N20q, eh20⟩ := hQ20
  have N20 := Fr.app N10 N20q
  have pre21 : ∀ t, own_S p e below T20 m 85 #[sJ q1, sW, sJ q2, sW, sI p3, sJ n5, sW, sI v7, sJ v8, sW, sU, sU, sU, sU] [(.long (own_up n5))] t → R0 t := fun t k => pre19 t (by
    refine st20 _ ?_
    exact k)
  obtain ⟨s10, hs10⟩ : ∃ z : Int64, z = (own_up n5) := ⟨_, rfl⟩
  have pre22 : ∀ t, own_S p e below T20 m 85 #[sJ q1, sW, sJ q2, sW, sI p3, sJ n5, sW, sI v7, sJ v8, sW, sU, sU, sU, sU] [(.long s10)] t → R0 t := fun t k => pre21 t (by subst hs10; exact k)
  have hf := own_fin n5 s10 b5 hs10
  have pre23 : ∀ t, own_S p e below T20 m 91 #[sJ q1, sW, sJ q2, sW, sI p3, sJ n5, sW, sI v7, sJ v8, sW, sJ s10, sW, sU, sU] [(.int (lcmpW n5 (0 : Int64)))] t → R0 t := fun t k => pre22 t (by
    refine XS.lstore X20.here hx rfl (hb hby at_85) rfl (l' := #[sJ q1, sW, sJ q2, sW, sI p3, sJ n5, sW, sI v7, sJ v8, sW, sJ s10, sW, sU, sU]) rfl ?_
    show own_S p e below T20 m 87 #[sJ q1, sW, sJ q2, sW, sI p3, sJ n5, sW, sI v7, sJ v8, sW, sJ s10, sW, sU, sU] [] _
    refine XS.lload X20.here hx rfl (hb hby at_87) rfl ?_
    show own_S p e below T20 m 89 #[sJ q1, sW, sJ q2, sW, sI p3, sJ n5, sW, sI v7, sJ v8, sW, sJ s10, sW, sU, sU] [(.long n5)] _
    refine XS.lconst X20.here hx rfl (hb hby at_89) ?_
    show own_S p e below T20 m 90 #[sJ q1, sW, sJ q2, sW, sI p3, sJ n5, sW, sI v7, sJ v8, sW, sJ s10, sW, sU, sU] [(.long 0), (.long n5)] _
    refine XS.lcmp X20.here hx rfl (hb hby at_90) rfl ?_
    exact k)
  by_cases hc91 : n5 = (0 : Int64)
  · have pre24 : ∀ t, own_S p e below T20 m 98 #[sJ q1, sW, sJ q2, sW, sI p3, sJ n5, sW, sI v7, sJ v8, sW, sJ s10, sW, sU, sU] [(.int (lcmpW s10 (0 : Int64)))] t → R0 t := fun t k => pre23 t (by
      refine XS.ifNo X20.here hx rfl (hb hby at_91) rfl ((if0 _ _).trans (teq ((lw_eq _ _).mpr hc91)).2) ?_
      show own_S p e below T20 m 94 #[sJ q1, sW, sJ q2, sW, sI p3, sJ n5, sW, sI v7, sJ v8, sW, sJ s10, sW, sU, sU] [] _
      refine XS.lload X20.here hx rfl (hb hby at_94) rfl ?_
      show own_S p e below T20 m 96 #[sJ q1, sW, sJ q2, sW, sI p3, sJ n5, sW, sI v7, sJ v8, sW, sJ s10, sW, sU, sU] [(.long s10)] _
      refine XS.lconst X20.here hx rfl (hb hby at_96) ?_
      show own_S p e below T20 m 97 #[sJ q1, sW, sJ q2, sW, sI p3, sJ n5, sW, sI v7, sJ v8, sW, sJ s10, sW, sU, sU] [(.long 0), (.long s10)] _
      refine XS.lcmp X20.here hx rfl (hb hby at_97) rfl ?_
      exact k)
    have hc25 : s10 = (0 : Int64) := hf.1 hc91
    have pre26 : ∀ t, own_S p e below T20 m 106 #[sJ q1, sW, sJ q2, sW, sI p3, sJ n5, sW, sI v7, sJ v8, sW, sJ s10, sW, sU, sU] [(.int 1)] t → R0 t := fun t k => pre24 t (by
      refine XS.ifNo X20.here hx rfl (hb hby at_98) rfl ((if0 _ _).trans (teq ((lw_eq _ _).mpr hc25)).2) ?_
      show own_S p e below T20 m 101 #[sJ q1, sW, sJ q2, sW, sI p3, sJ n5, sW, sI v7, sJ v8, sW, sJ s10, sW, sU, sU] [] _
      refine XS.iconst X20.here hx rfl (hb hby at_101) ?_
      show own_S p e below T20 m 102 #[sJ q1, sW, sJ q2, sW, sI p3, sJ n5, sW, sI v7, sJ v8, sW, sJ s10, sW, sU, sU] [(.int 1)] _
      refine XS.goto X20.here hx rfl (pc0 := 102) (pc' := 106) rfl (hb hby at_102) (by decide) (by decide) ?_
      exact k)
    obtain ⟨fs, hr, hrun, hended, hW, hsame⟩ := X20.leave (v := some (.int 1)) (fun h => by rw [Bd.returns] at h; cases h)
    refine ⟨_, _, cast (congrFun hR0 _) (pre26 _ (retN X20 hx (t := .boolean) Bd.returns (by simp) (hb hby at_106) hr)), hrun, hended, _, _, rfl, ?_, ⟨_, rfl⟩, hW, hsame.mono (by decide) (by decide)⟩
    show own_Q0 Z _ _ _ h0 n0 _ T20.heap _
    rw [eh20]
    exact ⟨rfl, N20⟩
  · have pre27 : ∀ t, own_S p e below T20 m 111 #[sJ q1, sW, sJ q2, sW, sI p3, sJ n5, sW, sI v7, sJ v8, sW, sJ s10, sW, sU, sU] [(.int (lcmpW s10 (1 : Int64)))] t → R0 t := fun t k => pre23 t (by
      refine XS.ifYes X20.here hx rfl (pc0 := 91) (pc' := 107) rfl (hb hby at_91) rfl ((if0 _ _).trans (feq (mt (lw_eq _ _).mp hc91)).2) (by decide) (by decide) ?_
      show own_S p e below T20 m 107 #[sJ q1, sW, sJ q2, sW, sI p3, sJ n5, sW, sI v7, sJ v8, sW, sJ s10, sW, sU, sU] [] _
      refine XS.lload X20.here hx rfl (hb hby at_107) rfl ?_
      show own_S p e below T20 m 109 #[sJ q1, sW, sJ q2, sW, sI p3, sJ n5, sW, sI v7, sJ v8, sW, sJ s10, sW, sU, sU] [(.long s10)] _
      refine XS.lconst X20.here hx rfl (hb hby at_109) ?_
      show own_S p e below T20 m 110 #[sJ q1, sW, sJ q2, sW, sI p3, sJ n5, sW, sI v7, sJ v8, sW, sJ s10, sW, sU, sU] [(.long 1), (.long s10)] _
      refine XS.lcmp X20.here hx rfl (hb hby at_110) rfl ?_
      exact k)
    have hc28 : ¬ (s10 < (1 : Int64)) := (hf.2 hc91).1
    have pre29 : ∀ t, own_S p e below T20 m 120 #[sJ q1, sW, sJ q2, sW, sI p3, sJ n5, sW, sI v7, sJ v8, sW, sJ s10, sW, sU, sU] [(.int (lcmpW s10 (9223372037 : Int64)))] t → R0 t := fun t k => pre27 t (by
      refine XS.ifNo X20.here hx rfl (hb hby at_111) rfl ((if0 _ _).trans (flt (mt (lw_lt _ _).mp hc28)).1) ?_
      show own_S p e below T20 m 114 #[sJ q1, sW, sJ q2, sW, sI p3, sJ n5, sW, sI v7, sJ v8, sW, sJ s10, sW, sU, sU] [] _
      refine XS.lload X20.here hx rfl (hb hby at_114) rfl ?_
      show own_S p e below T20 m 116 #[sJ q1, sW, sJ q2, sW, sI p3, sJ n5, sW, sI v7, sJ v8, sW, sJ s10, sW, sU, sU] [(.long s10)] _
      refine X20.ldc2Long hx hown (mvT hZ hw8) (g := (mkF m 116 #[sJ q1, sW, sJ q2, sW, sI p3, sJ n5, sW, sI v7, sJ v8, sW, sJ s10, sW, sU, sU] [(.long s10)])) rfl (hb hby at_116) _ ?_
      show own_S p e below T20 m 119 #[sJ q1, sW, sJ q2, sW, sI p3, sJ n5, sW, sI v7, sJ v8, sW, sJ s10, sW, sU, sU] [(.long 9223372037), (.long s10)] _
      refine XS.lcmp X20.here hx rfl (hb hby at_119) rfl ?_
      exact k)
    have hc30 : ¬ ((9223372037 : Int64) < s10) := (hf.2 hc91).2.1
    have pre31 : ∀ t, own_S p e below T20 m 142 #[sJ q1, sW, sJ q2, sW, sI p3, sJ n5, sW, sI v7, sJ v8, sW, sJ s10, sW, sJ (n5 - ((s10 - (1 : Int64)) * (1000000000 : Int64))), sW] [(.int (lcmpW (n5 - ((s10 - (1 : Int64)) * (1000000000 : Int64))) (0 : Int64)))] t → R0 t := fun t k => pre29 t (by
      refine XS.ifYes X20.here hx rfl (pc0 := 120) (pc' := 125) rfl (hb hby at_120) rfl ((if0 _ _).trans (flt (mt (lw_gt _ _).mp hc30)).2.2.2) (by decide) (by decide) ?_
      show own_S p e below T20 m 125 #[sJ q1, sW, sJ q2, sW, sI p3, sJ n5, sW, sI v7, sJ v8, sW, sJ s10, sW, sU, sU] [] _
      refine XS.lload X20.here hx rfl (hb hby at_125) rfl ?_
      show own_S p e below T20 m 127 #[sJ q1, sW, sJ q2, sW, sI p3, sJ n5, sW, sI v7, sJ v8, sW, sJ s10, sW, sU, sU] [(.long n5)] _
      refine XS.lload X20.here hx rfl (hb hby at_127) rfl ?_
      show own_S p e below T20 m 129 #[sJ q1, sW, sJ q2, sW, sI p3, sJ n5, sW, sI v7, sJ v8, sW, sJ s10, sW, sU, sU] [(.long s10), (.long n5)] _
      refine XS.lconst X20.here hx rfl (hb hby at_129) ?_
      show own_S p e below T20 m 130 #[sJ q1, sW, sJ q2, sW, sI p3, sJ n5, sW, sI v7, sJ v8, sW, sJ s10, sW, sU, sU] [(.long 1), (.long s10), (.long n5)] _
      refine XS.lsub X20.here hx rfl (hb hby at_130) rfl ?_
      show own_S p e below T20 m 131 #[sJ q1, sW, sJ q2, sW, sI p3, sJ n5, sW, sI v7, sJ v8, sW, sJ s10, sW, sU, sU] [(.long (s10 - (1 : Int64))), (.long n5)] _
      refine X20.ldc2Long hx hown (mvT hZ hw9) (g := (mkF m 131 #[sJ q1, sW, sJ q2, sW, sI p3, sJ n5, sW, sI v7, sJ v8, sW, sJ s10, sW, sU, sU] [(.long (s10 - (1 : Int64))), (.long n5)])) rfl (hb hby at_131) _ ?_
      show own_S p e below T20 m 134 #[sJ q1, sW, sJ q2, sW, sI p3, sJ n5, sW, sI v7, sJ v8, sW, sJ s10, sW, sU, sU] [(.long 1000000000), (.long (s10 - (1 : Int64))), (.long n5)] _
      refine XS.lmul X20.here hx rfl (hb hby at_134) rfl ?_
      show own_S p e below T20 m 135 #[sJ q1, sW, sJ q2, sW, sI p3, sJ n5, sW, sI v7, sJ v8, sW, sJ s10, sW, sU, sU] [(.long ((s10 - (1 : Int64)) * (1000000000 : Int64))), (.long n5)] _
      refine XS.lsub X20.here hx rfl (hb hby at_135) rfl ?_
      show own_S p e below T20 m 136 #[sJ q1, sW, sJ q2, sW, sI p3, sJ n5, sW, sI v7, sJ v8, sW, sJ s10, sW, sU, sU] [(.long (n5 - ((s10 - (1 : Int64)) * (1000000000 : Int64))))] _
      refine XS.lstore X20.here hx rfl (hb hby at_136) rfl (l' := #[sJ q1, sW, sJ q2, sW, sI p3, sJ n5, sW, sI v7, sJ v8, sW, sJ s10, sW, sJ (n5 - ((s10 - (1 : Int64)) * (1000000000 : Int64))), sW]) rfl ?_
      show own_S p e below T20 m 138 #[sJ q1, sW, sJ q2, sW, sI p3, sJ n5, sW, sI v7, sJ v8, sW, sJ s10, sW, sJ (n5 - ((s10 - (1 : Int64)) * (1000000000 : Int64))), sW] [] _
      refine XS.lload X20.here hx rfl (hb hby at_138) rfl ?_
      show own_S p e below T20 m 140 #[sJ q1, sW, sJ q2, sW, sI p3, sJ n5, sW, sI v7, sJ v8, sW, sJ s10, sW, sJ (n5 - ((s10 - (1 : Int64)) * (1000000000 : Int64))), sW] [(.long (n5 - ((s10 - (1 : Int64)) * (1000000000 : Int64))))] _
      refine XS.lconst X20.here hx rfl (hb hby at_140) ?_
      show own_S p e below T20 m 141 #[sJ q1, sW, sJ q2, sW, sI p3, sJ n5, sW, sI v7, sJ v8, sW, sJ s10, sW, sJ (n5 - ((s10 - (1 : Int64)) * (1000000000 : Int64))), sW] [(.long 0), (.long (n5 - ((s10 - (1 : Int64)) * (1000000000 : Int64))))] _
      refine XS.lcmp X20.here hx rfl (hb hby at_141) rfl ?_
      exact k)
    have hc32 : (0 : Int64) < (n5 - ((s10 - (1 : Int64)) * (1000000000 : Int64))) := (hf.2 hc91).2.2.1
    have pre33 : ∀ t, own_S p e below T20 m 151 #[sJ q1, sW, sJ q2, sW, sI p3, sJ n5, sW, sI v7, sJ v8, sW, sJ s10, sW, sJ (n5 - ((s10 - (1 : Int64)) * (1000000000 : Int64))), sW] [(.int (lcmpW (n5 - ((s10 - (1 : Int64)) * (1000000000 : Int64))) (1000000000 : Int64)))] t → R0 t := fun t k => pre31 t (by
      refine XS.ifNo X20.here hx rfl (hb hby at_142) rfl ((if0 _ _).trans (tlt ((lw_gt _ _).mpr hc32)).2.2.2) ?_
      show own_S p e below T20 m 145 #[sJ q1, sW, sJ q2, sW, sI p3, sJ n5, sW, sI v7, sJ v8, sW, sJ s10, sW, sJ (n5 - ((s10 - (1 : Int64)) * (1000000000 : Int64))), sW] [] _
      refine XS.lload X20.here hx rfl (hb hby at_145) rfl ?_
      show own_S p e below T20 m 147 #[sJ q1, sW, sJ q2, sW, sI p3, sJ n5, sW, sI v7, sJ v8, sW, sJ s10, sW, sJ (n5 - ((s10 - (1 : Int64)) * (1000000000 : Int64))), sW] [(.long (n5 - ((s10 - (1 : Int64)) * (1000000000 : Int64))))] _
      refine X20.ldc2Long hx hown (mvT hZ hw9) (g := (mkF m 147 #[sJ q1, sW, sJ q2, sW, sI p3, sJ n5, sW, sI v7, sJ v8, sW, sJ s10, sW, sJ (n5 - ((s10 - (1 : Int64)) * (1000000000 : Int64))), sW] [(.long (n5 - ((s10 - (1 : Int64)) * (1000000000 : Int64))))])) rfl (hb hby at_147) _ ?_
      show own_S p e below T20 m 150 #[sJ q1, sW, sJ q2, sW, sI p3, sJ n5, sW, sI v7, sJ v8, sW, sJ s10, sW, sJ (n5 - ((s10 - (1 : Int64)) * (1000000000 : Int64))), sW] [(.long 1000000000), (.long (n5 - ((s10 - (1 : Int64)) * (1000000000 : Int64))))] _
      refine XS.lcmp X20.here hx rfl (hb hby at_150) rfl ?_
      exact k)
    have hc34 : ¬ ((1000000000 : Int64) < (n5 - ((s10 - (1 : Int64)) * (1000000000 : Int64)))) := (hf.2 hc91).2.2.2
    have pre35 : ∀ t, own_S p e below T20 m 159 #[sJ q1, sW, sJ q2, sW, sI p3, sJ n5, sW, sI v7, sJ v8, sW, sJ s10, sW, sJ (n5 - ((s10 - (1 : Int64)) * (1000000000 : Int64))), sW] [(.int 1)] t → R0 t := fun t k => pre33 t (by
      refine XS.ifNo X20.here hx rfl (hb hby at_151) rfl ((if0 _ _).trans (flt (mt (lw_gt _ _).mp hc34)).2.2.1) ?_
      show own_S p e below T20 m 154 #[sJ q1, sW, sJ q2, sW, sI p3, sJ n5, sW, sI v7, sJ v8, sW, sJ s10, sW, sJ (n5 - ((s10 - (1 : Int64)) * (1000000000 : Int64))), sW] [] _
      refine XS.iconst X20.here hx rfl (hb hby at_154) ?_
      show own_S p e below T20 m 155 #[sJ q1, sW, sJ q2, sW, sI p3, sJ n5, sW, sI v7, sJ v8, sW, sJ s10, sW, sJ (n5 - ((s10 - (1 : Int64)) * (1000000000 : Int64))), sW] [(.int 1)] _
      refine XS.goto X20.here hx rfl (pc0 := 155) (pc' := 159) rfl (hb hby at_155) (by decide) (by decide) ?_
      exact k)
    obtain ⟨fs, hr, hrun, hended, hW, hsame⟩ := X20.leave (v := some (.int 1)) (fun h => by rw [Bd.returns] at h; cases h)
    refine ⟨_, _, cast (congrFun hR0 _) (pre35 _ (retN X20 hx (t := .boolean) Bd.returns (by simp) (hb hby at_159) hr)), hrun, hended, _, _, rfl, ?_, ⟨_, rfl⟩, hW, hsame.mono (by decide) (by decide)⟩
    show own_Q0 Z _ _ _ h0 n0 _ T20.heap _
    rw [eh20]
    exact ⟨rfl, N20⟩
set_option maxRecDepth 65536 in
set_option maxHeartbeats 40000000 in
theorem own_comes {Post : Tables → Env → Array Value → State → Outcome → State → Prop} (hpost : ∀ tb e args s v u, (limb_1_1.after args s (.returned v) u = true ∧ limb_1_2.after args s (.returned v) u = true ∧ True) → FrameEnd s (.returned v) u (Jvm.fieldLocs frame_1_writes args s ++ Jvm.arrayLocs frame_1_arrays args s ++ Jvm.staticLocs frame_1_statics s) 0 0 → Post tb e args s (.returned v) u) :
    ArmFor flags0 classFile x code maxLocals ret World_1 tables_1 room_1 Calls_1 rest_1 Pre_1 Post := by
  intro l hfl _ _ p e ha hc hk s m args below hf hA hF happ hP
  obtain ⟨hcalls, hrest, hpre⟩ := hP
  obtain ⟨-, -, -, hnamed, -, -, -, hat⟩ := (Spec.applies_iff hf).mp happ
  obtain ⟨hg, hn⟩ := and_e (Cond.before_iff.mp (show (Jvm.Cond.and given_1 narrow_1).before args s = true from hpre))
  obtain ⟨hcount, hg0⟩ := and_e hg
  obtain ⟨ha0, hg1⟩ := and_e hg0
  obtain ⟨ha1, hg2⟩ := and_e hg1
  have ha2 := hg2
  obtain ⟨w0, w1, w2, rfl⟩ : ∃ w0 w1 w2 : Value, args = #[w0, w1, w2] := by
    have hs : args.size = 3 := by simpa [Cond.value, given_1] using hcount
    obtain ⟨L⟩ := args
    match L, hs with
    | [w0, w1, w2], _ => exact ⟨w0, w1, w2, rfl⟩
  have hw := fun d (hd : d ∈ tables_1) => atoms_spec (ws := Jvm.Cond.code x code maxLocals ret :: tables_1) hat d (List.mem_cons_of_mem _ hd)
  have hfit : Fit s := fun {y c} hc i hi => by
    obtain ⟨ha, rfl⟩ := Array.getElem?_eq_some_iff.mp hc
    have q := List.all_eq_true.mp ((Array.all_eq_true_iff_forall_mem.mp hF) _ (Array.getElem_mem ha)) i (List.mem_range.mpr hi)
    simpa [Array.getElem?_eq_getElem hi] using q
  obtain ⟨i0, ei0⟩ := isL_v ha0
  obtain rfl : w0 = (.long i0) := Option.some.inj ei0
  obtain ⟨i1, ei1⟩ := isL_v ha1
  obtain rfl : w1 = (.long i1) := Option.some.inj ei1
  obtain ⟨i2, ei2⟩ := is_v ha2
  obtain rfl : w2 = (.int i2) := Option.some.inj ei2
  have S1 : Sta s s.heap "com/example/adlim/adlim/client/Limit" "ONE_SECOND" "J" (.long (1000000000 : Int64)) := Sta.start (own_static_long hn) (Or.inr ⟨(hw _ (List.mem_of_getElem? (i := 4) rfl)), (hw _ (List.mem_of_getElem? (i := 7) rfl))⟩)
  obtain ⟨n, o, h1, h2, h3, _, L, rfl, ⟨rfl, N⟩, hq⟩ := own_rm0 l s _ hw tables_1 i0 i1 i2  s.heap s.heap.size (Nat.le_refl _) S1 p e ha hc hk s m _ below hf ((Spec.applies_iff_loose hf).mp happ).1 ⟨rfl, State.Warmed39.refl s, rfl⟩ trivial
  refine ⟨n, _, h1, h2, h3, hpost _ _ _ _ _ _ ⟨Cond.after_iff.mpr rfl, Cond.after_iff.mpr (eq_i res_at (Term.int_eval (1)) rfl), trivial⟩ ⟨hq.1, hq.2.1, (hq.2.2.sift fun y hy => Or.inr (N y hy)).mono (by decide) (by decide)⟩⟩
theorem main_1_1 : Claimed_1_1 := own_comes fun _ _ _ _ _ _ h hF => ⟨h.1, hF⟩
theorem main_1_2 : Claimed_1_2 := own_comes fun _ _ _ _ _ _ h hF => ⟨h.2.1, hF⟩
end Jvm.Pilot.@@N@@
namespace Jvm.Pilot.@@N@@
open Jvm Jvm.ClassFile Sem Op Lib Jvm.Free Jvm.Stand Jvm.Pilot.@@N@@.Jvm.D
/-! MADE BY PROGRAM (witnessworld.py) out of the Statement's table words and the real class files: 10 classes; the members and pool entries that the words name. The judged class is class 1, her method 1. -/
namespace start1
open Jvm.ClassFile
def u (s : String) : CpInfo := .utf8 (stringToUtf16 s)
/-- a pool by its gaps: so many unusable entries, then the entry; so many at the end -/
def gap : Nat → List CpInfo → List CpInfo
  | 0, r => r
  | n + 1, r => .unusable :: gap n r
def poolList (es : List (Nat × CpInfo)) (last : Nat) : List CpInfo := es.foldr (fun e r => gap e.1 (e.2 :: r)) (gap last [])
def pool (es : List (Nat × CpInfo)) (last : Nat) : Array CpInfo := ⟨poolList es last⟩
def fileOf (pool : Array CpInfo) (this : Nat) (attrs : Array Attribute := #[]) (ms : Array MethodInfo := #[]) (fl : Nat := 33) (sup : Nat := 0) (ifs : Array Nat := #[]) (fds : Array FieldInfo := #[]) : ClassFile where
  minorVersion := 0
  majorVersion := 65
  constantPool := pool
  accessFlags := fl
  thisClass := this
  superClass := sup
  interfaces := ifs
  fields := fds
  methods := ms
  attributes := attrs
def plain (name : String) (sup : Option ClassId) : Class where
  name := name
  kind := .ordinary
  loader := none
  accessFlags := 33
  super := sup
  interfaces := #[]
  cf := none
  fields := #[]
  methods := #[]
  instanceTypes := #[]
  staticTypes := #[]
  resolved := #[]
  callSites := []
  init := .initialized
  statics := none
  mirror := none

def pool0 : Array CpInfo := pool [(5, u "<init>"), (0, u "()V"), (1, .class_ 10), (1, u "java/lang/Object")] 113

def k0m0 : Method := { name := "<init>", desc := "()V", sig := { parameters := [], returnType := none }, accessFlags := 1, code := none }
/-- java/lang/Object -/
def k0 : Class := { plain "java/lang/Object" none with
  accessFlags := 33
  interfaces := #[]
  cf := some (fileOf pool0 8 #[] #[{ accessFlags := 1, nameIndex := 5, descriptorIndex := 6, attributes := #[] }] 33 0 #[] #[])
  fields := #[]
  methods := #[k0m0]
  instanceTypes := #[]
  staticTypes := #[]
  resolved := Array.replicate 124 none
  statics := none }

def pool1 : Array CpInfo := pool [(2, .class_ 4), (1, u "java/lang/Object"), (0, u "<init>"), (0, u "()V"), (2, .long 9223372036854775807), (1, .long 9223372036), (1, .class_ 14), (0, u "com/example/adlim/adlim/client/LimitSecondsRoundedUpPinLaw"), (0, .long 1000000000), (1, .long 999999999), (1, .methodref 20 21), (0, .class_ 22), (0, .nameAndType 23 24), (0, u "com/example/adlim/adlim/client/Limit"), (0, u "secondsRoundedUp"), (0, u "(J)J"), (0, .long 9223372037), (1, u "NS"), (0, u "J"), (3, u "law"), (0, u "(JJI)Z")] 3

def k1m0 : Method := { name := "<init>", desc := "()V", sig := { parameters := [], returnType := none }, accessFlags := 1, code := none }
def k1c1 : Code := { maxStack := 6, maxLocals := 14, code := code, exceptionTable := #[], attributes := #[] }
def k1m1 : Method := { name := "law", desc := "(JJI)Z", sig := { parameters := [.long, .long, .int], returnType := some .boolean }, accessFlags := 9, code := some k1c1 }
/-- com/example/adlim/adlim/client/LimitSecondsRoundedUpPinLaw -/
def k1 : Class := { plain "com/example/adlim/adlim/client/LimitSecondsRoundedUpPinLaw" (some 0) with
  accessFlags := 49
  interfaces := #[]
  cf := some (fileOf pool1 13 #[] #[{ accessFlags := 1, nameIndex := 5, descriptorIndex := 6, attributes := #[] }, { accessFlags := 9, nameIndex := 32, descriptorIndex := 33, attributes := #[] }] 49 2 #[] #[{ accessFlags := 26, nameIndex := 27, descriptorIndex := 28, attributes := #[] }])
  fields := #[{ name := "NS", type := .long, accessFlags := 26, slot := 0, constantValue := 0 }]
  methods := #[k1m0, k1m1]
  instanceTypes := #[]
  staticTypes := #[.long]
  resolved := Array.replicate 37 none
  statics := none }

def pool2 : Array CpInfo := pool [(2, .class_ 4), (1, u "java/lang/Object"), (0, u "<init>"), (0, u "()V"), (0, .class_ 8), (0, u "java/lang/Record")] 13

def k2m0 : Method := { name := "<init>", desc := "()V", sig := { parameters := [], returnType := none }, accessFlags := 4, code := none }
/-- java/lang/Record -/
def k2 : Class := { plain "java/lang/Record" (some 0) with
  accessFlags := 1057
  interfaces := #[]
  cf := some (fileOf pool2 7 #[] #[{ accessFlags := 4, nameIndex := 5, descriptorIndex := 6, attributes := #[] }] 1057 2 #[] #[])
  fields := #[]
  methods := #[k2m0]
  instanceTypes := #[]
  staticTypes := #[]
  resolved := Array.replicate 22 none
  statics := none }

def pool3 : Array CpInfo := pool [(4, .class_ 6), (1, u "java/lang/Record"), (3, .class_ 12), (1, u "com/example/adlim/adlim/client/Limit"), (0, u "quota"), (0, u "J"), (2, u "unit"), (0, u "Lcom/example/adlim/adlim/client/QuotaUnit;"), (2, u "window"), (2, u "arrival"), (2, u "learntAt"), (0, u "Lcom/example/adlim/adlim/client/Tally;"), (2, u "uncertain"), (2, u "told"), (0, u "Lcom/example/adlim/adlim/ServiceLimit;"), (2, u "firstQuota"), (0, u "Z"), (40, u "(J)J"), (33, .fieldref 10 115), (0, .nameAndType 116 14), (0, u "ONE_SECOND"), (78, u "secondsRoundedUp"), (32, u "NO_WINDOW"), (1, u "NEVER"), (0, u "UNTIL_ANSWERED")] 61

def k3c0 : Code := { maxStack := 6, maxLocals := 2, code := prog_36_method_27_code, exceptionTable := #[], attributes := #[] }
def k3m0 : Method := { name := "secondsRoundedUp", desc := "(J)J", sig := { parameters := [.long], returnType := some .long }, accessFlags := 8, code := some k3c0 }
/-- com/example/adlim/adlim/client/Limit -/
def k3 : Class := { plain "com/example/adlim/adlim/client/Limit" (some 2) with
  accessFlags := 48
  interfaces := #[]
  cf := some (fileOf pool3 10 #[] #[{ accessFlags := 8, nameIndex := 195, descriptorIndex := 80, attributes := #[] }] 48 4 #[] #[{ accessFlags := 18, nameIndex := 13, descriptorIndex := 14, attributes := #[] }, { accessFlags := 18, nameIndex := 17, descriptorIndex := 18, attributes := #[] }, { accessFlags := 18, nameIndex := 21, descriptorIndex := 14, attributes := #[] }, { accessFlags := 18, nameIndex := 24, descriptorIndex := 14, attributes := #[] }, { accessFlags := 18, nameIndex := 27, descriptorIndex := 28, attributes := #[] }, { accessFlags := 18, nameIndex := 31, descriptorIndex := 14, attributes := #[] }, { accessFlags := 18, nameIndex := 34, descriptorIndex := 35, attributes := #[] }, { accessFlags := 18, nameIndex := 38, descriptorIndex := 39, attributes := #[] }, { accessFlags := 24, nameIndex := 228, descriptorIndex := 14, attributes := #[] }, { accessFlags := 24, nameIndex := 116, descriptorIndex := 14, attributes := #[] }, { accessFlags := 24, nameIndex := 230, descriptorIndex := 14, attributes := #[] }, { accessFlags := 26, nameIndex := 231, descriptorIndex := 14, attributes := #[] }])
  fields := #[{ name := "quota", type := .long, accessFlags := 18, slot := 0, constantValue := 0 }, { name := "unit", type := (.object "com/example/adlim/adlim/client/QuotaUnit"), accessFlags := 18, slot := 1, constantValue := 0 }, { name := "window", type := .long, accessFlags := 18, slot := 2, constantValue := 0 }, { name := "arrival", type := .long, accessFlags := 18, slot := 3, constantValue := 0 }, { name := "learntAt", type := (.object "com/example/adlim/adlim/client/Tally"), accessFlags := 18, slot := 4, constantValue := 0 }, { name := "uncertain", type := .long, accessFlags := 18, slot := 5, constantValue := 0 }, { name := "told", type := (.object "com/example/adlim/adlim/ServiceLimit"), accessFlags := 18, slot := 6, constantValue := 0 }, { name := "firstQuota", type := .boolean, accessFlags := 18, slot := 7, constantValue := 0 }, { name := "NO_WINDOW", type := .long, accessFlags := 24, slot := 0, constantValue := 0 }, { name := "ONE_SECOND", type := .long, accessFlags := 24, slot := 1, constantValue := 0 }, { name := "NEVER", type := .long, accessFlags := 24, slot := 2, constantValue := 0 }, { name := "UNTIL_ANSWERED", type := .long, accessFlags := 26, slot := 3, constantValue := 0 }]
  methods := #[k3m0]
  instanceTypes := #[.long, (.object "com/example/adlim/adlim/client/QuotaUnit"), .long, .long, (.object "com/example/adlim/adlim/client/Tally"), .long, (.object "com/example/adlim/adlim/ServiceLimit"), .boolean]
  staticTypes := #[.long, .long, .long, .long]
  resolved := Array.replicate 293 none
  statics := some 0 }

def pool4 : Array CpInfo := pool [(1, u "java/lang/Cloneable"), (0, .class_ 1), (0, u "java/lang/Object"), (0, .class_ 3)] 3

/-- java/lang/Cloneable -/
def k4 : Class := { plain "java/lang/Cloneable" (some 0) with
  accessFlags := 1537
  interfaces := #[]
  cf := some (fileOf pool4 2 #[] #[] 1537 4 #[] #[])
  fields := #[]
  methods := #[]
  instanceTypes := #[]
  staticTypes := #[]
  resolved := Array.replicate 8 none
  statics := none }

def pool5 : Array CpInfo := pool [(1, u "java/io/Serializable"), (0, .class_ 1), (0, u "java/lang/Object"), (0, .class_ 3)] 3

/-- java/io/Serializable -/
def k5 : Class := { plain "java/io/Serializable" (some 0) with
  accessFlags := 1537
  interfaces := #[]
  cf := some (fileOf pool5 2 #[] #[] 1537 4 #[] #[])
  fields := #[]
  methods := #[]
  instanceTypes := #[]
  staticTypes := #[]
  resolved := Array.replicate 8 none
  statics := none }

/-- the primitive byte -/
def k6 : Class := { plain "byte" none with kind := .primitive 'B', accessFlags := 0x411 }
/-- [B -/
def k7 : Class := { plain "[B" (some 0) with kind := .array 6 .byte, interfaces := #[4, 5], accessFlags := 1041 }

/-- the primitive int -/
def k8 : Class := { plain "int" none with kind := .primitive 'I', accessFlags := 0x411 }
/-- [I -/
def k9 : Class := { plain "[I" (some 0) with kind := .array 8 .int, interfaces := #[4, 5], accessFlags := 1041 }

def heap : Heap := #[{ cls := 3, slots := #[.long 0, .long 1000000000, .long 0, .long 0], vm := .statics 3 }]
def classes : Array Class := #[k0, k1, k2, k3, k4, k5, k6, k7, k8, k9]
def interned : List (Array UInt16 × Addr) := []
def slotsUsed : Nat := 4
def theMethod : MethodId := ⟨1, 1⟩
def args0 : Array Value := #[.long 5, .long 6, .int 7]
def aboutOver (below : List Frame) : State where
  vm := { classes := classes, interned := interned.toArray }
  heap := heap
  slotsUsed := slotsUsed
  threads := #[{ frames := .invoking theMethod args0 :: below }]
def below0 : List Frame := [.native { method := ⟨0, 0⟩, args := #[] }]
def about1 : State := aboutOver below0
def p0 : Program := .bare "" "" ""
def e0 : Env := launch0.env 0 0 0
theorem w_frames : about1.frames = Frame.invoking theMethod args0 :: below0 := rfl
set_option maxRecDepth 65536 in
theorem w_args : argsFit about1.vm theMethod args0 = true := by decide +kernel
set_option maxRecDepth 65536 in
theorem w_heap : heapFits about1 = true := by decide +kernel
set_option maxRecDepth 65536 in
theorem w_runnable : about1.curStatus? = some .runnable := by decide +kernel
set_option maxRecDepth 65536 in
theorem w_alone : about1.alone = true := by decide +kernel
set_option maxRecDepth 65536 in
theorem w_named : about1.methodNamed? x = some theMethod := by decide +kernel
set_option maxRecDepth 65536 in
theorem w_hears : about1.hears theMethod below0 = true := by decide +kernel
set_option maxRecDepth 65536 in
theorem w_ripe : about1.ripe theMethod args0 below0 = true := by decide +kernel
theorem w_running : about1.status = .running := rfl
set_option maxRecDepth 65536 in
theorem w_room : about1.hasRoom e0.platform room_1 = true :=
  launch0.hasRoom_least _ room_1 (by decide +kernel) (by decide +kernel) (by decide +kernel) (by decide +kernel) (by decide +kernel) (by decide +kernel)
theorem allAtoms_all (ts : List Jvm.Cond) (a : Array Jvm.Value) (st : Jvm.State) : (allAtoms ts).before a st = ts.all (fun c => c.before a st) := by
  induction ts with
  | nil => rfl
  | cons c t ih =>
    show (Jvm.Cond.and c (allAtoms t)).before a st = _
    rw [Jvm.Cond.before_and, ih, List.all_cons]
def words1 : List Jvm.Cond := Jvm.Cond.code x code maxLocals ret :: tables_1
/-- a 'code' word, met by the world's own term for the bytes: nothing is compared byte by byte -/
theorem code_word {y : MethodName} {bytes : ByteArray} {mx : Nat} {rt : Option FieldType} {a : Array Value} {s : State} {m : MethodId} {meth : Method} {c : Code} (h1 : s.methodNamed? y = some m) (h2 : s.vm.method? m = some meth) (h3 : meth.code = some c) (h4 : c.code = bytes)
    (h5 : (c.maxLocals == mx && c.exceptionTable.isEmpty && decide (c.maxStack ≤ mostOperands) && decide (meth.sig.returnType = rt) && !meth.locks && decide (parseMethodDescriptor y.desc = some meth.sig)) = true) : (Jvm.Cond.code y bytes mx rt).before a s = true := by
  simp only [Bool.and_eq_true, beq_iff_eq, Bool.not_eq_true', decide_eq_true_eq] at h5
  obtain ⟨⟨⟨⟨⟨g1, g2⟩, g3⟩, g4⟩, g5⟩, g6⟩ := h5
  simp [Cond.before, Cond.holds, Cond.value, h1, h2, h3, h4, g1, g2, g3, g4, g5, g6]
def isCode : Jvm.Cond → Bool
  | .code _ _ _ _ => true
  | _ => false
theorem all_split {L : List Jvm.Cond} {P : Jvm.Cond → Bool} (h1 : L.all (fun c => isCode c || P c) = true) (h2 : ∀ c ∈ L.filter isCode, P c = true) : L.all P = true := by
  refine List.all_eq_true.mpr fun c hc => ?_
  have h := List.all_eq_true.mp h1 c hc
  rcases Bool.eq_false_or_eq_true (isCode c) with hi | hi
  · exact h2 c (List.mem_filter.mpr ⟨hc, hi⟩)
  · simpa [hi] using h
set_option maxRecDepth 65536 in
theorem w_c0 : (Jvm.Cond.code x code maxLocals ret).before args0 about1 = true := code_word (m := ⟨1, 1⟩) (meth := k1m1) (c := k1c1) (by decide +kernel) rfl rfl rfl (by decide +kernel)
set_option maxRecDepth 65536 in
theorem w_c1 : (Jvm.Cond.code ({ cls := "com/example/adlim/adlim/client/Limit", name := "secondsRoundedUp", desc := "(J)J" } : Jvm.MethodName) prog_36_method_27_code (2 : Nat) (Option.some Jvm.ClassFile.FieldType.long)).before args0 about1 = true := code_word (m := ⟨3, 0⟩) (meth := k3m0) (c := k3c0) (by decide +kernel) rfl rfl rfl (by decide +kernel)
def codes1 : List Jvm.Cond := [Jvm.Cond.code x code maxLocals ret, Jvm.Cond.code ({ cls := "com/example/adlim/adlim/client/Limit", name := "secondsRoundedUp", desc := "(J)J" } : Jvm.MethodName) prog_36_method_27_code (2 : Nat) (Option.some Jvm.ClassFile.FieldType.long)]
set_option maxRecDepth 65536 in
theorem codes_eq : words1.filter isCode = codes1 := rfl
theorem w_codes : ∀ c ∈ words1.filter isCode, c.before args0 about1 = true := by
  rw [codes_eq]
  intro c hc
  simp only [codes1, List.mem_cons, List.not_mem_nil, or_false] at hc
  rcases hc with rfl | rfl
  · exact w_c0
  · exact w_c1
set_option maxRecDepth 65536 in
theorem w_t1 : words1.all (fun c => isCode c || c.before args0 about1) = true := by decide +kernel
theorem w_tables : (allAtoms (Jvm.Cond.code x code maxLocals ret :: tables_1)).before args0 about1 = true := by
  rw [allAtoms_all]
  show words1.all (fun c => c.before args0 about1) = true
  refine all_split ?_ w_codes
  rw [w_t1]
set_option maxRecDepth 65536 in
theorem w_case : (Jvm.Cond.and given_1 narrow_1).before args0 about1 = true := by decide +kernel
theorem w_applies : (headSpec (Jvm.Cond.code x code maxLocals ret :: tables_1) room_1).applies x e0.platform about1 = true :=
  (Spec.applies_iff w_frames).mpr ⟨w_running, w_runnable, w_alone, w_named, w_hears, w_ripe, w_room, w_tables⟩
theorem atStart : AtStart classFile x code maxLocals ret World_1 tables_1 room_1 Calls_1 rest_1 Pre_1 launch0 p0 e0 about1 theMethod args0 below0 :=
  ⟨lists_1, trivial, launch0.admits_env _ _ _, launch0.least_env, fairChoices_fair.cas, fairChoices_fair.clock, w_frames, w_args, w_heap, w_applies, trivial, trivial, w_case⟩
end start1
theorem witness_1 : WitnessClaimed_1 := ⟨start1.p0, start1.e0, start1.about1, start1.theMethod, start1.args0, start1.below0, start1.atStart⟩
end Jvm.Pilot.@@N@@
