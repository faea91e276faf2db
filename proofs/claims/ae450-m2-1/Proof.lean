import JvmDerived
import JvmDerived.Pilot.@@N@@Statement
import JvmDerived.Pilot.@@N@@Code
set_option linter.unusedVariables false
set_option linter.unusedSimpArgs false
namespace Jvm.Pilot.@@N@@
open Jvm Jvm.ClassFile Sem Op Lib Jvm.Free Jvm.Stand Jvm.LawKit Jvm.RoadKit Bundle Jvm.Pilot.@@N@@.Jvm.D
abbrev sI (x : Int32) : Slot := .val (.int x)
abbrev sJ (x : Int64) : Slot := .val (.long x)
abbrev sR (a : Addr) : Slot := .val (.ref a)
abbrev sN : Slot := .val .null
abbrev sU : Slot := .unset
abbrev sW : Slot := .second
abbrev own_S (p : Program) (e : Env) (below : List Frame) (T : State) (m : MethodId) (pc : Nat) (L : Array Slot) (S : List Value) (t : State) : Prop := Steps p.tables e below (T.setTop (mkF m pc L S)) t
theorem own_addE (x y : Int64) (h1 : -9223372036854775808 ≤ x.toInt + y.toInt) (h2 : x.toInt + y.toInt < 9223372036854775808) : (x + y).toInt = x.toInt + y.toInt := by
  have a := c_ladd x y
  have r := rng64 (x + y)
  generalize x.toInt + y.toInt = P at *
  generalize (x + y).toInt = Q at *
  omega
theorem own_subE (x y : Int64) (h1 : -9223372036854775808 ≤ x.toInt - y.toInt) (h2 : x.toInt - y.toInt < 9223372036854775808) : (x - y).toInt = x.toInt - y.toInt := by
  have a := c_lsub x y
  have r := rng64 (x - y)
  generalize x.toInt - y.toInt = P at *
  generalize (x - y).toInt = Q at *
  omega
theorem own_mulE (x y : Int64) (h1 : -9223372036854775808 ≤ x.toInt * y.toInt) (h2 : x.toInt * y.toInt < 9223372036854775808) : (x * y).toInt = x.toInt * y.toInt := by
  have a := c_lmul x y
  have r := rng64 (x * y)
  generalize x.toInt * y.toInt = P at *
  generalize (x * y).toInt = Q at *
  omega
theorem own_nano (x : Int32) : 0 ≤ ((x &&& (2147483647 : Int32)) % (1000000000 : Int32)).toInt ∧ ((x &&& (2147483647 : Int32)) % (1000000000 : Int32)).toInt < 1000000000 := by
  have h1 := (c_and x 2147483647 (by decide)).1
  have h2 := (c_irem (x &&& 2147483647) 1000000000 1000000000 (by decide)).1 h1
  rw [h2]
  omega
theorem own_minB (v : Int32) (h0 : 0 ≤ v.toInt) (h1 : v.toInt < 1000000000) : 0 ≤ (if (999999999 : Int32) < (v + (1 : Int32)) then (999999999 : Int32) else (v + (1 : Int32))).toInt ∧ (if (999999999 : Int32) < (v + (1 : Int32)) then (999999999 : Int32) else (v + (1 : Int32))).toInt < 1000000000 := by
  have e := c_iadd v 1
  have e1 : (1 : Int32).toInt = 1 := by decide
  have e2 : (999999999 : Int32).toInt = 999999999 := by decide
  rw [e1] at e
  have r := rng32 (v + 1)
  split
  · rw [e2]; omega
  · rename_i q; rw [Int32.lt_iff_toInt_lt, e2] at q; omega
theorem own_maxB (v : Int32) (h0 : 0 ≤ v.toInt) (h1 : v.toInt < 1000000000) : 0 ≤ (if (v - (1 : Int32)) < (0 : Int32) then (0 : Int32) else (v - (1 : Int32))).toInt ∧ (if (v - (1 : Int32)) < (0 : Int32) then (0 : Int32) else (v - (1 : Int32))).toInt < 1000000000 := by
  have e := c_isub v 1
  have e1 : (1 : Int32).toInt = 1 := by decide
  have e2 : (0 : Int32).toInt = 0 := by decide
  rw [e1] at e
  have r := rng32 (v - 1)
  split
  · rw [e2]; omega
  · rename_i q; rw [Int32.lt_iff_toInt_lt, e2] at q; omega
theorem own_wide (v : Int32) (h : 0 ≤ v.toInt ∧ v.toInt < 1000000000) : 0 ≤ v.toInt64.toInt ∧ v.toInt64.toInt < 1000000000 := by rw [c_i2l]; exact h
theorem own_k (x s : Int64) (c : Prop) [Decidable c] (hs : s = x) : ((if c then x + (1 : Int64) else x) - s).toInt = if c then 1 else 0 := by
  subst hs
  split
  · have q : s + 1 - s = 1 := by rw [Int64.add_comm, Int64.add_sub_cancel]
    rw [q]; decide
  · rw [Int64.sub_self]; decide
theorem own_end (k d : Int64) (K D : Int) (hk : k.toInt = K) (hd : d.toInt = D) (h : (K = 1 ∧ 0 < D ∧ D < 1000000000) ∨ (K = 0 ∧ D ≤ 0 ∧ -1000000000 < D)) :
    ¬ k < (-1 : Int64) ∧ ¬ (2 : Int64) < k ∧ (k - (1 : Int64)) * (1000000000 : Int64) < d ∧ ¬ k * (1000000000 : Int64) < d := by
  rcases h with ⟨rfl, h⟩ | ⟨rfl, h⟩
  · have e : k = 1 := by apply Int64.toInt_inj.mp; rw [hk]; decide
    subst e
    have e1 : ((1 - (1 : Int64)) * (1000000000 : Int64)).toInt = 0 := by decide
    have e2 : ((1 : Int64) * (1000000000 : Int64)).toInt = 1000000000 := by decide
    refine ⟨by decide, by decide, ?_, ?_⟩
    · rw [Int64.lt_iff_toInt_lt, e1, hd]; exact h.1
    · rw [Int64.lt_iff_toInt_lt, e2, hd]; omega
  · have e : k = 0 := by apply Int64.toInt_inj.mp; rw [hk]; decide
    subst e
    have e1 : ((0 - (1 : Int64)) * (1000000000 : Int64)).toInt = -1000000000 := by decide
    have e2 : ((0 : Int64) * (1000000000 : Int64)).toInt = 0 := by decide
    refine ⟨by decide, by decide, ?_, ?_⟩
    · rw [Int64.lt_iff_toInt_lt, e1, hd]; omega
    · rw [Int64.lt_iff_toInt_lt, e2, hd]; omega
theorem own_d2_0 : decode jdk_29_method_65_code 0 = .ok (.iload_n 0, 1) := by decide +kernel
theorem own_d2_1 : decode jdk_29_method_65_code 1 = .ok (.iload_n 1, 1) := by decide +kernel
theorem own_d2_2 : decode jdk_29_method_65_code 2 = .ok (.if_icmp .lt 7, 3) := by decide +kernel
theorem own_d2_5 : decode jdk_29_method_65_code 5 = .ok (.iload_n 0, 1) := by decide +kernel
theorem own_d2_6 : decode jdk_29_method_65_code 6 = .ok (.goto 4, 3) := by decide +kernel
theorem own_d2_9 : decode jdk_29_method_65_code 9 = .ok (.iload_n 1, 1) := by decide +kernel
theorem own_d2_10 : decode jdk_29_method_65_code 10 = .ok (.ireturn, 1) := by decide +kernel
theorem own_ef_2 (m : MethodId) (x0 : Int32) (x1 : Int32) : entryFrame m #[(.int x0), (.int x1)] 2 = mkF m 0 #[sI x0, sI x1] [] := by first | (simp [entryFrame, mkF, argsToLocals, Value.category]; done) | rfl
def own_Q2 (Z : State) (p1 : Int32) (p2 : Int32) (h0 : Heap) (n0 : Nat) (v : Option Value) (h : Heap) (L : List Loc) : Prop := v = some (.int (if p1 < p2 then p2 else p1)) ∧ Fr n0 L ∧ h = h0
abbrev own_y0 : MethodName := ⟨"java/lang/Math", "max", "(II)I"⟩
set_option maxRecDepth 65536 in
set_option maxHeartbeats 40000000 in
theorem own_rm2 (l : Launch) (Z : State) (a0 : Array Value) (hw : ∀ d ∈ tables_1, d.before a0 Z = true) (ws : List Jvm.Cond) (p1 : Int32) (p2 : Int32) (h0 : Heap) (n0 : Nat) (Z0 : n0 ≤ h0.size)  :
    MetFree l own_y0 (head1 (Jvm.Cond.code own_y0 jdk_29_method_65_code 2 (some .int) :: ws) ({ frames := 0, cells := 0, slots := 0, locals := 0 } : Room)) (fun a U => a = #[(.int p1), (.int p2)] ∧ Z.Warmed39 U.vm ∧ U.heap = h0) (fun _ _ _ _ _ => True) (fun _ U o U' => ∃ v L, o = .returned v ∧ own_Q2 Z p1 p2 h0 n0 v U'.heap L ∧ FrameEnd U o U' L ({ frames := 0, cells := 0, slots := 0, locals := 0 } : Room).cells ({ frames := 0, cells := 0, slots := 0, locals := 0 } : Room).slots) := by
  refine MetFree.of_bodySF (Jvm.Free.JP.mathPlain rfl (by decide +kernel)) hisR ?_
  intro p e s m args below meth c s₁ Bd hml0 hP hK
  obtain ⟨rfl, hZ, hh⟩ := hP
  have hx := Bd.exec
  have hby := Bd.bytes
  have hml : c.maxLocals = 2 := hml0
  have hown : s.vm.findClass "java/lang/Math" = some m.cls := findClass_of_methodNamed Bd.named
  have hnm := (name_of_methodNamed Bd.named Bd.method).1
  have X0 : Stand p l e ({ frames := 0, cells := 0, slots := 0, locals := 0 } : Room) s m #[(.int p1), (.int p2)] below meth c s₁ [] 0 0 := Stand.of_body Bd
  have e0 : s₁.heap = h0 := by rw [← hh, Bd.state]; rfl
  have N0 := Fr.nil n0
  obtain ⟨R0, hR0⟩ : ∃ R : State → Prop, R = fun t => Steps p.tables e below (s₁.setTop (entryFrame m #[(.int p1), (.int p2)] 2)) t := ⟨_, rfl⟩
  have pre0 : ∀ t, Steps p.tables e below (s₁.setTop (mkF m 0 #[sI p1, sI p2] [])) t → R0 t := fun t k => by rw [hR0]; exact castTop (own_ef_2 m p1 p2) k
  have pre1 : ∀ t, own_S p e below s₁ m 2 #[sI p1, sI p2] [(.int p2), (.int p1)] t → R0 t := fun t k => pre0 t (by
    refine XS.iloadN X0.here hx rfl (hb hby own_d2_0) rfl ?_
    show own_S p e below s₁ m 1 #[sI p1, sI p2] [(.int p1)] _
    refine XS.iloadN X0.here hx rfl (hb hby own_d2_1) rfl ?_
    exact k)
  by_cases hc2 : p1 < p2
  · have pre2 : ∀ t, own_S p e below s₁ m 10 #[sI p1, sI p2] [(.int p2)] t → R0 t := fun t k => pre1 t (by
      refine XS.icmpYes X0.here hx rfl (pc0 := 2) (pc' := 9) rfl (hb hby own_d2_2) rfl (tlt hc2).1 (by decide) (by decide) ?_
      show own_S p e below s₁ m 9 #[sI p1, sI p2] [] _
      refine XS.iloadN X0.here hx rfl (hb hby own_d2_9) rfl ?_
      exact k)
    obtain ⟨fs, hr, hrun, hended, hW, hsame⟩ := X0.leave (v := some (.int p2)) (fun h => by rw [Bd.returns] at h; cases h)
    refine ⟨_, _, cast (congrFun hR0 _) (pre2 _ (retOut X0 hx Bd.returns rfl (Or.inl ⟨rfl, Or.inl rfl, _, rfl⟩) (hb hby own_d2_10) hr)), hrun, hended, _, _, rfl, ?_, ⟨_, rfl⟩, hW, hsame.mono (by decide) (by decide)⟩
    show own_Q2 Z _ _ h0 n0 _ s₁.heap _
    rw [e0]
    exact ⟨(by rw [if_pos hc2]), N0, rfl⟩
  · have pre3 : ∀ t, own_S p e below s₁ m 10 #[sI p1, sI p2] [(.int p1)] t → R0 t := fun t k => pre1 t (by
      refine XS.icmpNo X0.here hx rfl (hb hby own_d2_2) rfl (flt hc2).1 ?_
      show own_S p e below s₁ m 5 #[sI p1, sI p2] [] _
      refine XS.iloadN X0.here hx rfl (hb hby own_d2_5) rfl ?_
      show own_S p e below s₁ m 6 #[sI p1, sI p2] [(.int p1)] _
      refine XS.goto X0.here hx rfl (pc0 := 6) (pc' := 10) rfl (hb hby own_d2_6) (by decide) (by decide) ?_
      exact k)
    obtain ⟨fs, hr, hrun, hended, hW, hsame⟩ := X0.leave (v := some (.int p1)) (fun h => by rw [Bd.returns] at h; cases h)
    refine ⟨_, _, cast (congrFun hR0 _) (pre3 _ (retOut X0 hx Bd.returns rfl (Or.inl ⟨rfl, Or.inl rfl, _, rfl⟩) (hb hby own_d2_10) hr)), hrun, hended, _, _, rfl, ?_, ⟨_, rfl⟩, hW, hsame.mono (by decide) (by decide)⟩
    show own_Q2 Z _ _ h0 n0 _ s₁.heap _
    rw [e0]
    exact ⟨(by rw [if_neg hc2]), N0, rfl⟩
theorem own_d3_0 : decode jdk_29_method_69_code 0 = .ok (.iload_n 0, 1) := by decide +kernel
theorem own_d3_1 : decode jdk_29_method_69_code 1 = .ok (.iload_n 1, 1) := by decide +kernel
theorem own_d3_2 : decode jdk_29_method_69_code 2 = .ok (.if_icmp .gt 7, 3) := by decide +kernel
theorem own_d3_5 : decode jdk_29_method_69_code 5 = .ok (.iload_n 0, 1) := by decide +kernel
theorem own_d3_6 : decode jdk_29_method_69_code 6 = .ok (.goto 4, 3) := by decide +kernel
theorem own_d3_9 : decode jdk_29_method_69_code 9 = .ok (.iload_n 1, 1) := by decide +kernel
theorem own_d3_10 : decode jdk_29_method_69_code 10 = .ok (.ireturn, 1) := by decide +kernel
theorem own_ef_3 (m : MethodId) (x0 : Int32) (x1 : Int32) : entryFrame m #[(.int x0), (.int x1)] 2 = mkF m 0 #[sI x0, sI x1] [] := by first | (simp [entryFrame, mkF, argsToLocals, Value.category]; done) | rfl
def own_Q3 (Z : State) (p1 : Int32) (p2 : Int32) (h0 : Heap) (n0 : Nat) (v : Option Value) (h : Heap) (L : List Loc) : Prop := v = some (.int (if p2 < p1 then p2 else p1)) ∧ Fr n0 L ∧ h = h0
abbrev own_y1 : MethodName := ⟨"java/lang/Math", "min", "(II)I"⟩
set_option maxRecDepth 65536 in
set_option maxHeartbeats 40000000 in
theorem own_rm3 (l : Launch) (Z : State) (a0 : Array Value) (hw : ∀ d ∈ tables_1, d.before a0 Z = true) (ws : List Jvm.Cond) (p1 : Int32) (p2 : Int32) (h0 : Heap) (n0 : Nat) (Z0 : n0 ≤ h0.size)  :
    MetFree l own_y1 (head1 (Jvm.Cond.code own_y1 jdk_29_method_69_code 2 (some .int) :: ws) ({ frames := 0, cells := 0, slots := 0, locals := 0 } : Room)) (fun a U => a = #[(.int p1), (.int p2)] ∧ Z.Warmed39 U.vm ∧ U.heap = h0) (fun _ _ _ _ _ => True) (fun _ U o U' => ∃ v L, o = .returned v ∧ own_Q3 Z p1 p2 h0 n0 v U'.heap L ∧ FrameEnd U o U' L ({ frames := 0, cells := 0, slots := 0, locals := 0 } : Room).cells ({ frames := 0, cells := 0, slots := 0, locals := 0 } : Room).slots) := by
  refine MetFree.of_bodySF (Jvm.Free.JP.mathPlain rfl (by decide +kernel)) hisR ?_
  intro p e s m args below meth c s₁ Bd hml0 hP hK
  obtain ⟨rfl, hZ, hh⟩ := hP
  have hx := Bd.exec
  have hby := Bd.bytes
  have hml : c.maxLocals = 2 := hml0
  have hown : s.vm.findClass "java/lang/Math" = some m.cls := findClass_of_methodNamed Bd.named
  have hnm := (name_of_methodNamed Bd.named Bd.method).1
  have X0 : Stand p l e ({ frames := 0, cells := 0, slots := 0, locals := 0 } : Room) s m #[(.int p1), (.int p2)] below meth c s₁ [] 0 0 := Stand.of_body Bd
  have e0 : s₁.heap = h0 := by rw [← hh, Bd.state]; rfl
  have N0 := Fr.nil n0
  obtain ⟨R0, hR0⟩ : ∃ R : State → Prop, R = fun t => Steps p.tables e below (s₁.setTop (entryFrame m #[(.int p1), (.int p2)] 2)) t := ⟨_, rfl⟩
  have pre0 : ∀ t, Steps p.tables e below (s₁.setTop (mkF m 0 #[sI p1, sI p2] [])) t → R0 t := fun t k => by rw [hR0]; exact castTop (own_ef_3 m p1 p2) k
  have pre1 : ∀ t, own_S p e below s₁ m 2 #[sI p1, sI p2] [(.int p2), (.int p1)] t → R0 t := fun t k => pre0 t (by
    refine XS.iloadN X0.here hx rfl (hb hby own_d3_0) rfl ?_
    show own_S p e below s₁ m 1 #[sI p1, sI p2] [(.int p1)] _
    refine XS.iloadN X0.here hx rfl (hb hby own_d3_1) rfl ?_
    exact k)
  by_cases hc2 : p2 < p1
  · have pre2 : ∀ t, own_S p e below s₁ m 10 #[sI p1, sI p2] [(.int p2)] t → R0 t := fun t k => pre1 t (by
      refine XS.icmpYes X0.here hx rfl (pc0 := 2) (pc' := 9) rfl (hb hby own_d3_2) rfl (tlt hc2).2.2.1 (by decide) (by decide) ?_
      show own_S p e below s₁ m 9 #[sI p1, sI p2] [] _
      refine XS.iloadN X0.here hx rfl (hb hby own_d3_9) rfl ?_
      exact k)
    obtain ⟨fs, hr, hrun, hended, hW, hsame⟩ := X0.leave (v := some (.int p2)) (fun h => by rw [Bd.returns] at h; cases h)
    refine ⟨_, _, cast (congrFun hR0 _) (pre2 _ (retOut X0 hx Bd.returns rfl (Or.inl ⟨rfl, Or.inl rfl, _, rfl⟩) (hb hby own_d3_10) hr)), hrun, hended, _, _, rfl, ?_, ⟨_, rfl⟩, hW, hsame.mono (by decide) (by decide)⟩
    show own_Q3 Z _ _ h0 n0 _ s₁.heap _
    rw [e0]
    exact ⟨(by rw [if_pos hc2]), N0, rfl⟩
  · have pre3 : ∀ t, own_S p e below s₁ m 10 #[sI p1, sI p2] [(.int p1)] t → R0 t := fun t k => pre1 t (by
      refine XS.icmpNo X0.here hx rfl (hb hby own_d3_2) rfl (flt hc2).2.2.1 ?_
      show own_S p e below s₁ m 5 #[sI p1, sI p2] [] _
      refine XS.iloadN X0.here hx rfl (hb hby own_d3_5) rfl ?_
      show own_S p e below s₁ m 6 #[sI p1, sI p2] [(.int p1)] _
      refine XS.goto X0.here hx rfl (pc0 := 6) (pc' := 10) rfl (hb hby own_d3_6) (by decide) (by decide) ?_
      exact k)
    obtain ⟨fs, hr, hrun, hended, hW, hsame⟩ := X0.leave (v := some (.int p1)) (fun h => by rw [Bd.returns] at h; cases h)
    refine ⟨_, _, cast (congrFun hR0 _) (pre3 _ (retOut X0 hx Bd.returns rfl (Or.inl ⟨rfl, Or.inl rfl, _, rfl⟩) (hb hby own_d3_10) hr)), hrun, hended, _, _, rfl, ?_, ⟨_, rfl⟩, hW, hsame.mono (by decide) (by decide)⟩
    show own_Q3 Z _ _ h0 n0 _ s₁.heap _
    rw [e0]
    exact ⟨(by rw [if_neg hc2]), N0, rfl⟩
theorem own_d1_0 : decode prog_67_method_13_code 0 = .ok (.lload_n 0, 1) := by decide +kernel
theorem own_d1_1 : decode prog_67_method_13_code 1 = .ok (.lload 4, 2) := by decide +kernel
theorem own_d1_3 : decode prog_67_method_13_code 3 = .ok (.lsub, 1) := by decide +kernel
theorem own_d1_4 : decode prog_67_method_13_code 4 = .ok (.lstore 7, 2) := by decide +kernel
theorem own_d1_6 : decode prog_67_method_13_code 6 = .ok (.iload 6, 2) := by decide +kernel
theorem own_d1_8 : decode prog_67_method_13_code 8 = .ok (.i2l, 1) := by decide +kernel
theorem own_d1_9 : decode prog_67_method_13_code 9 = .ok (.lload_n 2, 1) := by decide +kernel
theorem own_d1_10 : decode prog_67_method_13_code 10 = .ok (.lcmp, 1) := by decide +kernel
theorem own_d1_11 : decode prog_67_method_13_code 11 = .ok (.ifCond .ge 10, 3) := by decide +kernel
theorem own_d1_14 : decode prog_67_method_13_code 14 = .ok (.lload 7, 2) := by decide +kernel
theorem own_d1_16 : decode prog_67_method_13_code 16 = .ok (.lconst 1, 1) := by decide +kernel
theorem own_d1_17 : decode prog_67_method_13_code 17 = .ok (.ladd, 1) := by decide +kernel
theorem own_d1_18 : decode prog_67_method_13_code 18 = .ok (.goto 5, 3) := by decide +kernel
theorem own_d1_21 : decode prog_67_method_13_code 21 = .ok (.lload 7, 2) := by decide +kernel
theorem own_d1_23 : decode prog_67_method_13_code 23 = .ok (.lreturn, 1) := by decide +kernel
theorem own_pn_0 : plainName "com/example/adlim/adlim/server/Partition" = true := by first | (simp [plainName, overriddenIn]; done) | decide +kernel
theorem own_ef_1 (m : MethodId) (x0 : Int64) (x1 : Int64) (x2 : Int64) (x3 : Int32) : entryFrame m #[(.long x0), (.long x1), (.long x2), (.int x3)] 9 = mkF m 0 #[sJ x0, .second, sJ x1, .second, sJ x2, .second, sI x3, .unset, .unset] [] := by first | (simp [entryFrame, mkF, argsToLocals, Value.category]; done) | rfl
def own_Q1 (Z : State) (q1 : Int64) (q2 : Int64) (q3 : Int64) (p4 : Int32) (h0 : Heap) (n0 : Nat) (v : Option Value) (h : Heap) (L : List Loc) : Prop := v = some (.long (if p4.toInt64 < q2 then (q1 - q3) + (1 : Int64) else (q1 - q3))) ∧ Fr n0 L ∧ h = h0
abbrev own_y2 : MethodName := ⟨"com/example/adlim/adlim/server/Partition", "secondsLeft", "(JJJI)J"⟩
set_option maxRecDepth 65536 in
set_option maxHeartbeats 40000000 in
theorem own_rm1 (l : Launch) (Z : State) (a0 : Array Value) (hw : ∀ d ∈ tables_1, d.before a0 Z = true) (ws : List Jvm.Cond) (q1 : Int64) (q2 : Int64) (q3 : Int64) (p4 : Int32) (h0 : Heap) (n0 : Nat) (Z0 : n0 ≤ h0.size)  :
    MetFree l own_y2 (head1 (Jvm.Cond.code own_y2 prog_67_method_13_code 9 (some .long) :: ws) ({ frames := 0, cells := 0, slots := 0, locals := 0 } : Room)) (fun a U => a = #[(.long q1), (.long q2), (.long q3), (.int p4)] ∧ Z.Warmed39 U.vm ∧ U.heap = h0) (fun _ _ _ _ _ => True) (fun _ U o U' => ∃ v L, o = .returned v ∧ own_Q1 Z q1 q2 q3 p4 h0 n0 v U'.heap L ∧ FrameEnd U o U' L ({ frames := 0, cells := 0, slots := 0, locals := 0 } : Room).cells ({ frames := 0, cells := 0, slots := 0, locals := 0 } : Room).slots) := by
  refine MetFree.of_bodySF (plainFor_of_name own_pn_0) hisR ?_
  intro p e s m args below meth c s₁ Bd hml0 hP hK
  obtain ⟨rfl, hZ, hh⟩ := hP
  have hx := Bd.exec
  have hby := Bd.bytes
  have hml : c.maxLocals = 9 := hml0
  have hown : s.vm.findClass "com/example/adlim/adlim/server/Partition" = some m.cls := findClass_of_methodNamed Bd.named
  have hnm := (name_of_methodNamed Bd.named Bd.method).1
  have X0 : Stand p l e ({ frames := 0, cells := 0, slots := 0, locals := 0 } : Room) s m #[(.long q1), (.long q2), (.long q3), (.int p4)] below meth c s₁ [] 0 0 := Stand.of_body Bd
  have e0 : s₁.heap = h0 := by rw [← hh, Bd.state]; rfl
  have N0 := Fr.nil n0
  obtain ⟨R0, hR0⟩ : ∃ R : State → Prop, R = fun t => Steps p.tables e below (s₁.setTop (entryFrame m #[(.long q1), (.long q2), (.long q3), (.int p4)] 9)) t := ⟨_, rfl⟩
  have pre0 : ∀ t, Steps p.tables e below (s₁.setTop (mkF m 0 #[sJ q1, sW, sJ q2, sW, sJ q3, sW, sI p4, sU, sU] [])) t → R0 t := fun t k => by rw [hR0]; exact castTop (own_ef_1 m q1 q2 q3 p4) k
  have pre1 : ∀ t, own_S p e below s₁ m 4 #[sJ q1, sW, sJ q2, sW, sJ q3, sW, sI p4, sU, sU] [(.long (q1 - q3))] t → R0 t := fun t k => pre0 t (by
    refine XS.lloadN X0.here hx rfl (hb hby own_d1_0) rfl ?_
    show own_S p e below s₁ m 1 #[sJ q1, sW, sJ q2, sW, sJ q3, sW, sI p4, sU, sU] [(.long q1)] _
    refine XS.lload X0.here hx rfl (hb hby own_d1_1) rfl ?_
    show own_S p e below s₁ m 3 #[sJ q1, sW, sJ q2, sW, sJ q3, sW, sI p4, sU, sU] [(.long q3), (.long q1)] _
    refine XS.lsub X0.here hx rfl (hb hby own_d1_3) rfl ?_
    exact k)
  obtain ⟨v7, hv7⟩ : ∃ z : Int64, z = (q1 - q3) := ⟨_, rfl⟩
  have pre2 : ∀ t, own_S p e below s₁ m 4 #[sJ q1, sW, sJ q2, sW, sJ q3, sW, sI p4, sU, sU] [(.long v7)] t → R0 t := fun t k => pre1 t (by subst hv7; exact k)
  have pre3 : ∀ t, own_S p e below s₁ m 11 #[sJ q1, sW, sJ q2, sW, sJ q3, sW, sI p4, sJ v7, sW] [(.int (lcmpW (p4.toInt64) q2))] t → R0 t := fun t k => pre2 t (by
    refine XS.lstore X0.here hx rfl (hb hby own_d1_4) rfl (l' := #[sJ q1, sW, sJ q2, sW, sJ q3, sW, sI p4, sJ v7, sW]) rfl ?_
    show own_S p e below s₁ m 6 #[sJ q1, sW, sJ q2, sW, sJ q3, sW, sI p4, sJ v7, sW] [] _
    refine XS.iload X0.here hx rfl (hb hby own_d1_6) rfl ?_
    show own_S p e below s₁ m 8 #[sJ q1, sW, sJ q2, sW, sJ q3, sW, sI p4, sJ v7, sW] [(.int p4)] _
    refine XS.i2l X0.here hx rfl (hb hby own_d1_8) rfl ?_
    show own_S p e below s₁ m 9 #[sJ q1, sW, sJ q2, sW, sJ q3, sW, sI p4, sJ v7, sW] [(.long (p4.toInt64))] _
    refine XS.lloadN X0.here hx rfl (hb hby own_d1_9) rfl ?_
    show own_S p e below s₁ m 10 #[sJ q1, sW, sJ q2, sW, sJ q3, sW, sI p4, sJ v7, sW] [(.long q2), (.long (p4.toInt64))] _
    refine XS.lcmp X0.here hx rfl (hb hby own_d1_10) rfl ?_
    exact k)
  by_cases hc11 : (p4.toInt64) < q2
  · have pre4 : ∀ t, own_S p e below s₁ m 23 #[sJ q1, sW, sJ q2, sW, sJ q3, sW, sI p4, sJ v7, sW] [(.long (v7 + (1 : Int64)))] t → R0 t := fun t k => pre3 t (by
      refine XS.ifNo X0.here hx rfl (hb hby own_d1_11) rfl ((if0 _ _).trans (tlt ((lw_lt _ _).mpr hc11)).2.1) ?_
      show own_S p e below s₁ m 14 #[sJ q1, sW, sJ q2, sW, sJ q3, sW, sI p4, sJ v7, sW] [] _
      refine XS.lload X0.here hx rfl (hb hby own_d1_14) rfl ?_
      show own_S p e below s₁ m 16 #[sJ q1, sW, sJ q2, sW, sJ q3, sW, sI p4, sJ v7, sW] [(.long v7)] _
      refine XS.lconst X0.here hx rfl (hb hby own_d1_16) ?_
      show own_S p e below s₁ m 17 #[sJ q1, sW, sJ q2, sW, sJ q3, sW, sI p4, sJ v7, sW] [(.long 1), (.long v7)] _
      refine XS.ladd X0.here hx rfl (hb hby own_d1_17) rfl ?_
      show own_S p e below s₁ m 18 #[sJ q1, sW, sJ q2, sW, sJ q3, sW, sI p4, sJ v7, sW] [(.long (v7 + (1 : Int64)))] _
      refine XS.goto X0.here hx rfl (pc0 := 18) (pc' := 23) rfl (hb hby own_d1_18) (by decide) (by decide) ?_
      exact k)
    obtain ⟨fs, hr, hrun, hended, hW, hsame⟩ := X0.leave (v := some (.long (v7 + (1 : Int64)))) (fun h => by rw [Bd.returns] at h; cases h)
    refine ⟨_, _, cast (congrFun hR0 _) (pre4 _ (retOut X0 hx Bd.returns rfl (Or.inr (Or.inl ⟨rfl, rfl, _, rfl⟩)) (hb hby own_d1_23) hr)), hrun, hended, _, _, rfl, ?_, ⟨_, rfl⟩, hW, hsame.mono (by decide) (by decide)⟩
    show own_Q1 Z _ _ _ _ h0 n0 _ s₁.heap _
    rw [e0]
    exact ⟨(by rw [if_pos hc11, hv7]), N0, rfl⟩
  · have pre5 : ∀ t, own_S p e below s₁ m 23 #[sJ q1, sW, sJ q2, sW, sJ q3, sW, sI p4, sJ v7, sW] [(.long v7)] t → R0 t := fun t k => pre3 t (by
      refine XS.ifYes X0.here hx rfl (pc0 := 11) (pc' := 21) rfl (hb hby own_d1_11) rfl ((if0 _ _).trans (flt (mt (lw_lt _ _).mp hc11)).2.1) (by decide) (by decide) ?_
      show own_S p e below s₁ m 21 #[sJ q1, sW, sJ q2, sW, sJ q3, sW, sI p4, sJ v7, sW] [] _
      refine XS.lload X0.here hx rfl (hb hby own_d1_21) rfl ?_
      exact k)
    obtain ⟨fs, hr, hrun, hended, hW, hsame⟩ := X0.leave (v := some (.long v7)) (fun h => by rw [Bd.returns] at h; cases h)
    refine ⟨_, _, cast (congrFun hR0 _) (pre5 _ (retOut X0 hx Bd.returns rfl (Or.inr (Or.inl ⟨rfl, rfl, _, rfl⟩)) (hb hby own_d1_23) hr)), hrun, hended, _, _, rfl, ?_, ⟨_, rfl⟩, hW, hsame.mono (by decide) (by decide)⟩
    show own_Q1 Z _ _ _ _ h0 n0 _ s₁.heap _
    rw [e0]
    exact ⟨(by rw [if_neg hc11, hv7]), N0, rfl⟩
theorem own_pd_0 : parseMethodDescriptor "(II)I" = some ⟨[.int, .int], some .int⟩ := by decide +kernel
theorem own_pd_1 : parseMethodDescriptor "(JJJI)J" = some ⟨[.long, .long, .long, .int], some .long⟩ := by decide +kernel
theorem own_pn_1 : plainName "com/example/adlim/adlim/server/PartitionSecondsLeftPinLaw" = true := by first | (simp [plainName, overriddenIn]; done) | decide +kernel
theorem own_ef_0 (m : MethodId) (x0 : Int64) (x1 : Int64) (x2 : Int32) (x3 : Int32) (x4 : Int32) : entryFrame m #[(.long x0), (.long x1), (.int x2), (.int x3), (.int x4)] maxLocals = mkF m 0 #[sJ x0, .second, sJ x1, .second, sI x2, sI x3, sI x4, .unset, .unset, .unset, .unset, .unset, .unset, .unset, .unset, .unset, .unset, .unset, .unset, .unset, .unset, .unset, .unset, .unset] [] := by first | (simp [entryFrame, mkF, argsToLocals, Value.category, maxLocals]; done) | rfl
def own_Q0 (Z : State) (q1 : Int64) (q2 : Int64) (p3 : Int32) (p4 : Int32) (p5 : Int32) (h0 : Heap) (n0 : Nat) (v : Option Value) (h : Heap) (L : List Loc) : Prop := v = some (.int 1) ∧ Fr n0 L
set_option maxRecDepth 65536 in
set_option maxHeartbeats 40000000 in
theorem own_rm0 (l : Launch) (Z : State) (a0 : Array Value) (hw : ∀ d ∈ tables_1, d.before a0 Z = true) (ws : List Jvm.Cond) (q1 : Int64) (q2 : Int64) (p3 : Int32) (p4 : Int32) (p5 : Int32) (h0 : Heap) (n0 : Nat) (Z0 : n0 ≤ h0.size)  :
    MetFree l x (head1 (Jvm.Cond.code x code maxLocals ret :: ws) room_1) (fun a U => a = #[(.long q1), (.long q2), (.int p3), (.int p4), (.int p5)] ∧ Z.Warmed39 U.vm ∧ U.heap = h0) (fun _ _ _ _ _ => True) (fun _ U o U' => ∃ v L, o = .returned v ∧ own_Q0 Z q1 q2 p3 p4 p5 h0 n0 v U'.heap L ∧ FrameEnd U o U' L room_1.cells room_1.slots) := by
  refine MetFree.of_bodySF (plainFor_of_name own_pn_1) hisR ?_
  intro p e s m args below meth c s₁ Bd hml0 hP hK
  obtain ⟨rfl, hZ, hh⟩ := hP
  have hw0 := hw _ (List.mem_of_getElem? (i := 0) rfl)
  have hw1 := hw _ (List.mem_of_getElem? (i := 1) rfl)
  have hw2 := hw _ (List.mem_of_getElem? (i := 2) rfl)
  have hw3 := hw _ (List.mem_of_getElem? (i := 3) rfl)
  have hw4 := hw _ (List.mem_of_getElem? (i := 4) rfl)
  have hw5 := hw _ (List.mem_of_getElem? (i := 5) rfl)
  have hw6 := hw _ (List.mem_of_getElem? (i := 6) rfl)
  have hw7 := hw _ (List.mem_of_getElem? (i := 7) rfl)
  have hw8 := hw _ (List.mem_of_getElem? (i := 8) rfl)
  have hw9 := hw _ (List.mem_of_getElem? (i := 9) rfl)
  have hw10 := hw _ (List.mem_of_getElem? (i := 10) rfl)
  have hw11 := hw _ (List.mem_of_getElem? (i := 11) rfl)
  have hw12 := hw _ (List.mem_of_getElem? (i := 12) rfl)
  have hw13 := hw _ (List.mem_of_getElem? (i := 13) rfl)
  have hw14 := hw _ (List.mem_of_getElem? (i := 14) rfl)
  have hw15 := hw _ (List.mem_of_getElem? (i := 15) rfl)
  have hw16 := hw _ (List.mem_of_getElem? (i := 16) rfl)
  have hw17 := hw _ (List.mem_of_getElem? (i := 17) rfl)
  have hw18 := hw _ (List.mem_of_getElem? (i := 18) rfl)
  have hx := Bd.exec
  have hby := Bd.bytes
  have hml : c.maxLocals = 24 := hml0
  have hown : s.vm.findClass "com/example/adlim/adlim/server/PartitionSecondsLeftPinLaw" = some m.cls := findClass_of_methodNamed Bd.named
  have hnm := (name_of_methodNamed Bd.named Bd.method).1
  have X0 : Stand p l e room_1 s m #[(.long q1), (.long q2), (.int p3), (.int p4), (.int p5)] below meth c s₁ [] 0 0 := Stand.of_body Bd
  have e0 : s₁.heap = h0 := by rw [← hh, Bd.state]; rfl
  have N0 := Fr.nil n0
  obtain ⟨R0, hR0⟩ : ∃ R : State → Prop, R = fun t => Steps p.tables e below (s₁.setTop (entryFrame m #[(.long q1), (.long q2), (.int p3), (.int p4), (.int p5)] maxLocals)) t := ⟨_, rfl⟩
  have pre0 : ∀ t, Steps p.tables e below (s₁.setTop (mkF m 0 #[sJ q1, sW, sJ q2, sW, sI p3, sI p4, sI p5, sU, sU, sU, sU, sU, sU, sU, sU, sU, sU, sU, sU, sU, sU, sU, sU, sU] [])) t → R0 t := fun t k => by rw [hR0]; exact castTop (own_ef_0 m q1 q2 p3 p4 p5) k
  have pre1 : ∀ t, own_S p e below s₁ m 8 #[sJ q1, sW, sJ q2, sW, sI p3, sI p4, sI p5, sU, sU, sU, sU, sU, sU, sU, sU, sU, sU, sU, sU, sU, sU, sU, sU, sU] [(.int ((p3 &&& (2147483647 : Int32)) % (1000000000 : Int32)))] t → R0 t := fun t k => pre0 t (by
    refine XS.iload X0.here hx rfl (hb hby at_0) rfl ?_
    show own_S p e below s₁ m 2 #[sJ q1, sW, sJ q2, sW, sI p3, sI p4, sI p5, sU, sU, sU, sU, sU, sU, sU, sU, sU, sU, sU, sU, sU, sU, sU, sU, sU] [(.int p3)] _
    refine X0.ldcInt hx hown (mvT hZ hw0) (g := (mkF m 2 #[sJ q1, sW, sJ q2, sW, sI p3, sI p4, sI p5, sU, sU, sU, sU, sU, sU, sU, sU, sU, sU, sU, sU, sU, sU, sU, sU, sU] [(.int p3)])) rfl (hb hby at_2) _ ?_
    show own_S p e below s₁ m 4 #[sJ q1, sW, sJ q2, sW, sI p3, sI p4, sI p5, sU, sU, sU, sU, sU, sU, sU, sU, sU, sU, sU, sU, sU, sU, sU, sU, sU] [(.int 2147483647), (.int p3)] _
    refine XS.iand X0.here hx rfl (hb hby at_4) rfl ?_
    show own_S p e below s₁ m 5 #[sJ q1, sW, sJ q2, sW, sI p3, sI p4, sI p5, sU, sU, sU, sU, sU, sU, sU, sU, sU, sU, sU, sU, sU, sU, sU, sU, sU] [(.int (p3 &&& (2147483647 : Int32)))] _
    refine X0.ldcInt hx hown (mvT hZ hw1) (g := (mkF m 5 #[sJ q1, sW, sJ q2, sW, sI p3, sI p4, sI p5, sU, sU, sU, sU, sU, sU, sU, sU, sU, sU, sU, sU, sU, sU, sU, sU, sU] [(.int (p3 &&& (2147483647 : Int32)))])) rfl (hb hby at_5) _ ?_
    show own_S p e below s₁ m 7 #[sJ q1, sW, sJ q2, sW, sI p3, sI p4, sI p5, sU, sU, sU, sU, sU, sU, sU, sU, sU, sU, sU, sU, sU, sU, sU, sU, sU] [(.int 1000000000), (.int (p3 &&& (2147483647 : Int32)))] _
    refine iremM X0 hx rfl (hb hby at_7) rfl (by decide) ?_
    exact k)
  obtain ⟨v7, hv7⟩ : ∃ z : Int32, z = ((p3 &&& (2147483647 : Int32)) % (1000000000 : Int32)) := ⟨_, rfl⟩
  have pre2 : ∀ t, own_S p e below s₁ m 8 #[sJ q1, sW, sJ q2, sW, sI p3, sI p4, sI p5, sU, sU, sU, sU, sU, sU, sU, sU, sU, sU, sU, sU, sU, sU, sU, sU, sU] [(.int v7)] t → R0 t := fun t k => pre1 t (by subst hv7; exact k)
  have b7 : 0 ≤ v7.toInt ∧ v7.toInt < 1000000000 := by rw [hv7]; exact own_nano p3
  have pre3 : ∀ t, own_S p e below s₁ m 15 #[sJ q1, sW, sJ q2, sW, sI p3, sI p4, sI p5, sI v7, sU, sU, sU, sU, sU, sU, sU, sU, sU, sU, sU, sU, sU, sU, sU, sU] [(.long (q2 - (q2 / (31556889864403200 : Int64)) * (31556889864403200 : Int64)))] t → R0 t := fun t k => pre2 t (by
    refine XS.istore X0.here hx rfl (hb hby at_8) rfl (l' := #[sJ q1, sW, sJ q2, sW, sI p3, sI p4, sI p5, sI v7, sU, sU, sU, sU, sU, sU, sU, sU, sU, sU, sU, sU, sU, sU, sU, sU]) rfl ?_
    show own_S p e below s₁ m 10 #[sJ q1, sW, sJ q2, sW, sI p3, sI p4, sI p5, sI v7, sU, sU, sU, sU, sU, sU, sU, sU, sU, sU, sU, sU, sU, sU, sU, sU] [] _
    refine XS.lloadN X0.here hx rfl (hb hby at_10) rfl ?_
    show own_S p e below s₁ m 11 #[sJ q1, sW, sJ q2, sW, sI p3, sI p4, sI p5, sI v7, sU, sU, sU, sU, sU, sU, sU, sU, sU, sU, sU, sU, sU, sU, sU, sU] [(.long q2)] _
    refine X0.ldc2Long hx hown (mvT hZ hw2) (g := (mkF m 11 #[sJ q1, sW, sJ q2, sW, sI p3, sI p4, sI p5, sI v7, sU, sU, sU, sU, sU, sU, sU, sU, sU, sU, sU, sU, sU, sU, sU, sU] [(.long q2)])) rfl (hb hby at_11) _ ?_
    show own_S p e below s₁ m 14 #[sJ q1, sW, sJ q2, sW, sI p3, sI p4, sI p5, sI v7, sU, sU, sU, sU, sU, sU, sU, sU, sU, sU, sU, sU, sU, sU, sU, sU] [(.long 31556889864403200), (.long q2)] _
    refine XS.lrem X0.here hx rfl (hb hby at_14) rfl (by decide) ?_
    exact k)
  obtain ⟨v8, hv8⟩ : ∃ z : Int64, z = (q2 - (q2 / (31556889864403200 : Int64)) * (31556889864403200 : Int64)) := ⟨_, rfl⟩
  have pre4 : ∀ t, own_S p e below s₁ m 15 #[sJ q1, sW, sJ q2, sW, sI p3, sI p4, sI p5, sI v7, sU, sU, sU, sU, sU, sU, sU, sU, sU, sU, sU, sU, sU, sU, sU, sU] [(.long v8)] t → R0 t := fun t k => pre3 t (by subst hv8; exact k)
  have pre5 : ∀ t, own_S p e below s₁ m 21 #[sJ q1, sW, sJ q2, sW, sI p3, sI p4, sI p5, sI v7, sJ v8, sW, sU, sU, sU, sU, sU, sU, sU, sU, sU, sU, sU, sU, sU, sU] [(.int (p5 &&& (3 : Int32)))] t → R0 t := fun t k => pre4 t (by
    refine XS.lstore X0.here hx rfl (hb hby at_15) rfl (l' := #[sJ q1, sW, sJ q2, sW, sI p3, sI p4, sI p5, sI v7, sJ v8, sW, sU, sU, sU, sU, sU, sU, sU, sU, sU, sU, sU, sU, sU, sU]) rfl ?_
    show own_S p e below s₁ m 17 #[sJ q1, sW, sJ q2, sW, sI p3, sI p4, sI p5, sI v7, sJ v8, sW, sU, sU, sU, sU, sU, sU, sU, sU, sU, sU, sU, sU, sU, sU] [] _
    refine XS.iload X0.here hx rfl (hb hby at_17) rfl ?_
    show own_S p e below s₁ m 19 #[sJ q1, sW, sJ q2, sW, sI p3, sI p4, sI p5, sI v7, sJ v8, sW, sU, sU, sU, sU, sU, sU, sU, sU, sU, sU, sU, sU, sU, sU] [(.int p5)] _
    refine XS.iconst X0.here hx rfl (hb hby at_19) ?_
    show own_S p e below s₁ m 20 #[sJ q1, sW, sJ q2, sW, sI p3, sI p4, sI p5, sI v7, sJ v8, sW, sU, sU, sU, sU, sU, sU, sU, sU, sU, sU, sU, sU, sU, sU] [(.int 3), (.int p5)] _
    refine XS.iand X0.here hx rfl (hb hby at_20) rfl ?_
    exact k)
  obtain ⟨v10, hv10⟩ : ∃ z : Int32, z = (p5 &&& (3 : Int32)) := ⟨_, rfl⟩
  have pre6 : ∀ t, own_S p e below s₁ m 21 #[sJ q1, sW, sJ q2, sW, sI p3, sI p4, sI p5, sI v7, sJ v8, sW, sU, sU, sU, sU, sU, sU, sU, sU, sU, sU, sU, sU, sU, sU] [(.int v10)] t → R0 t := fun t k => pre5 t (by subst hv10; exact k)
  have pre7 : ∀ t, own_S p e below s₁ m 25 #[sJ q1, sW, sJ q2, sW, sI p3, sI p4, sI p5, sI v7, sJ v8, sW, sI v10, sU, sU, sU, sU, sU, sU, sU, sU, sU, sU, sU, sU, sU] [(.int v10)] t → R0 t := fun t k => pre6 t (by
    refine XS.istore X0.here hx rfl (hb hby at_21) rfl (l' := #[sJ q1, sW, sJ q2, sW, sI p3, sI p4, sI p5, sI v7, sJ v8, sW, sI v10, sU, sU, sU, sU, sU, sU, sU, sU, sU, sU, sU, sU, sU]) rfl ?_
    show own_S p e below s₁ m 23 #[sJ q1, sW, sJ q2, sW, sI p3, sI p4, sI p5, sI v7, sJ v8, sW, sI v10, sU, sU, sU, sU, sU, sU, sU, sU, sU, sU, sU, sU, sU] [] _
    refine XS.iload X0.here hx rfl (hb hby at_23) rfl ?_
    exact k)
  obtain ⟨T8, Lc9, jn11, X10, e11, N12, P13, pre14⟩ : ∃ (T8 : State) (Lc9 : List Loc) (jn11 : Int64), Stand p l e room_1 s m #[(.long q1), (.long q2), (.int p3), (.int p4), (.int p5)] below meth c T8 Lc9 0 0 ∧ T8.heap = h0 ∧ Fr n0 Lc9 ∧ (0 ≤ jn11.toInt ∧ jn11.toInt < 1000000000) ∧ ∀ t, own_S p e below T8 m 88 #[sJ q1, sW, sJ q2, sW, sI p3, sI p4, sI p5, sI v7, sJ v8, sW, sI v10, sJ jn11, sW, sU, sU, sU, sU, sU, sU, sU, sU, sU, sU, sU] [] t → R0 t := by
    by_cases hc25 : v10 = (0 : Int32)
    · have pre15 : ∀ t, own_S p e below s₁ m 88 #[sJ q1, sW, sJ q2, sW, sI p3, sI p4, sI p5, sI v7, sJ v8, sW, sI v10, sJ (((p4 &&& (2147483647 : Int32)) % (1000000000 : Int32)).toInt64), sW, sU, sU, sU, sU, sU, sU, sU, sU, sU, sU, sU] [] t → R0 t := fun t k => pre7 t (by
        refine XS.ifNo X0.here hx rfl (hb hby at_25) rfl ((if0 _ _).trans (teq hc25).2) ?_
        show own_S p e below s₁ m 28 #[sJ q1, sW, sJ q2, sW, sI p3, sI p4, sI p5, sI v7, sJ v8, sW, sI v10, sU, sU, sU, sU, sU, sU, sU, sU, sU, sU, sU, sU, sU] [] _
        refine XS.iload X0.here hx rfl (hb hby at_28) rfl ?_
        show own_S p e below s₁ m 30 #[sJ q1, sW, sJ q2, sW, sI p3, sI p4, sI p5, sI v7, sJ v8, sW, sI v10, sU, sU, sU, sU, sU, sU, sU, sU, sU, sU, sU, sU, sU] [(.int p4)] _
        refine X0.ldcInt hx hown (mvT hZ hw0) (g := (mkF m 30 #[sJ q1, sW, sJ q2, sW, sI p3, sI p4, sI p5, sI v7, sJ v8, sW, sI v10, sU, sU, sU, sU, sU, sU, sU, sU, sU, sU, sU, sU, sU] [(.int p4)])) rfl (hb hby at_30) _ ?_
        show own_S p e below s₁ m 32 #[sJ q1, sW, sJ q2, sW, sI p3, sI p4, sI p5, sI v7, sJ v8, sW, sI v10, sU, sU, sU, sU, sU, sU, sU, sU, sU, sU, sU, sU, sU] [(.int 2147483647), (.int p4)] _
        refine XS.iand X0.here hx rfl (hb hby at_32) rfl ?_
        show own_S p e below s₁ m 33 #[sJ q1, sW, sJ q2, sW, sI p3, sI p4, sI p5, sI v7, sJ v8, sW, sI v10, sU, sU, sU, sU, sU, sU, sU, sU, sU, sU, sU, sU, sU] [(.int (p4 &&& (2147483647 : Int32)))] _
        refine X0.ldcInt hx hown (mvT hZ hw1) (g := (mkF m 33 #[sJ q1, sW, sJ q2, sW, sI p3, sI p4, sI p5, sI v7, sJ v8, sW, sI v10, sU, sU, sU, sU, sU, sU, sU, sU, sU, sU, sU, sU, sU] [(.int (p4 &&& (2147483647 : Int32)))])) rfl (hb hby at_33) _ ?_
        show own_S p e below s₁ m 35 #[sJ q1, sW, sJ q2, sW, sI p3, sI p4, sI p5, sI v7, sJ v8, sW, sI v10, sU, sU, sU, sU, sU, sU, sU, sU, sU, sU, sU, sU, sU] [(.int 1000000000), (.int (p4 &&& (2147483647 : Int32)))] _
        refine iremM X0 hx rfl (hb hby at_35) rfl (by decide) ?_
        show own_S p e below s₁ m 36 #[sJ q1, sW, sJ q2, sW, sI p3, sI p4, sI p5, sI v7, sJ v8, sW, sI v10, sU, sU, sU, sU, sU, sU, sU, sU, sU, sU, sU, sU, sU] [(.int ((p4 &&& (2147483647 : Int32)) % (1000000000 : Int32)))] _
        refine XS.i2l X0.here hx rfl (hb hby at_36) rfl ?_
        show own_S p e below s₁ m 37 #[sJ q1, sW, sJ q2, sW, sI p3, sI p4, sI p5, sI v7, sJ v8, sW, sI v10, sU, sU, sU, sU, sU, sU, sU, sU, sU, sU, sU, sU, sU] [(.long (((p4 &&& (2147483647 : Int32)) % (1000000000 : Int32)).toInt64))] _
        refine XS.lstore X0.here hx rfl (hb hby at_37) rfl (l' := #[sJ q1, sW, sJ q2, sW, sI p3, sI p4, sI p5, sI v7, sJ v8, sW, sI v10, sJ (((p4 &&& (2147483647 : Int32)) % (1000000000 : Int32)).toInt64), sW, sU, sU, sU, sU, sU, sU, sU, sU, sU, sU, sU]) rfl ?_
        show own_S p e below s₁ m 39 #[sJ q1, sW, sJ q2, sW, sI p3, sI p4, sI p5, sI v7, sJ v8, sW, sI v10, sJ (((p4 &&& (2147483647 : Int32)) % (1000000000 : Int32)).toInt64), sW, sU, sU, sU, sU, sU, sU, sU, sU, sU, sU, sU] [] _
        refine XS.goto X0.here hx rfl (pc0 := 39) (pc' := 88) rfl (hb hby at_39) (by decide) (by decide) ?_
        exact k)
      exact ⟨_, _, (((p4 &&& (2147483647 : Int32)) % (1000000000 : Int32)).toInt64), X0, e0, N0, own_wide _ (own_nano p4), pre15⟩
    · have pre16 : ∀ t, own_S p e below s₁ m 45 #[sJ q1, sW, sJ q2, sW, sI p3, sI p4, sI p5, sI v7, sJ v8, sW, sI v10, sU, sU, sU, sU, sU, sU, sU, sU, sU, sU, sU, sU, sU] [(.int 1), (.int v10)] t → R0 t := fun t k => pre7 t (by
        refine XS.ifYes X0.here hx rfl (pc0 := 25) (pc' := 42) rfl (hb hby at_25) rfl ((if0 _ _).trans (feq hc25).2) (by decide) (by decide) ?_
        show own_S p e below s₁ m 42 #[sJ q1, sW, sJ q2, sW, sI p3, sI p4, sI p5, sI v7, sJ v8, sW, sI v10, sU, sU, sU, sU, sU, sU, sU, sU, sU, sU, sU, sU, sU] [] _
        refine XS.iload X0.here hx rfl (hb hby at_42) rfl ?_
        show own_S p e below s₁ m 44 #[sJ q1, sW, sJ q2, sW, sI p3, sI p4, sI p5, sI v7, sJ v8, sW, sI v10, sU, sU, sU, sU, sU, sU, sU, sU, sU, sU, sU, sU, sU] [(.int v10)] _
        refine XS.iconst X0.here hx rfl (hb hby at_44) ?_
        exact k)
      by_cases hc45 : v10 = (1 : Int32)
      · have pre17 : ∀ t, own_S p e below s₁ m 88 #[sJ q1, sW, sJ q2, sW, sI p3, sI p4, sI p5, sI v7, sJ v8, sW, sI v10, sJ (v7.toInt64), sW, sU, sU, sU, sU, sU, sU, sU, sU, sU, sU, sU] [] t → R0 t := fun t k => pre16 t (by
          refine XS.icmpNo X0.here hx rfl (hb hby at_45) rfl (teq hc45).2 ?_
          show own_S p e below s₁ m 48 #[sJ q1, sW, sJ q2, sW, sI p3, sI p4, sI p5, sI v7, sJ v8, sW, sI v10, sU, sU, sU, sU, sU, sU, sU, sU, sU, sU, sU, sU, sU] [] _
          refine XS.iload X0.here hx rfl (hb hby at_48) rfl ?_
          show own_S p e below s₁ m 50 #[sJ q1, sW, sJ q2, sW, sI p3, sI p4, sI p5, sI v7, sJ v8, sW, sI v10, sU, sU, sU, sU, sU, sU, sU, sU, sU, sU, sU, sU, sU] [(.int v7)] _
          refine XS.i2l X0.here hx rfl (hb hby at_50) rfl ?_
          show own_S p e below s₁ m 51 #[sJ q1, sW, sJ q2, sW, sI p3, sI p4, sI p5, sI v7, sJ v8, sW, sI v10, sU, sU, sU, sU, sU, sU, sU, sU, sU, sU, sU, sU, sU] [(.long (v7.toInt64))] _
          refine XS.lstore X0.here hx rfl (hb hby at_51) rfl (l' := #[sJ q1, sW, sJ q2, sW, sI p3, sI p4, sI p5, sI v7, sJ v8, sW, sI v10, sJ (v7.toInt64), sW, sU, sU, sU, sU, sU, sU, sU, sU, sU, sU, sU]) rfl ?_
          show own_S p e below s₁ m 53 #[sJ q1, sW, sJ q2, sW, sI p3, sI p4, sI p5, sI v7, sJ v8, sW, sI v10, sJ (v7.toInt64), sW, sU, sU, sU, sU, sU, sU, sU, sU, sU, sU, sU] [] _
          refine XS.goto X0.here hx rfl (pc0 := 53) (pc' := 88) rfl (hb hby at_53) (by decide) (by decide) ?_
          exact k)
        exact ⟨_, _, (v7.toInt64), X0, e0, N0, own_wide _ b7, pre17⟩
      · have pre18 : ∀ t, own_S p e below s₁ m 59 #[sJ q1, sW, sJ q2, sW, sI p3, sI p4, sI p5, sI v7, sJ v8, sW, sI v10, sU, sU, sU, sU, sU, sU, sU, sU, sU, sU, sU, sU, sU] [(.int 2), (.int v10)] t → R0 t := fun t k => pre16 t (by
          refine XS.icmpYes X0.here hx rfl (pc0 := 45) (pc' := 56) rfl (hb hby at_45) rfl (feq hc45).2 (by decide) (by decide) ?_
          show own_S p e below s₁ m 56 #[sJ q1, sW, sJ q2, sW, sI p3, sI p4, sI p5, sI v7, sJ v8, sW, sI v10, sU, sU, sU, sU, sU, sU, sU, sU, sU, sU, sU, sU, sU] [] _
          refine XS.iload X0.here hx rfl (hb hby at_56) rfl ?_
          show own_S p e below s₁ m 58 #[sJ q1, sW, sJ q2, sW, sI p3, sI p4, sI p5, sI v7, sJ v8, sW, sI v10, sU, sU, sU, sU, sU, sU, sU, sU, sU, sU, sU, sU, sU] [(.int v10)] _
          refine XS.iconst X0.here hx rfl (hb hby at_58) ?_
          exact k)
        by_cases hc59 : v10 = (2 : Int32)
        · have pre19 : ∀ t, own_S p e below s₁ m 68 #[sJ q1, sW, sJ q2, sW, sI p3, sI p4, sI p5, sI v7, sJ v8, sW, sI v10, sU, sU, sU, sU, sU, sU, sU, sU, sU, sU, sU, sU, sU] [(.int 999999999), (.int (v7 + (1 : Int32)))] t → R0 t := fun t k => pre18 t (by
            refine XS.icmpNo X0.here hx rfl (hb hby at_59) rfl (teq hc59).2 ?_
            show own_S p e below s₁ m 62 #[sJ q1, sW, sJ q2, sW, sI p3, sI p4, sI p5, sI v7, sJ v8, sW, sI v10, sU, sU, sU, sU, sU, sU, sU, sU, sU, sU, sU, sU, sU] [] _
            refine XS.iload X0.here hx rfl (hb hby at_62) rfl ?_
            show own_S p e below s₁ m 64 #[sJ q1, sW, sJ q2, sW, sI p3, sI p4, sI p5, sI v7, sJ v8, sW, sI v10, sU, sU, sU, sU, sU, sU, sU, sU, sU, sU, sU, sU, sU] [(.int v7)] _
            refine XS.iconst X0.here hx rfl (hb hby at_64) ?_
            show own_S p e below s₁ m 65 #[sJ q1, sW, sJ q2, sW, sI p3, sI p4, sI p5, sI v7, sJ v8, sW, sI v10, sU, sU, sU, sU, sU, sU, sU, sU, sU, sU, sU, sU, sU] [(.int 1), (.int v7)] _
            refine XS.iadd X0.here hx rfl (hb hby at_65) rfl ?_
            show own_S p e below s₁ m 66 #[sJ q1, sW, sJ q2, sW, sI p3, sI p4, sI p5, sI v7, sJ v8, sW, sI v10, sU, sU, sU, sU, sU, sU, sU, sU, sU, sU, sU, sU, sU] [(.int (v7 + (1 : Int32)))] _
            refine X0.ldcInt hx hown (mvT hZ hw14) (g := (mkF m 66 #[sJ q1, sW, sJ q2, sW, sI p3, sI p4, sI p5, sI v7, sJ v8, sW, sI v10, sU, sU, sU, sU, sU, sU, sU, sU, sU, sU, sU, sU, sU] [(.int (v7 + (1 : Int32)))])) rfl (hb hby at_66) _ ?_
            exact k)
          obtain ⟨_, _, ⟨T20, L20, k20, n20⟩, -, X20, ⟨Lc20, hQ20, l20, y20, z20⟩, st20⟩ := Jvm.LawKit.callS X0 hx (y := own_y1) hown (mvT hZ hw15) (mvT hZ hw16) (mvT hZ hw12) (mvT hZ hw17) (by decide) (backOf (W := 0) (own_rm3 l Z a0 hw [] (v7 + (1 : Int32)) (999999999 : Int32) h0 n0 Z0 ) hZ hw17 hw12 (by decide) (by decide)) (g := (mkF m 68 #[sJ q1, sW, sJ q2, sW, sI p3, sI p4, sI p5, sI v7, sJ v8, sW, sI v10, sU, sU, sU, sU, sU, sU, sU, sU, sU, sU, sU, sU, sU] [(.int 999999999), (.int (v7 + (1 : Int32)))])) rfl (by rw [hml]; rfl) (argsL := [(.int (v7 + (1 : Int32))), (.int 999999999)]) (rest := []) (lenOf own_pd_0 rfl) rfl (by show 2 * 0 + _ ≤ _; exact Nat.le_of_eq rfl) (hb hby at_68) (fun _ _ => ⟨rfl, e0, (by decide : 0 + 0 ≤ _), (by decide : 0 + 0 ≤ _)⟩)
          dsimp only [Pt.U, Pt.locs, Pt.cells, Pt.slots] at X20 l20 y20 z20 st20 hQ20
          subst l20 y20 z20
          obtain ⟨rfl, N20q, eh20⟩ := hQ20
          have N20 := Fr.app N0 N20q
          have pre21 : ∀ t, own_S p e below T20 m 88 #[sJ q1, sW, sJ q2, sW, sI p3, sI p4, sI p5, sI v7, sJ v8, sW, sI v10, sJ ((if (999999999 : Int32) < (v7 + (1 : Int32)) then (999999999 : Int32) else (v7 + (1 : Int32))).toInt64), sW, sU, sU, sU, sU, sU, sU, sU, sU, sU, sU, sU] [] t → R0 t := fun t k => pre19 t (by
            refine st20 _ ?_
            show own_S p e below T20 m 71 #[sJ q1, sW, sJ q2, sW, sI p3, sI p4, sI p5, sI v7, sJ v8, sW, sI v10, sU, sU, sU, sU, sU, sU, sU, sU, sU, sU, sU, sU, sU] [(.int (if (999999999 : Int32) < (v7 + (1 : Int32)) then (999999999 : Int32) else (v7 + (1 : Int32))))] _
            refine XS.i2l X20.here hx rfl (hb hby at_71) rfl ?_
            show own_S p e below T20 m 72 #[sJ q1, sW, sJ q2, sW, sI p3, sI p4, sI p5, sI v7, sJ v8, sW, sI v10, sU, sU, sU, sU, sU, sU, sU, sU, sU, sU, sU, sU, sU] [(.long ((if (999999999 : Int32) < (v7 + (1 : Int32)) then (999999999 : Int32) else (v7 + (1 : Int32))).toInt64))] _
            refine XS.lstore X20.here hx rfl (hb hby at_72) rfl (l' := #[sJ q1, sW, sJ q2, sW, sI p3, sI p4, sI p5, sI v7, sJ v8, sW, sI v10, sJ ((if (999999999 : Int32) < (v7 + (1 : Int32)) then (999999999 : Int32) else (v7 + (1 : Int32))).toInt64), sW, sU, sU, sU, sU, sU, sU, sU, sU, sU, sU, sU]) rfl ?_
            show own_S p e below T20 m 74 #[sJ q1, sW, sJ q2, sW, sI p3, sI p4, sI p5, sI v7, sJ v8, sW, sI v10, sJ ((if (999999999 : Int32) < (v7 + (1 : Int32)) then (999999999 : Int32) else (v7 + (1 : Int32))).toInt64), sW, sU, sU, sU, sU, sU, sU, sU, sU, sU, sU, sU] [] _
            refine XS.goto X20.here hx rfl (pc0 := 74) (pc' := 88) rfl (hb hby at_74) (by decide) (by decide) ?_
            exact k)
          exact ⟨_, _, ((if (999999999 : Int32) < (v7 + (1 : Int32)) then (999999999 : Int32) else (v7 + (1 : Int32))).toInt64), X20, eh20, N20, own_wide _ (own_minB v7 b7.1 b7.2), pre21⟩
        · have pre22 : ∀ t, own_S p e below s₁ m 82 #[sJ q1, sW, sJ q2, sW, sI p3, sI p4, sI p5, sI v7, sJ v8, sW, sI v10, sU, sU, sU, sU, sU, sU, sU, sU, sU, sU, sU, sU, sU] [(.int 0), (.int (v7 - (1 : Int32)))] t → R0 t := fun t k => pre18 t (by
            refine XS.icmpYes X0.here hx rfl (pc0 := 59) (pc' := 77) rfl (hb hby at_59) rfl (feq hc59).2 (by decide) (by decide) ?_
            show own_S p e below s₁ m 77 #[sJ q1, sW, sJ q2, sW, sI p3, sI p4, sI p5, sI v7, sJ v8, sW, sI v10, sU, sU, sU, sU, sU, sU, sU, sU, sU, sU, sU, sU, sU] [] _
            refine XS.iload X0.here hx rfl (hb hby at_77) rfl ?_
            show own_S p e below s₁ m 79 #[sJ q1, sW, sJ q2, sW, sI p3, sI p4, sI p5, sI v7, sJ v8, sW, sI v10, sU, sU, sU, sU, sU, sU, sU, sU, sU, sU, sU, sU, sU] [(.int v7)] _
            refine XS.iconst X0.here hx rfl (hb hby at_79) ?_
            show own_S p e below s₁ m 80 #[sJ q1, sW, sJ q2, sW, sI p3, sI p4, sI p5, sI v7, sJ v8, sW, sI v10, sU, sU, sU, sU, sU, sU, sU, sU, sU, sU, sU, sU, sU] [(.int 1), (.int v7)] _
            refine XS.isub X0.here hx rfl (hb hby at_80) rfl ?_
            show own_S p e below s₁ m 81 #[sJ q1, sW, sJ q2, sW, sI p3, sI p4, sI p5, sI v7, sJ v8, sW, sI v10, sU, sU, sU, sU, sU, sU, sU, sU, sU, sU, sU, sU, sU] [(.int (v7 - (1 : Int32)))] _
            refine XS.iconst X0.here hx rfl (hb hby at_81) ?_
            exact k)
          obtain ⟨_, _, ⟨T23, L23, k23, n23⟩, -, X23, ⟨Lc23, hQ23, l23, y23, z23⟩, st23⟩ := Jvm.LawKit.callS X0 hx (y := own_y0) hown (mvT hZ hw10) (mvT hZ hw11) (mvT hZ hw12) (mvT hZ hw13) (by decide) (backOf (W := 0) (own_rm2 l Z a0 hw [] (v7 - (1 : Int32)) (0 : Int32) h0 n0 Z0 ) hZ hw13 hw12 (by decide) (by decide)) (g := (mkF m 82 #[sJ q1, sW, sJ q2, sW, sI p3, sI p4, sI p5, sI v7, sJ v8, sW, sI v10, sU, sU, sU, sU, sU, sU, sU, sU, sU, sU, sU, sU, sU] [(.int 0), (.int (v7 - (1 : Int32)))])) rfl (by rw [hml]; rfl) (argsL := [(.int (v7 - (1 : Int32))), (.int 0)]) (rest := []) (lenOf own_pd_0 rfl) rfl (by show 2 * 0 + _ ≤ _; exact Nat.le_of_eq rfl) (hb hby at_82) (fun _ _ => ⟨rfl, e0, (by decide : 0 + 0 ≤ _), (by decide : 0 + 0 ≤ _)⟩)
          dsimp only [Pt.U, Pt.locs, Pt.cells, Pt.slots] at X23 l23 y23 z23 st23 hQ23
          subst l23 y23 z23
          obtain ⟨rfl, N23q, eh23⟩ := hQ23
          have N23 := Fr.app N0 N23q
          have pre24 : ∀ t, own_S p e below T23 m 88 #[sJ q1, sW, sJ q2, sW, sI p3, sI p4, sI p5, sI v7, sJ v8, sW, sI v10, sJ ((if (v7 - (1 : Int32)) < (0 : Int32) then (0 : Int32) else (v7 - (1 : Int32))).toInt64), sW, sU, sU, sU, sU, sU, sU, sU, sU, sU, sU, sU] [] t → R0 t := fun t k => pre22 t (by
            refine st23 _ ?_
            show own_S p e below T23 m 85 #[sJ q1, sW, sJ q2, sW, sI p3, sI p4, sI p5, sI v7, sJ v8, sW, sI v10, sU, sU, sU, sU, sU, sU, sU, sU, sU, sU, sU, sU, sU] [(.int (if (v7 - (1 : Int32)) < (0 : Int32) then (0 : Int32) else (v7 - (1 : Int32))))] _
            refine XS.i2l X23.here hx rfl (hb hby at_85) rfl ?_
            show own_S p e below T23 m 86 #[sJ q1, sW, sJ q2, sW, sI p3, sI p4, sI p5, sI v7, sJ v8, sW, sI v10, sU, sU, sU, sU, sU, sU, sU, sU, sU, sU, sU, sU, sU] [(.long ((if (v7 - (1 : Int32)) < (0 : Int32) then (0 : Int32) else (v7 - (1 : Int32))).toInt64))] _
            refine XS.lstore X23.here hx rfl (hb hby at_86) rfl (l' := #[sJ q1, sW, sJ q2, sW, sI p3, sI p4, sI p5, sI v7, sJ v8, sW, sI v10, sJ ((if (v7 - (1 : Int32)) < (0 : Int32) then (0 : Int32) else (v7 - (1 : Int32))).toInt64), sW, sU, sU, sU, sU, sU, sU, sU, sU, sU, sU, sU]) rfl ?_
            exact k)
          exact ⟨_, _, ((if (v7 - (1 : Int32)) < (0 : Int32) then (0 : Int32) else (v7 - (1 : Int32))).toInt64), X23, eh23, N23, own_wide _ (own_maxB v7 b7.1 b7.2), pre24⟩
  have b11 := P13
  have pre25 : ∀ t, own_S p e below T8 m 94 #[sJ q1, sW, sJ q2, sW, sI p3, sI p4, sI p5, sI v7, sJ v8, sW, sI v10, sJ jn11, sW, sU, sU, sU, sU, sU, sU, sU, sU, sU, sU, sU] [(.int ((p5 >>> ((2 : Int32) &&& 31)) &&& (3 : Int32)))] t → R0 t := fun t k => pre14 t (by
    refine XS.iload X10.here hx rfl (hb hby at_88) rfl ?_
    show own_S p e below T8 m 90 #[sJ q1, sW, sJ q2, sW, sI p3, sI p4, sI p5, sI v7, sJ v8, sW, sI v10, sJ jn11, sW, sU, sU, sU, sU, sU, sU, sU, sU, sU, sU, sU] [(.int p5)] _
    refine XS.iconst X10.here hx rfl (hb hby at_90) ?_
    show own_S p e below T8 m 91 #[sJ q1, sW, sJ q2, sW, sI p3, sI p4, sI p5, sI v7, sJ v8, sW, sI v10, sJ jn11, sW, sU, sU, sU, sU, sU, sU, sU, sU, sU, sU, sU] [(.int 2), (.int p5)] _
    refine XS.ishr X10.here hx rfl (hb hby at_91) rfl ?_
    show own_S p e below T8 m 92 #[sJ q1, sW, sJ q2, sW, sI p3, sI p4, sI p5, sI v7, sJ v8, sW, sI v10, sJ jn11, sW, sU, sU, sU, sU, sU, sU, sU, sU, sU, sU, sU] [(.int (p5 >>> ((2 : Int32) &&& 31)))] _
    refine XS.iconst X10.here hx rfl (hb hby at_92) ?_
    show own_S p e below T8 m 93 #[sJ q1, sW, sJ q2, sW, sI p3, sI p4, sI p5, sI v7, sJ v8, sW, sI v10, sJ jn11, sW, sU, sU, sU, sU, sU, sU, sU, sU, sU, sU, sU] [(.int 3), (.int (p5 >>> ((2 : Int32) &&& 31)))] _
    refine XS.iand X10.here hx rfl (hb hby at_93) rfl ?_
    exact k)
  obtain ⟨v13, hv13⟩ : ∃ z : Int32, z = ((p5 >>> ((2 : Int32) &&& 31)) &&& (3 : Int32)) := ⟨_, rfl⟩
  have pre26 : ∀ t, own_S p e below T8 m 94 #[sJ q1, sW, sJ q2, sW, sI p3, sI p4, sI p5, sI v7, sJ v8, sW, sI v10, sJ jn11, sW, sU, sU, sU, sU, sU, sU, sU, sU, sU, sU, sU] [(.int v13)] t → R0 t := fun t k => pre25 t (by subst hv13; exact k)
  have pre27 : ∀ t, own_S p e below T8 m 98 #[sJ q1, sW, sJ q2, sW, sI p3, sI p4, sI p5, sI v7, sJ v8, sW, sI v10, sJ jn11, sW, sI v13, sU, sU, sU, sU, sU, sU, sU, sU, sU, sU] [(.int v13)] t → R0 t := fun t k => pre26 t (by
    refine XS.istore X10.here hx rfl (hb hby at_94) rfl (l' := #[sJ q1, sW, sJ q2, sW, sI p3, sI p4, sI p5, sI v7, sJ v8, sW, sI v10, sJ jn11, sW, sI v13, sU, sU, sU, sU, sU, sU, sU, sU, sU, sU]) rfl ?_
    show own_S p e below T8 m 96 #[sJ q1, sW, sJ q2, sW, sI p3, sI p4, sI p5, sI v7, sJ v8, sW, sI v10, sJ jn11, sW, sI v13, sU, sU, sU, sU, sU, sU, sU, sU, sU, sU] [] _
    refine XS.iload X10.here hx rfl (hb hby at_96) rfl ?_
    exact k)
  obtain ⟨T28, Lc29, jn14, X30, e31, N32, P33, pre34⟩ : ∃ (T28 : State) (Lc29 : List Loc) (jn14 : Int64), Stand p l e room_1 s m #[(.long q1), (.long q2), (.int p3), (.int p4), (.int p5)] below meth c T28 Lc29 0 0 ∧ T28.heap = h0 ∧ Fr n0 Lc29 ∧ (True) ∧ ∀ t, own_S p e below T28 m 144 #[sJ q1, sW, sJ q2, sW, sI p3, sI p4, sI p5, sI v7, sJ v8, sW, sI v10, sJ jn11, sW, sI v13, sJ jn14, sW, sU, sU, sU, sU, sU, sU, sU, sU] [] t → R0 t := by
    by_cases hc98 : v13 = (0 : Int32)
    · have pre35 : ∀ t, own_S p e below T8 m 144 #[sJ q1, sW, sJ q2, sW, sI p3, sI p4, sI p5, sI v7, sJ v8, sW, sI v10, sJ jn11, sW, sI v13, sJ (q1 - (q1 / (31556889864403200 : Int64)) * (31556889864403200 : Int64)), sW, sU, sU, sU, sU, sU, sU, sU, sU] [] t → R0 t := fun t k => pre27 t (by
        refine XS.ifNo X10.here hx rfl (hb hby at_98) rfl ((if0 _ _).trans (teq hc98).2) ?_
        show own_S p e below T8 m 101 #[sJ q1, sW, sJ q2, sW, sI p3, sI p4, sI p5, sI v7, sJ v8, sW, sI v10, sJ jn11, sW, sI v13, sU, sU, sU, sU, sU, sU, sU, sU, sU, sU] [] _
        refine XS.lloadN X10.here hx rfl (hb hby at_101) rfl ?_
        show own_S p e below T8 m 102 #[sJ q1, sW, sJ q2, sW, sI p3, sI p4, sI p5, sI v7, sJ v8, sW, sI v10, sJ jn11, sW, sI v13, sU, sU, sU, sU, sU, sU, sU, sU, sU, sU] [(.long q1)] _
        refine X10.ldc2Long hx hown (mvT hZ hw2) (g := (mkF m 102 #[sJ q1, sW, sJ q2, sW, sI p3, sI p4, sI p5, sI v7, sJ v8, sW, sI v10, sJ jn11, sW, sI v13, sU, sU, sU, sU, sU, sU, sU, sU, sU, sU] [(.long q1)])) rfl (hb hby at_102) _ ?_
        show own_S p e below T8 m 105 #[sJ q1, sW, sJ q2, sW, sI p3, sI p4, sI p5, sI v7, sJ v8, sW, sI v10, sJ jn11, sW, sI v13, sU, sU, sU, sU, sU, sU, sU, sU, sU, sU] [(.long 31556889864403200), (.long q1)] _
        refine XS.lrem X10.here hx rfl (hb hby at_105) rfl (by decide) ?_
        show own_S p e below T8 m 106 #[sJ q1, sW, sJ q2, sW, sI p3, sI p4, sI p5, sI v7, sJ v8, sW, sI v10, sJ jn11, sW, sI v13, sU, sU, sU, sU, sU, sU, sU, sU, sU, sU] [(.long (q1 - (q1 / (31556889864403200 : Int64)) * (31556889864403200 : Int64)))] _
        refine XS.lstore X10.here hx rfl (hb hby at_106) rfl (l' := #[sJ q1, sW, sJ q2, sW, sI p3, sI p4, sI p5, sI v7, sJ v8, sW, sI v10, sJ jn11, sW, sI v13, sJ (q1 - (q1 / (31556889864403200 : Int64)) * (31556889864403200 : Int64)), sW, sU, sU, sU, sU, sU, sU, sU, sU]) rfl ?_
        show own_S p e below T8 m 108 #[sJ q1, sW, sJ q2, sW, sI p3, sI p4, sI p5, sI v7, sJ v8, sW, sI v10, sJ jn11, sW, sI v13, sJ (q1 - (q1 / (31556889864403200 : Int64)) * (31556889864403200 : Int64)), sW, sU, sU, sU, sU, sU, sU, sU, sU] [] _
        refine XS.goto X10.here hx rfl (pc0 := 108) (pc' := 144) rfl (hb hby at_108) (by decide) (by decide) ?_
        exact k)
      exact ⟨_, _, (q1 - (q1 / (31556889864403200 : Int64)) * (31556889864403200 : Int64)), X10, e11, N12, trivial, pre35⟩
    · have pre36 : ∀ t, own_S p e below T8 m 114 #[sJ q1, sW, sJ q2, sW, sI p3, sI p4, sI p5, sI v7, sJ v8, sW, sI v10, sJ jn11, sW, sI v13, sU, sU, sU, sU, sU, sU, sU, sU, sU, sU] [(.int 1), (.int v13)] t → R0 t := fun t k => pre27 t (by
        refine XS.ifYes X10.here hx rfl (pc0 := 98) (pc' := 111) rfl (hb hby at_98) rfl ((if0 _ _).trans (feq hc98).2) (by decide) (by decide) ?_
        show own_S p e below T8 m 111 #[sJ q1, sW, sJ q2, sW, sI p3, sI p4, sI p5, sI v7, sJ v8, sW, sI v10, sJ jn11, sW, sI v13, sU, sU, sU, sU, sU, sU, sU, sU, sU, sU] [] _
        refine XS.iload X10.here hx rfl (hb hby at_111) rfl ?_
        show own_S p e below T8 m 113 #[sJ q1, sW, sJ q2, sW, sI p3, sI p4, sI p5, sI v7, sJ v8, sW, sI v10, sJ jn11, sW, sI v13, sU, sU, sU, sU, sU, sU, sU, sU, sU, sU] [(.int v13)] _
        refine XS.iconst X10.here hx rfl (hb hby at_113) ?_
        exact k)
      by_cases hc114 : v13 = (1 : Int32)
      · have pre37 : ∀ t, own_S p e below T8 m 144 #[sJ q1, sW, sJ q2, sW, sI p3, sI p4, sI p5, sI v7, sJ v8, sW, sI v10, sJ jn11, sW, sI v13, sJ (-31557014167219201), sW, sU, sU, sU, sU, sU, sU, sU, sU] [] t → R0 t := fun t k => pre36 t (by
          refine XS.icmpNo X10.here hx rfl (hb hby at_114) rfl (teq hc114).2 ?_
          show own_S p e below T8 m 117 #[sJ q1, sW, sJ q2, sW, sI p3, sI p4, sI p5, sI v7, sJ v8, sW, sI v10, sJ jn11, sW, sI v13, sU, sU, sU, sU, sU, sU, sU, sU, sU, sU] [] _
          refine X10.ldc2Long hx hown (mvT hZ hw18) (g := (mkF m 117 #[sJ q1, sW, sJ q2, sW, sI p3, sI p4, sI p5, sI v7, sJ v8, sW, sI v10, sJ jn11, sW, sI v13, sU, sU, sU, sU, sU, sU, sU, sU, sU, sU] [])) rfl (hb hby at_117) _ ?_
          show own_S p e below T8 m 120 #[sJ q1, sW, sJ q2, sW, sI p3, sI p4, sI p5, sI v7, sJ v8, sW, sI v10, sJ jn11, sW, sI v13, sU, sU, sU, sU, sU, sU, sU, sU, sU, sU] [(.long (-31557014167219201))] _
          refine XS.lstore X10.here hx rfl (hb hby at_120) rfl (l' := #[sJ q1, sW, sJ q2, sW, sI p3, sI p4, sI p5, sI v7, sJ v8, sW, sI v10, sJ jn11, sW, sI v13, sJ (-31557014167219201), sW, sU, sU, sU, sU, sU, sU, sU, sU]) rfl ?_
          show own_S p e below T8 m 122 #[sJ q1, sW, sJ q2, sW, sI p3, sI p4, sI p5, sI v7, sJ v8, sW, sI v10, sJ jn11, sW, sI v13, sJ (-31557014167219201), sW, sU, sU, sU, sU, sU, sU, sU, sU] [] _
          refine XS.goto X10.here hx rfl (pc0 := 122) (pc' := 144) rfl (hb hby at_122) (by decide) (by decide) ?_
          exact k)
        exact ⟨_, _, (-31557014167219201 : Int64), X10, e11, N12, trivial, pre37⟩
      · have pre38 : ∀ t, own_S p e below T8 m 128 #[sJ q1, sW, sJ q2, sW, sI p3, sI p4, sI p5, sI v7, sJ v8, sW, sI v10, sJ jn11, sW, sI v13, sU, sU, sU, sU, sU, sU, sU, sU, sU, sU] [(.int 2), (.int v13)] t → R0 t := fun t k => pre36 t (by
          refine XS.icmpYes X10.here hx rfl (pc0 := 114) (pc' := 125) rfl (hb hby at_114) rfl (feq hc114).2 (by decide) (by decide) ?_
          show own_S p e below T8 m 125 #[sJ q1, sW, sJ q2, sW, sI p3, sI p4, sI p5, sI v7, sJ v8, sW, sI v10, sJ jn11, sW, sI v13, sU, sU, sU, sU, sU, sU, sU, sU, sU, sU] [] _
          refine XS.iload X10.here hx rfl (hb hby at_125) rfl ?_
          show own_S p e below T8 m 127 #[sJ q1, sW, sJ q2, sW, sI p3, sI p4, sI p5, sI v7, sJ v8, sW, sI v10, sJ jn11, sW, sI v13, sU, sU, sU, sU, sU, sU, sU, sU, sU, sU] [(.int v13)] _
          refine XS.iconst X10.here hx rfl (hb hby at_127) ?_
          exact k)
        by_cases hc128 : v13 = (2 : Int32)
        · have pre39 : ∀ t, own_S p e below T8 m 144 #[sJ q1, sW, sJ q2, sW, sI p3, sI p4, sI p5, sI v7, sJ v8, sW, sI v10, sJ jn11, sW, sI v13, sJ v8, sW, sU, sU, sU, sU, sU, sU, sU, sU] [] t → R0 t := fun t k => pre38 t (by
            refine XS.icmpNo X10.here hx rfl (hb hby at_128) rfl (teq hc128).2 ?_
            show own_S p e below T8 m 131 #[sJ q1, sW, sJ q2, sW, sI p3, sI p4, sI p5, sI v7, sJ v8, sW, sI v10, sJ jn11, sW, sI v13, sU, sU, sU, sU, sU, sU, sU, sU, sU, sU] [] _
            refine XS.lload X10.here hx rfl (hb hby at_131) rfl ?_
            show own_S p e below T8 m 133 #[sJ q1, sW, sJ q2, sW, sI p3, sI p4, sI p5, sI v7, sJ v8, sW, sI v10, sJ jn11, sW, sI v13, sU, sU, sU, sU, sU, sU, sU, sU, sU, sU] [(.long v8)] _
            refine XS.lstore X10.here hx rfl (hb hby at_133) rfl (l' := #[sJ q1, sW, sJ q2, sW, sI p3, sI p4, sI p5, sI v7, sJ v8, sW, sI v10, sJ jn11, sW, sI v13, sJ v8, sW, sU, sU, sU, sU, sU, sU, sU, sU]) rfl ?_
            show own_S p e below T8 m 135 #[sJ q1, sW, sJ q2, sW, sI p3, sI p4, sI p5, sI v7, sJ v8, sW, sI v10, sJ jn11, sW, sI v13, sJ v8, sW, sU, sU, sU, sU, sU, sU, sU, sU] [] _
            refine XS.goto X10.here hx rfl (pc0 := 135) (pc' := 144) rfl (hb hby at_135) (by decide) (by decide) ?_
            exact k)
          exact ⟨_, _, v8, X10, e11, N12, trivial, pre39⟩
        · have pre40 : ∀ t, own_S p e below T8 m 144 #[sJ q1, sW, sJ q2, sW, sI p3, sI p4, sI p5, sI v7, sJ v8, sW, sI v10, sJ jn11, sW, sI v13, sJ (v8 - (1 : Int64)), sW, sU, sU, sU, sU, sU, sU, sU, sU] [] t → R0 t := fun t k => pre38 t (by
            refine XS.icmpYes X10.here hx rfl (pc0 := 128) (pc' := 138) rfl (hb hby at_128) rfl (feq hc128).2 (by decide) (by decide) ?_
            show own_S p e below T8 m 138 #[sJ q1, sW, sJ q2, sW, sI p3, sI p4, sI p5, sI v7, sJ v8, sW, sI v10, sJ jn11, sW, sI v13, sU, sU, sU, sU, sU, sU, sU, sU, sU, sU] [] _
            refine XS.lload X10.here hx rfl (hb hby at_138) rfl ?_
            show own_S p e below T8 m 140 #[sJ q1, sW, sJ q2, sW, sI p3, sI p4, sI p5, sI v7, sJ v8, sW, sI v10, sJ jn11, sW, sI v13, sU, sU, sU, sU, sU, sU, sU, sU, sU, sU] [(.long v8)] _
            refine XS.lconst X10.here hx rfl (hb hby at_140) ?_
            show own_S p e below T8 m 141 #[sJ q1, sW, sJ q2, sW, sI p3, sI p4, sI p5, sI v7, sJ v8, sW, sI v10, sJ jn11, sW, sI v13, sU, sU, sU, sU, sU, sU, sU, sU, sU, sU] [(.long 1), (.long v8)] _
            refine XS.lsub X10.here hx rfl (hb hby at_141) rfl ?_
            show own_S p e below T8 m 142 #[sJ q1, sW, sJ q2, sW, sI p3, sI p4, sI p5, sI v7, sJ v8, sW, sI v10, sJ jn11, sW, sI v13, sU, sU, sU, sU, sU, sU, sU, sU, sU, sU] [(.long (v8 - (1 : Int64)))] _
            refine XS.lstore X10.here hx rfl (hb hby at_142) rfl (l' := #[sJ q1, sW, sJ q2, sW, sI p3, sI p4, sI p5, sI v7, sJ v8, sW, sI v10, sJ jn11, sW, sI v13, sJ (v8 - (1 : Int64)), sW, sU, sU, sU, sU, sU, sU, sU, sU]) rfl ?_
            exact k)
          exact ⟨_, _, (v8 - (1 : Int64)), X10, e11, N12, trivial, pre40⟩
  have pre41 : ∀ t, own_S p e below T28 m 152 #[sJ q1, sW, sJ q2, sW, sI p3, sI p4, sI p5, sI v7, sJ v8, sW, sI v10, sJ jn11, sW, sI v13, sJ jn14, sW, sU, sU, sU, sU, sU, sU, sU, sU] [(.int v7), (.long v8), (.long jn11), (.long jn14)] t → R0 t := fun t k => pre34 t (by
    refine XS.lload X30.here hx rfl (hb hby at_144) rfl ?_
    show own_S p e below T28 m 146 #[sJ q1, sW, sJ q2, sW, sI p3, sI p4, sI p5, sI v7, sJ v8, sW, sI v10, sJ jn11, sW, sI v13, sJ jn14, sW, sU, sU, sU, sU, sU, sU, sU, sU] [(.long jn14)] _
    refine XS.lload X30.here hx rfl (hb hby at_146) rfl ?_
    show own_S p e below T28 m 148 #[sJ q1, sW, sJ q2, sW, sI p3, sI p4, sI p5, sI v7, sJ v8, sW, sI v10, sJ jn11, sW, sI v13, sJ jn14, sW, sU, sU, sU, sU, sU, sU, sU, sU] [(.long jn11), (.long jn14)] _
    refine XS.lload X30.here hx rfl (hb hby at_148) rfl ?_
    show own_S p e below T28 m 150 #[sJ q1, sW, sJ q2, sW, sI p3, sI p4, sI p5, sI v7, sJ v8, sW, sI v10, sJ jn11, sW, sI v13, sJ jn14, sW, sU, sU, sU, sU, sU, sU, sU, sU] [(.long v8), (.long jn11), (.long jn14)] _
    refine XS.iload X30.here hx rfl (hb hby at_150) rfl ?_
    exact k)
  obtain ⟨_, _, ⟨T42, L42, k42, n42⟩, -, X42, ⟨Lc42, hQ42, l42, y42, z42⟩, st42⟩ := Jvm.LawKit.callS X30 hx (y := own_y2) hown (mvT hZ hw3) (mvT hZ hw4) (mvT hZ hw5) (mvT hZ hw6) (by decide) (backOf (W := 0) (own_rm1 l Z a0 hw [] jn14 jn11 v8 v7 h0 n0 Z0 ) hZ hw6 hw5 (by decide) (by decide)) (g := (mkF m 152 #[sJ q1, sW, sJ q2, sW, sI p3, sI p4, sI p5, sI v7, sJ v8, sW, sI v10, sJ jn11, sW, sI v13, sJ jn14, sW, sU, sU, sU, sU, sU, sU, sU, sU] [(.int v7), (.long v8), (.long jn11), (.long jn14)])) rfl (by rw [hml]; rfl) (argsL := [(.long jn14), (.long jn11), (.long v8), (.int v7)]) (rest := []) (lenOf own_pd_1 rfl) rfl (by show 2 * 0 + _ ≤ _; exact Nat.le_of_eq rfl) (hb hby at_152) (fun _ _ => ⟨rfl, e31, (by decide : 0 + 0 ≤ _), (by decide : 0 + 0 ≤ _)⟩)
  dsimp only [Pt.U, Pt.locs, Pt.cells, Pt.slots] at X42 l42 y42 z42 st42 hQ42
  subst l42 y42 z42
  obtain ⟨rfl, N42q, eh42⟩ := hQ42
  have N42 := Fr.app N32 N42q
  have pre43 : ∀ t, own_S p e below T42 m 155 #[sJ q1, sW, sJ q2, sW, sI p3, sI p4, sI p5, sI v7, sJ v8, sW, sI v10, sJ jn11, sW, sI v13, sJ jn14, sW, sU, sU, sU, sU, sU, sU, sU, sU] [(.long (if v7.toInt64 < jn11 then (jn14 - v8) + (1 : Int64) else (jn14 - v8)))] t → R0 t := fun t k => pre41 t (by
    refine st42 _ ?_
    exact k)
  obtain ⟨r16, hr16⟩ : ∃ z : Int64, z = (if v7.toInt64 < jn11 then (jn14 - v8) + (1 : Int64) else (jn14 - v8)) := ⟨_, rfl⟩
  have pre44 : ∀ t, own_S p e below T42 m 155 #[sJ q1, sW, sJ q2, sW, sI p3, sI p4, sI p5, sI v7, sJ v8, sW, sI v10, sJ jn11, sW, sI v13, sJ jn14, sW, sU, sU, sU, sU, sU, sU, sU, sU] [(.long r16)] t → R0 t := fun t k => pre43 t (by subst hr16; exact k)
  have pre45 : ∀ t, own_S p e below T42 m 162 #[sJ q1, sW, sJ q2, sW, sI p3, sI p4, sI p5, sI v7, sJ v8, sW, sI v10, sJ jn11, sW, sI v13, sJ jn14, sW, sJ r16, sW, sU, sU, sU, sU, sU, sU] [(.long (jn14 - v8))] t → R0 t := fun t k => pre44 t (by
    refine XS.lstore X42.here hx rfl (hb hby at_155) rfl (l' := #[sJ q1, sW, sJ q2, sW, sI p3, sI p4, sI p5, sI v7, sJ v8, sW, sI v10, sJ jn11, sW, sI v13, sJ jn14, sW, sJ r16, sW, sU, sU, sU, sU, sU, sU]) rfl ?_
    show own_S p e below T42 m 157 #[sJ q1, sW, sJ q2, sW, sI p3, sI p4, sI p5, sI v7, sJ v8, sW, sI v10, sJ jn11, sW, sI v13, sJ jn14, sW, sJ r16, sW, sU, sU, sU, sU, sU, sU] [] _
    refine XS.lload X42.here hx rfl (hb hby at_157) rfl ?_
    show own_S p e below T42 m 159 #[sJ q1, sW, sJ q2, sW, sI p3, sI p4, sI p5, sI v7, sJ v8, sW, sI v10, sJ jn11, sW, sI v13, sJ jn14, sW, sJ r16, sW, sU, sU, sU, sU, sU, sU] [(.long jn14)] _
    refine XS.lload X42.here hx rfl (hb hby at_159) rfl ?_
    show own_S p e below T42 m 161 #[sJ q1, sW, sJ q2, sW, sI p3, sI p4, sI p5, sI v7, sJ v8, sW, sI v10, sJ jn11, sW, sI v13, sJ jn14, sW, sJ r16, sW, sU, sU, sU, sU, sU, sU] [(.long v8), (.long jn14)] _
    refine XS.lsub X42.here hx rfl (hb hby at_161) rfl ?_
    exact k)
  obtain ⟨s18, hs18⟩ : ∃ z : Int64, z = (jn14 - v8) := ⟨_, rfl⟩
  have pre46 : ∀ t, own_S p e below T42 m 162 #[sJ q1, sW, sJ q2, sW, sI p3, sI p4, sI p5, sI v7, sJ v8, sW, sI v10, sJ jn11, sW, sI v13, sJ jn14, sW, sJ r16, sW, sU, sU, sU, sU, sU, sU] [(.long s18)] t → R0 t := fun t k => pre45 t (by subst hs18; exact k)
  have pre47 : ∀ t, own_S p e below T42 m 169 #[sJ q1, sW, sJ q2, sW, sI p3, sI p4, sI p5, sI v7, sJ v8, sW, sI v10, sJ jn11, sW, sI v13, sJ jn14, sW, sJ r16, sW, sJ s18, sW, sU, sU, sU, sU] [(.long (r16 - s18))] t → R0 t := fun t k => pre46 t (by
    refine XS.lstore X42.here hx rfl (hb hby at_162) rfl (l' := #[sJ q1, sW, sJ q2, sW, sI p3, sI p4, sI p5, sI v7, sJ v8, sW, sI v10, sJ jn11, sW, sI v13, sJ jn14, sW, sJ r16, sW, sJ s18, sW, sU, sU, sU, sU]) rfl ?_
    show own_S p e below T42 m 164 #[sJ q1, sW, sJ q2, sW, sI p3, sI p4, sI p5, sI v7, sJ v8, sW, sI v10, sJ jn11, sW, sI v13, sJ jn14, sW, sJ r16, sW, sJ s18, sW, sU, sU, sU, sU] [] _
    refine XS.lload X42.here hx rfl (hb hby at_164) rfl ?_
    show own_S p e below T42 m 166 #[sJ q1, sW, sJ q2, sW, sI p3, sI p4, sI p5, sI v7, sJ v8, sW, sI v10, sJ jn11, sW, sI v13, sJ jn14, sW, sJ r16, sW, sJ s18, sW, sU, sU, sU, sU] [(.long r16)] _
    refine XS.lload X42.here hx rfl (hb hby at_166) rfl ?_
    show own_S p e below T42 m 168 #[sJ q1, sW, sJ q2, sW, sI p3, sI p4, sI p5, sI v7, sJ v8, sW, sI v10, sJ jn11, sW, sI v13, sJ jn14, sW, sJ r16, sW, sJ s18, sW, sU, sU, sU, sU] [(.long s18), (.long r16)] _
    refine XS.lsub X42.here hx rfl (hb hby at_168) rfl ?_
    exact k)
  obtain ⟨jk20, hjk20⟩ : ∃ z : Int64, z = (r16 - s18) := ⟨_, rfl⟩
  have pre48 : ∀ t, own_S p e below T42 m 169 #[sJ q1, sW, sJ q2, sW, sI p3, sI p4, sI p5, sI v7, sJ v8, sW, sI v10, sJ jn11, sW, sI v13, sJ jn14, sW, sJ r16, sW, sJ s18, sW, sU, sU, sU, sU] [(.long jk20)] t → R0 t := fun t k => pre47 t (by subst hjk20; exact k)
  have hk : jk20.toInt = if v7.toInt64 < jn11 then 1 else 0 := by rw [hjk20, hr16]; exact own_k _ s18 _ hs18
  have pre49 : ∀ t, own_S p e below T42 m 177 #[sJ q1, sW, sJ q2, sW, sI p3, sI p4, sI p5, sI v7, sJ v8, sW, sI v10, sJ jn11, sW, sI v13, sJ jn14, sW, sJ r16, sW, sJ s18, sW, sJ jk20, sW, sU, sU] [(.long (jn11 - (v7.toInt64)))] t → R0 t := fun t k => pre48 t (by
    refine XS.lstore X42.here hx rfl (hb hby at_169) rfl (l' := #[sJ q1, sW, sJ q2, sW, sI p3, sI p4, sI p5, sI v7, sJ v8, sW, sI v10, sJ jn11, sW, sI v13, sJ jn14, sW, sJ r16, sW, sJ s18, sW, sJ jk20, sW, sU, sU]) rfl ?_
    show own_S p e below T42 m 171 #[sJ q1, sW, sJ q2, sW, sI p3, sI p4, sI p5, sI v7, sJ v8, sW, sI v10, sJ jn11, sW, sI v13, sJ jn14, sW, sJ r16, sW, sJ s18, sW, sJ jk20, sW, sU, sU] [] _
    refine XS.lload X42.here hx rfl (hb hby at_171) rfl ?_
    show own_S p e below T42 m 173 #[sJ q1, sW, sJ q2, sW, sI p3, sI p4, sI p5, sI v7, sJ v8, sW, sI v10, sJ jn11, sW, sI v13, sJ jn14, sW, sJ r16, sW, sJ s18, sW, sJ jk20, sW, sU, sU] [(.long jn11)] _
    refine XS.iload X42.here hx rfl (hb hby at_173) rfl ?_
    show own_S p e below T42 m 175 #[sJ q1, sW, sJ q2, sW, sI p3, sI p4, sI p5, sI v7, sJ v8, sW, sI v10, sJ jn11, sW, sI v13, sJ jn14, sW, sJ r16, sW, sJ s18, sW, sJ jk20, sW, sU, sU] [(.int v7), (.long jn11)] _
    refine XS.i2l X42.here hx rfl (hb hby at_175) rfl ?_
    show own_S p e below T42 m 176 #[sJ q1, sW, sJ q2, sW, sI p3, sI p4, sI p5, sI v7, sJ v8, sW, sI v10, sJ jn11, sW, sI v13, sJ jn14, sW, sJ r16, sW, sJ s18, sW, sJ jk20, sW, sU, sU] [(.long (v7.toInt64)), (.long jn11)] _
    refine XS.lsub X42.here hx rfl (hb hby at_176) rfl ?_
    exact k)
  obtain ⟨d22, hd22⟩ : ∃ z : Int64, z = (jn11 - (v7.toInt64)) := ⟨_, rfl⟩
  have pre50 : ∀ t, own_S p e below T42 m 177 #[sJ q1, sW, sJ q2, sW, sI p3, sI p4, sI p5, sI v7, sJ v8, sW, sI v10, sJ jn11, sW, sI v13, sJ jn14, sW, sJ r16, sW, sJ s18, sW, sJ jk20, sW, sU, sU] [(.long d22)] t → R0 t := fun t k => pre49 t (by subst hd22; exact k)
  have hd : d22.toInt = jn11.toInt - v7.toInt := by rw [hd22, own_subE jn11 v7.toInt64 (by rw [c_i2l]; omega) (by rw [c_i2l]; omega), c_i2l]
  have hfin := own_end jk20 d22 _ _ hk hd (by
    by_cases q : v7.toInt64 < jn11
    · rw [if_pos q]; rw [Int64.lt_iff_toInt_lt, c_i2l] at q; omega
    · rw [if_neg q]; rw [Int64.lt_iff_toInt_lt, c_i2l] at q; omega)
  have pre51 : ∀ t, own_S p e below T42 m 185 #[sJ q1, sW, sJ q2, sW, sI p3, sI p4, sI p5, sI v7, sJ v8, sW, sI v10, sJ jn11, sW, sI v13, sJ jn14, sW, sJ r16, sW, sJ s18, sW, sJ jk20, sW, sJ d22, sW] [(.int (lcmpW jk20 (-1 : Int64)))] t → R0 t := fun t k => pre50 t (by
    refine XS.lstore X42.here hx rfl (hb hby at_177) rfl (l' := #[sJ q1, sW, sJ q2, sW, sI p3, sI p4, sI p5, sI v7, sJ v8, sW, sI v10, sJ jn11, sW, sI v13, sJ jn14, sW, sJ r16, sW, sJ s18, sW, sJ jk20, sW, sJ d22, sW]) rfl ?_
    show own_S p e below T42 m 179 #[sJ q1, sW, sJ q2, sW, sI p3, sI p4, sI p5, sI v7, sJ v8, sW, sI v10, sJ jn11, sW, sI v13, sJ jn14, sW, sJ r16, sW, sJ s18, sW, sJ jk20, sW, sJ d22, sW] [] _
    refine XS.lload X42.here hx rfl (hb hby at_179) rfl ?_
    show own_S p e below T42 m 181 #[sJ q1, sW, sJ q2, sW, sI p3, sI p4, sI p5, sI v7, sJ v8, sW, sI v10, sJ jn11, sW, sI v13, sJ jn14, sW, sJ r16, sW, sJ s18, sW, sJ jk20, sW, sJ d22, sW] [(.long jk20)] _
    refine X42.ldc2Long hx hown (mvT hZ hw7) (g := (mkF m 181 #[sJ q1, sW, sJ q2, sW, sI p3, sI p4, sI p5, sI v7, sJ v8, sW, sI v10, sJ jn11, sW, sI v13, sJ jn14, sW, sJ r16, sW, sJ s18, sW, sJ jk20, sW, sJ d22, sW] [(.long jk20)])) rfl (hb hby at_181) _ ?_
    show own_S p e below T42 m 184 #[sJ q1, sW, sJ q2, sW, sI p3, sI p4, sI p5, sI v7, sJ v8, sW, sI v10, sJ jn11, sW, sI v13, sJ jn14, sW, sJ r16, sW, sJ s18, sW, sJ jk20, sW, sJ d22, sW] [(.long (-1)), (.long jk20)] _
    refine XS.lcmp X42.here hx rfl (hb hby at_184) rfl ?_
    exact k)
  have hc52 : ¬ (jk20 < (-1 : Int64)) := hfin.1
  have pre53 : ∀ t, own_S p e below T42 m 194 #[sJ q1, sW, sJ q2, sW, sI p3, sI p4, sI p5, sI v7, sJ v8, sW, sI v10, sJ jn11, sW, sI v13, sJ jn14, sW, sJ r16, sW, sJ s18, sW, sJ jk20, sW, sJ d22, sW] [(.int (lcmpW jk20 (2 : Int64)))] t → R0 t := fun t k => pre51 t (by
    refine XS.ifNo X42.here hx rfl (hb hby at_185) rfl ((if0 _ _).trans (flt (mt (lw_lt _ _).mp hc52)).1) ?_
    show own_S p e below T42 m 188 #[sJ q1, sW, sJ q2, sW, sI p3, sI p4, sI p5, sI v7, sJ v8, sW, sI v10, sJ jn11, sW, sI v13, sJ jn14, sW, sJ r16, sW, sJ s18, sW, sJ jk20, sW, sJ d22, sW] [] _
    refine XS.lload X42.here hx rfl (hb hby at_188) rfl ?_
    show own_S p e below T42 m 190 #[sJ q1, sW, sJ q2, sW, sI p3, sI p4, sI p5, sI v7, sJ v8, sW, sI v10, sJ jn11, sW, sI v13, sJ jn14, sW, sJ r16, sW, sJ s18, sW, sJ jk20, sW, sJ d22, sW] [(.long jk20)] _
    refine X42.ldc2Long hx hown (mvT hZ hw8) (g := (mkF m 190 #[sJ q1, sW, sJ q2, sW, sI p3, sI p4, sI p5, sI v7, sJ v8, sW, sI v10, sJ jn11, sW, sI v13, sJ jn14, sW, sJ r16, sW, sJ s18, sW, sJ jk20, sW, sJ d22, sW] [(.long jk20)])) rfl (hb hby at_190) _ ?_
    show own_S p e below T42 m 193 #[sJ q1, sW, sJ q2, sW, sI p3, sI p4, sI p5, sI v7, sJ v8, sW, sI v10, sJ jn11, sW, sI v13, sJ jn14, sW, sJ r16, sW, sJ s18, sW, sJ jk20, sW, sJ d22, sW] [(.long 2), (.long jk20)] _
    refine XS.lcmp X42.here hx rfl (hb hby at_193) rfl ?_
    exact k)
  have hc54 : ¬ ((2 : Int64) < jk20) := hfin.2.1
  have pre55 : ∀ t, own_S p e below T42 m 208 #[sJ q1, sW, sJ q2, sW, sI p3, sI p4, sI p5, sI v7, sJ v8, sW, sI v10, sJ jn11, sW, sI v13, sJ jn14, sW, sJ r16, sW, sJ s18, sW, sJ jk20, sW, sJ d22, sW] [(.int (lcmpW ((jk20 - (1 : Int64)) * (1000000000 : Int64)) d22))] t → R0 t := fun t k => pre53 t (by
    refine XS.ifNo X42.here hx rfl (hb hby at_194) rfl ((if0 _ _).trans (flt (mt (lw_gt _ _).mp hc54)).2.2.1) ?_
    show own_S p e below T42 m 197 #[sJ q1, sW, sJ q2, sW, sI p3, sI p4, sI p5, sI v7, sJ v8, sW, sI v10, sJ jn11, sW, sI v13, sJ jn14, sW, sJ r16, sW, sJ s18, sW, sJ jk20, sW, sJ d22, sW] [] _
    refine XS.lload X42.here hx rfl (hb hby at_197) rfl ?_
    show own_S p e below T42 m 199 #[sJ q1, sW, sJ q2, sW, sI p3, sI p4, sI p5, sI v7, sJ v8, sW, sI v10, sJ jn11, sW, sI v13, sJ jn14, sW, sJ r16, sW, sJ s18, sW, sJ jk20, sW, sJ d22, sW] [(.long jk20)] _
    refine XS.lconst X42.here hx rfl (hb hby at_199) ?_
    show own_S p e below T42 m 200 #[sJ q1, sW, sJ q2, sW, sI p3, sI p4, sI p5, sI v7, sJ v8, sW, sI v10, sJ jn11, sW, sI v13, sJ jn14, sW, sJ r16, sW, sJ s18, sW, sJ jk20, sW, sJ d22, sW] [(.long 1), (.long jk20)] _
    refine XS.lsub X42.here hx rfl (hb hby at_200) rfl ?_
    show own_S p e below T42 m 201 #[sJ q1, sW, sJ q2, sW, sI p3, sI p4, sI p5, sI v7, sJ v8, sW, sI v10, sJ jn11, sW, sI v13, sJ jn14, sW, sJ r16, sW, sJ s18, sW, sJ jk20, sW, sJ d22, sW] [(.long (jk20 - (1 : Int64)))] _
    refine X42.ldc2Long hx hown (mvT hZ hw9) (g := (mkF m 201 #[sJ q1, sW, sJ q2, sW, sI p3, sI p4, sI p5, sI v7, sJ v8, sW, sI v10, sJ jn11, sW, sI v13, sJ jn14, sW, sJ r16, sW, sJ s18, sW, sJ jk20, sW, sJ d22, sW] [(.long (jk20 - (1 : Int64)))])) rfl (hb hby at_201) _ ?_
    show own_S p e below T42 m 204 #[sJ q1, sW, sJ q2, sW, sI p3, sI p4, sI p5, sI v7, sJ v8, sW, sI v10, sJ jn11, sW, sI v13, sJ jn14, sW, sJ r16, sW, sJ s18, sW, sJ jk20, sW, sJ d22, sW] [(.long 1000000000), (.long (jk20 - (1 : Int64)))] _
    refine XS.lmul X42.here hx rfl (hb hby at_204) rfl ?_
    show own_S p e below T42 m 205 #[sJ q1, sW, sJ q2, sW, sI p3, sI p4, sI p5, sI v7, sJ v8, sW, sI v10, sJ jn11, sW, sI v13, sJ jn14, sW, sJ r16, sW, sJ s18, sW, sJ jk20, sW, sJ d22, sW] [(.long ((jk20 - (1 : Int64)) * (1000000000 : Int64)))] _
    refine XS.lload X42.here hx rfl (hb hby at_205) rfl ?_
    show own_S p e below T42 m 207 #[sJ q1, sW, sJ q2, sW, sI p3, sI p4, sI p5, sI v7, sJ v8, sW, sI v10, sJ jn11, sW, sI v13, sJ jn14, sW, sJ r16, sW, sJ s18, sW, sJ jk20, sW, sJ d22, sW] [(.long d22), (.long ((jk20 - (1 : Int64)) * (1000000000 : Int64)))] _
    refine XS.lcmp X42.here hx rfl (hb hby at_207) rfl ?_
    exact k)
  have hc56 : ((jk20 - (1 : Int64)) * (1000000000 : Int64)) < d22 := hfin.2.2.1
  have pre57 : ∀ t, own_S p e below T42 m 220 #[sJ q1, sW, sJ q2, sW, sI p3, sI p4, sI p5, sI v7, sJ v8, sW, sI v10, sJ jn11, sW, sI v13, sJ jn14, sW, sJ r16, sW, sJ s18, sW, sJ jk20, sW, sJ d22, sW] [(.int (lcmpW d22 (jk20 * (1000000000 : Int64))))] t → R0 t := fun t k => pre55 t (by
    refine XS.ifNo X42.here hx rfl (hb hby at_208) rfl ((if0 _ _).trans (tlt ((lw_lt _ _).mpr hc56)).2.1) ?_
    show own_S p e below T42 m 211 #[sJ q1, sW, sJ q2, sW, sI p3, sI p4, sI p5, sI v7, sJ v8, sW, sI v10, sJ jn11, sW, sI v13, sJ jn14, sW, sJ r16, sW, sJ s18, sW, sJ jk20, sW, sJ d22, sW] [] _
    refine XS.lload X42.here hx rfl (hb hby at_211) rfl ?_
    show own_S p e below T42 m 213 #[sJ q1, sW, sJ q2, sW, sI p3, sI p4, sI p5, sI v7, sJ v8, sW, sI v10, sJ jn11, sW, sI v13, sJ jn14, sW, sJ r16, sW, sJ s18, sW, sJ jk20, sW, sJ d22, sW] [(.long d22)] _
    refine XS.lload X42.here hx rfl (hb hby at_213) rfl ?_
    show own_S p e below T42 m 215 #[sJ q1, sW, sJ q2, sW, sI p3, sI p4, sI p5, sI v7, sJ v8, sW, sI v10, sJ jn11, sW, sI v13, sJ jn14, sW, sJ r16, sW, sJ s18, sW, sJ jk20, sW, sJ d22, sW] [(.long jk20), (.long d22)] _
    refine X42.ldc2Long hx hown (mvT hZ hw9) (g := (mkF m 215 #[sJ q1, sW, sJ q2, sW, sI p3, sI p4, sI p5, sI v7, sJ v8, sW, sI v10, sJ jn11, sW, sI v13, sJ jn14, sW, sJ r16, sW, sJ s18, sW, sJ jk20, sW, sJ d22, sW] [(.long jk20), (.long d22)])) rfl (hb hby at_215) _ ?_
    show own_S p e below T42 m 218 #[sJ q1, sW, sJ q2, sW, sI p3, sI p4, sI p5, sI v7, sJ v8, sW, sI v10, sJ jn11, sW, sI v13, sJ jn14, sW, sJ r16, sW, sJ s18, sW, sJ jk20, sW, sJ d22, sW] [(.long 1000000000), (.long jk20), (.long d22)] _
    refine XS.lmul X42.here hx rfl (hb hby at_218) rfl ?_
    show own_S p e below T42 m 219 #[sJ q1, sW, sJ q2, sW, sI p3, sI p4, sI p5, sI v7, sJ v8, sW, sI v10, sJ jn11, sW, sI v13, sJ jn14, sW, sJ r16, sW, sJ s18, sW, sJ jk20, sW, sJ d22, sW] [(.long (jk20 * (1000000000 : Int64))), (.long d22)] _
    refine XS.lcmp X42.here hx rfl (hb hby at_219) rfl ?_
    exact k)
  have hc58 : ¬ ((jk20 * (1000000000 : Int64)) < d22) := hfin.2.2.2
  have pre59 : ∀ t, own_S p e below T42 m 228 #[sJ q1, sW, sJ q2, sW, sI p3, sI p4, sI p5, sI v7, sJ v8, sW, sI v10, sJ jn11, sW, sI v13, sJ jn14, sW, sJ r16, sW, sJ s18, sW, sJ jk20, sW, sJ d22, sW] [(.int 1)] t → R0 t := fun t k => pre57 t (by
    refine XS.ifNo X42.here hx rfl (hb hby at_220) rfl ((if0 _ _).trans (flt (mt (lw_gt _ _).mp hc58)).2.2.1) ?_
    show own_S p e below T42 m 223 #[sJ q1, sW, sJ q2, sW, sI p3, sI p4, sI p5, sI v7, sJ v8, sW, sI v10, sJ jn11, sW, sI v13, sJ jn14, sW, sJ r16, sW, sJ s18, sW, sJ jk20, sW, sJ d22, sW] [] _
    refine XS.iconst X42.here hx rfl (hb hby at_223) ?_
    show own_S p e below T42 m 224 #[sJ q1, sW, sJ q2, sW, sI p3, sI p4, sI p5, sI v7, sJ v8, sW, sI v10, sJ jn11, sW, sI v13, sJ jn14, sW, sJ r16, sW, sJ s18, sW, sJ jk20, sW, sJ d22, sW] [(.int 1)] _
    refine XS.goto X42.here hx rfl (pc0 := 224) (pc' := 228) rfl (hb hby at_224) (by decide) (by decide) ?_
    exact k)
  obtain ⟨fs, hr, hrun, hended, hW, hsame⟩ := X42.leave (v := some (.int 1)) (fun h => by rw [Bd.returns] at h; cases h)
  refine ⟨_, _, cast (congrFun hR0 _) (pre59 _ (retN X42 hx (t := .boolean) Bd.returns (by simp) (hb hby at_228) hr)), hrun, hended, _, _, rfl, ?_, ⟨_, rfl⟩, hW, hsame.mono (by decide) (by decide)⟩
  show own_Q0 Z _ _ _ _ _ h0 n0 _ T42.heap _
  rw [eh42]
  exact ⟨rfl, N42⟩
set_option maxRecDepth 65536 in
set_option maxHeartbeats 40000000 in
theorem own_comes {Post : Tables → Env → Array Value → State → Outcome → State → Prop} (hpost : ∀ tb e args s v u, (limb_1_1.after args s (.returned v) u = true ∧ limb_1_2.after args s (.returned v) u = true ∧ True) → FrameEnd s (.returned v) u (Jvm.fieldLocs frame_1_writes args s ++ Jvm.arrayLocs frame_1_arrays args s ++ Jvm.staticLocs frame_1_statics s) 0 0 → Post tb e args s (.returned v) u) :
    ArmFor flags0 classFile x code maxLocals ret World_1 tables_1 room_1 Calls_1 rest_1 Pre_1 Post := by
  intro l hfl _ _ p e ha hc hk s m args below hf hA hF happ hP
  obtain ⟨hcalls, hrest, hpre⟩ := hP
  obtain ⟨-, -, -, hnamed, -, -, -, hat⟩ := (Spec.applies_iff hf).mp happ
  obtain ⟨hg, hn⟩ := and_e (Cond.before_iff.mp (show (Jvm.Cond.and given_1 narrow_1).before args s = true from hpre))
  obtain ⟨hcount, hg0⟩ := and_e hg
  obtain ⟨ha0, hg1⟩ := and_e hg0
  obtain ⟨ha1, hg2⟩ := and_e hg1
  obtain ⟨ha2, hg3⟩ := and_e hg2
  obtain ⟨ha3, hg4⟩ := and_e hg3
  have ha4 := hg4
  obtain ⟨w0, w1, w2, w3, w4, rfl⟩ : ∃ w0 w1 w2 w3 w4 : Value, args = #[w0, w1, w2, w3, w4] := by
    have hs : args.size = 5 := by simpa [Cond.value, given_1] using hcount
    obtain ⟨L⟩ := args
    match L, hs with
    | [w0, w1, w2, w3, w4], _ => exact ⟨w0, w1, w2, w3, w4, rfl⟩
  have hw := fun d (hd : d ∈ tables_1) => atoms_spec (ws := Jvm.Cond.code x code maxLocals ret :: tables_1) hat d (List.mem_cons_of_mem _ hd)
  have hfit : Fit s := fun {y c} hc i hi => by
    obtain ⟨ha, rfl⟩ := Array.getElem?_eq_some_iff.mp hc
    have q := List.all_eq_true.mp ((Array.all_eq_true_iff_forall_mem.mp hF) _ (Array.getElem_mem ha)) i (List.mem_range.mpr hi)
    simpa [Array.getElem?_eq_getElem hi] using q
  obtain ⟨i0, ei0⟩ := isL_v ha0
  obtain rfl : w0 = (.long i0) := Option.some.inj ei0
  obtain ⟨i1, ei1⟩ := isL_v ha1
  obtain rfl : w1 = (.long i1) := Option.some.inj ei1
  obtain ⟨i2, ei2⟩ := is_v ha2
  obtain rfl : w2 = (.int i2) := Option.some.inj ei2
  obtain ⟨i3, ei3⟩ := is_v ha3
  obtain rfl : w3 = (.int i3) := Option.some.inj ei3
  obtain ⟨i4, ei4⟩ := is_v ha4
  obtain rfl : w4 = (.int i4) := Option.some.inj ei4
  obtain ⟨n, o, h1, h2, h3, _, L, rfl, ⟨rfl, N⟩, hq⟩ := own_rm0 l s _ hw tables_1 i0 i1 i2 i3 i4  s.heap s.heap.size (Nat.le_refl _)  p e ha hc hk s m _ below hf ((Spec.applies_iff_loose hf).mp happ).1 ⟨rfl, State.Warmed39.refl s, rfl⟩ trivial
  refine ⟨n, _, h1, h2, h3, hpost _ _ _ _ _ _ ⟨Cond.after_iff.mpr rfl, Cond.after_iff.mpr (eq_i res_at (Term.int_eval (1)) rfl), trivial⟩ ⟨hq.1, hq.2.1, (hq.2.2.sift fun y hy => Or.inr (N y hy)).mono (by decide) (by decide)⟩⟩
theorem main_1_1 : Claimed_1_1 := own_comes fun _ _ _ _ _ _ h hF => ⟨h.1, hF⟩
theorem main_1_2 : Claimed_1_2 := own_comes fun _ _ _ _ _ _ h hF => ⟨h.2.1, hF⟩
end Jvm.Pilot.@@N@@
namespace Jvm.Pilot.@@N@@
open Jvm Jvm.ClassFile Sem Op Lib Jvm.Free Jvm.Stand Jvm.Pilot.@@N@@.Jvm.D
/-! MADE BY PROGRAM (witnessworld.py) out of the Statement's table words and the real class files: 10 classes; the members and pool entries that the words name. The judged class is class 1, her method 1. -/
namespace start1
open Jvm.ClassFile
def u (s : String) : CpInfo := .utf8 (stringToUtf16 s)
/-- a pool by its gaps: so many unusable entries, then the entry; so many at the end -/
def gap : Nat → List CpInfo → List CpInfo
  | 0, r => r
  | n + 1, r => .unusable :: gap n r
def poolList (es : List (Nat × CpInfo)) (last : Nat) : List CpInfo := es.foldr (fun e r => gap e.1 (e.2 :: r)) (gap last [])
def pool (es : List (Nat × CpInfo)) (last : Nat) : Array CpInfo := ⟨poolList es last⟩
def fileOf (pool : Array CpInfo) (this : Nat) (attrs : Array Attribute := #[]) (ms : Array MethodInfo := #[]) (fl : Nat := 33) (sup : Nat := 0) (ifs : Array Nat := #[]) (fds : Array FieldInfo := #[]) : ClassFile where
  minorVersion := 0
  majorVersion := 65
  constantPool := pool
  accessFlags := fl
  thisClass := this
  superClass := sup
  interfaces := ifs
  fields := fds
  methods := ms
  attributes := attrs
def plain (name : String) (sup : Option ClassId) : Class where
  name := name
  kind := .ordinary
  loader := none
  accessFlags := 33
  super := sup
  interfaces := #[]
  cf := none
  fields := #[]
  methods := #[]
  instanceTypes := #[]
  staticTypes := #[]
  resolved := #[]
  callSites := []
  init := .initialized
  statics := none
  mirror := none

def pool0 : Array CpInfo := pool [(5, u "<init>"), (0, u "()V"), (1, .class_ 10), (1, u "java/lang/Object")] 113

def k0m0 : Method := { name := "<init>", desc := "()V", sig := { parameters := [], returnType := none }, accessFlags := 1, code := none }
/-- java/lang/Object -/
def k0 : Class := { plain "java/lang/Object" none with
  accessFlags := 33
  interfaces := #[]
  cf := some (fileOf pool0 8 #[] #[{ accessFlags := 1, nameIndex := 5, descriptorIndex := 6, attributes := #[] }] 33 0 #[] #[])
  fields := #[]
  methods := #[k0m0]
  instanceTypes := #[]
  staticTypes := #[]
  resolved := Array.replicate 124 none
  statics := none }

def pool1 : Array CpInfo := pool [(2, .class_ 4), (1, u "java/lang/Object"), (0, u "<init>"), (0, u "()V"), (0, .integer 2147483647), (0, .class_ 9), (0, u "com/example/adlim/adlim/server/PartitionSecondsLeftPinLaw"), (0, .integer 1000000000), (0, .long 31556889864403200), (1, .integer 999999999), (0, .methodref 15 16), (0, .class_ 17), (0, .nameAndType 18 19), (0, u "java/lang/Math"), (0, u "min"), (0, u "(II)I"), (0, .methodref 15 21), (0, .nameAndType 22 19), (0, u "max"), (0, .long 18415187059542332415), (1, .methodref 26 27), (0, .class_ 28), (0, .nameAndType 29 30), (0, u "com/example/adlim/adlim/server/Partition"), (0, u "secondsLeft"), (0, u "(JJJI)J"), (0, .long 18446744073709551615), (1, .long 2), (1, .long 1000000000), (1, u "SPAN"), (0, u "J"), (1, u "NEVER"), (0, u "BILLION"), (0, u "I"), (2, u "law"), (0, u "(JJIII)Z")] 3

def k1m0 : Method := { name := "<init>", desc := "()V", sig := { parameters := [], returnType := none }, accessFlags := 1, code := none }
def k1c1 : Code := { maxStack := 7, maxLocals := 24, code := code, exceptionTable := #[], attributes := #[] }
def k1m1 : Method := { name := "law", desc := "(JJIII)Z", sig := { parameters := [.long, .long, .int, .int, .int], returnType := some .boolean }, accessFlags := 9, code := some k1c1 }
/-- com/example/adlim/adlim/server/PartitionSecondsLeftPinLaw -/
def k1 : Class := { plain "com/example/adlim/adlim/server/PartitionSecondsLeftPinLaw" (some 0) with
  accessFlags := 49
  interfaces := #[]
  cf := some (fileOf pool1 8 #[] #[{ accessFlags := 1, nameIndex := 5, descriptorIndex := 6, attributes := #[] }, { accessFlags := 9, nameIndex := 45, descriptorIndex := 46, attributes := #[] }] 49 2 #[] #[{ accessFlags := 26, nameIndex := 37, descriptorIndex := 38, attributes := #[] }, { accessFlags := 26, nameIndex := 40, descriptorIndex := 38, attributes := #[] }, { accessFlags := 26, nameIndex := 41, descriptorIndex := 42, attributes := #[] }])
  fields := #[{ name := "SPAN", type := .long, accessFlags := 26, slot := 0, constantValue := 0 }, { name := "NEVER", type := .long, accessFlags := 26, slot := 1, constantValue := 0 }, { name := "BILLION", type := .int, accessFlags := 26, slot := 2, constantValue := 0 }]
  methods := #[k1m0, k1m1]
  instanceTypes := #[]
  staticTypes := #[.long, .long, .int]
  resolved := Array.replicate 50 none
  statics := none }

def pool2 : Array CpInfo := pool [(2, .class_ 4), (1, u "java/lang/Object"), (3, .class_ 10), (1, u "com/example/adlim/adlim/server/Partition"), (0, u "key"), (0, u "Ljava/lang/String;"), (2, u "sentKey"), (0, u "J"), (8, u "partitionKey"), (5, u "windows"), (0, u "[J"), (2, u "NEVER"), (17, u "version"), (17, u "VERSION"), (0, u "Ljava/lang/invoke/VarHandle;"), (8, u "secondsLeft"), (0, u "(JJJI)J"), (2, u "lastRefusal"), (0, u "Lcom/example/adlim/adlim/server/Partition$Refusal;"), (34, u "FORGOTTEN"), (1, u "YIELD_EVERY"), (0, u "I"), (1, u "END_SECOND"), (1, u "END_NANO"), (1, u "ADMITTED"), (1, u "SLOTS"), (31, .class_ 165), (0, u "com/example/adlim/adlim/server/Partition$Refusal")] 6

def k2c0 : Code := { maxStack := 4, maxLocals := 9, code := prog_67_method_13_code, exceptionTable := #[], attributes := #[] }
def k2m0 : Method := { name := "secondsLeft", desc := "(JJJI)J", sig := { parameters := [.long, .long, .long, .int], returnType := some .long }, accessFlags := 8, code := some k2c0 }
/-- com/example/adlim/adlim/server/Partition -/
def k2 : Class := { plain "com/example/adlim/adlim/server/Partition" (some 0) with
  accessFlags := 48
  interfaces := #[]
  cf := some (fileOf pool2 8 #[.nestMembers #[164]] #[{ accessFlags := 8, nameIndex := 81, descriptorIndex := 82, attributes := #[] }] 48 2 #[] #[{ accessFlags := 26, nameIndex := 121, descriptorIndex := 16, attributes := #[] }, { accessFlags := 26, nameIndex := 35, descriptorIndex := 16, attributes := #[] }, { accessFlags := 26, nameIndex := 123, descriptorIndex := 124, attributes := #[] }, { accessFlags := 26, nameIndex := 126, descriptorIndex := 124, attributes := #[] }, { accessFlags := 26, nameIndex := 128, descriptorIndex := 124, attributes := #[] }, { accessFlags := 26, nameIndex := 130, descriptorIndex := 124, attributes := #[] }, { accessFlags := 26, nameIndex := 132, descriptorIndex := 124, attributes := #[] }, { accessFlags := 26, nameIndex := 71, descriptorIndex := 72, attributes := #[] }, { accessFlags := 18, nameIndex := 11, descriptorIndex := 12, attributes := #[] }, { accessFlags := 18, nameIndex := 15, descriptorIndex := 16, attributes := #[] }, { accessFlags := 18, nameIndex := 25, descriptorIndex := 12, attributes := #[] }, { accessFlags := 18, nameIndex := 31, descriptorIndex := 32, attributes := #[] }, { accessFlags := 66, nameIndex := 53, descriptorIndex := 16, attributes := #[] }, { accessFlags := 2, nameIndex := 85, descriptorIndex := 86, attributes := #[] }])
  fields := #[{ name := "FORGOTTEN", type := .long, accessFlags := 26, slot := 0, constantValue := 0 }, { name := "NEVER", type := .long, accessFlags := 26, slot := 1, constantValue := 0 }, { name := "YIELD_EVERY", type := .int, accessFlags := 26, slot := 2, constantValue := 0 }, { name := "END_SECOND", type := .int, accessFlags := 26, slot := 3, constantValue := 0 }, { name := "END_NANO", type := .int, accessFlags := 26, slot := 4, constantValue := 0 }, { name := "ADMITTED", type := .int, accessFlags := 26, slot := 5, constantValue := 0 }, { name := "SLOTS", type := .int, accessFlags := 26, slot := 6, constantValue := 0 }, { name := "VERSION", type := (.object "java/lang/invoke/VarHandle"), accessFlags := 26, slot := 7, constantValue := 0 }, { name := "key", type := (.object "java/lang/String"), accessFlags := 18, slot := 0, constantValue := 0 }, { name := "sentKey", type := .long, accessFlags := 18, slot := 1, constantValue := 0 }, { name := "partitionKey", type := (.object "java/lang/String"), accessFlags := 18, slot := 2, constantValue := 0 }, { name := "windows", type := (.array .long), accessFlags := 18, slot := 3, constantValue := 0 }, { name := "version", type := .long, accessFlags := 66, slot := 4, constantValue := 0 }, { name := "lastRefusal", type := (.object "com/example/adlim/adlim/server/Partition$Refusal"), accessFlags := 2, slot := 5, constantValue := 0 }]
  methods := #[k2m0]
  instanceTypes := #[(.object "java/lang/String"), .long, (.object "java/lang/String"), (.array .long), .long, (.object "com/example/adlim/adlim/server/Partition$Refusal")]
  staticTypes := #[.long, .long, .int, .int, .int, .int, .int, (.object "java/lang/invoke/VarHandle")]
  resolved := Array.replicate 172 none
  statics := none }

def pool3 : Array CpInfo := pool [(1, .class_ 2), (0, u "java/lang/Math"), (1, .class_ 6), (1, u "java/lang/Object"), (0, u "<init>"), (0, u "()V"), (89, .class_ 100), (1, u "java/lang/Math$RandomNumberGeneratorHolder"), (71, u "negativeZeroFloatBits"), (0, u "J"), (2, u "negativeZeroDoubleBits"), (21, u "max"), (2, u "min"), (43, u "$assertionsDisabled"), (0, u "Z"), (88, u "(II)I"), (2, u "twoToTheDoubleScaleDown"), (0, u "D"), (4, u "twoToTheDoubleScaleUp"), (9, u "E"), (3, u "PI"), (2, u "TAU"), (2, u "DEGREES_TO_RADIANS"), (0, u "RADIANS_TO_DEGREES")] 94

def k3m0 : Method := { name := "<init>", desc := "()V", sig := { parameters := [], returnType := none }, accessFlags := 2, code := none }
def k3c1 : Code := { maxStack := 2, maxLocals := 2, code := jdk_29_method_65_code, exceptionTable := #[], attributes := #[] }
def k3m1 : Method := { name := "max", desc := "(II)I", sig := { parameters := [.int, .int], returnType := some .int }, accessFlags := 9, code := some k3c1 }
def k3c2 : Code := { maxStack := 2, maxLocals := 2, code := jdk_29_method_69_code, exceptionTable := #[], attributes := #[] }
def k3m2 : Method := { name := "min", desc := "(II)I", sig := { parameters := [.int, .int], returnType := some .int }, accessFlags := 9, code := some k3c2 }
/-- java/lang/Math -/
def k3 : Class := { plain "java/lang/Math" (some 0) with
  accessFlags := 49
  interfaces := #[]
  cf := some (fileOf pool3 1 #[.nestMembers #[98]] #[{ accessFlags := 2, nameIndex := 7, descriptorIndex := 8, attributes := #[] }, { accessFlags := 9, nameIndex := 198, descriptorIndex := 335, attributes := #[] }, { accessFlags := 9, nameIndex := 201, descriptorIndex := 335, attributes := #[] }] 49 4 #[] #[{ accessFlags := 25, nameIndex := 354, descriptorIndex := 339, attributes := #[] }, { accessFlags := 25, nameIndex := 358, descriptorIndex := 339, attributes := #[] }, { accessFlags := 25, nameIndex := 361, descriptorIndex := 339, attributes := #[] }, { accessFlags := 26, nameIndex := 364, descriptorIndex := 339, attributes := #[] }, { accessFlags := 26, nameIndex := 365, descriptorIndex := 339, attributes := #[] }, { accessFlags := 26, nameIndex := 172, descriptorIndex := 173, attributes := #[] }, { accessFlags := 26, nameIndex := 176, descriptorIndex := 173, attributes := #[] }, { accessFlags := 8, nameIndex := 344, descriptorIndex := 339, attributes := #[] }, { accessFlags := 8, nameIndex := 338, descriptorIndex := 339, attributes := #[] }, { accessFlags := 4120, nameIndex := 245, descriptorIndex := 246, attributes := #[] }])
  fields := #[{ name := "E", type := .double, accessFlags := 25, slot := 0, constantValue := 0 }, { name := "PI", type := .double, accessFlags := 25, slot := 1, constantValue := 0 }, { name := "TAU", type := .double, accessFlags := 25, slot := 2, constantValue := 0 }, { name := "DEGREES_TO_RADIANS", type := .double, accessFlags := 26, slot := 3, constantValue := 0 }, { name := "RADIANS_TO_DEGREES", type := .double, accessFlags := 26, slot := 4, constantValue := 0 }, { name := "negativeZeroFloatBits", type := .long, accessFlags := 26, slot := 5, constantValue := 0 }, { name := "negativeZeroDoubleBits", type := .long, accessFlags := 26, slot := 6, constantValue := 0 }, { name := "twoToTheDoubleScaleUp", type := .double, accessFlags := 8, slot := 7, constantValue := 0 }, { name := "twoToTheDoubleScaleDown", type := .double, accessFlags := 8, slot := 8, constantValue := 0 }, { name := "$assertionsDisabled", type := .boolean, accessFlags := 4120, slot := 9, constantValue := 0 }]
  methods := #[k3m0, k3m1, k3m2]
  instanceTypes := #[]
  staticTypes := #[.double, .double, .double, .double, .double, .long, .long, .double, .double, .boolean]
  resolved := Array.replicate 460 none
  statics := none }

def pool4 : Array CpInfo := pool [(1, u "java/lang/Cloneable"), (0, .class_ 1), (0, u "java/lang/Object"), (0, .class_ 3)] 3

/-- java/lang/Cloneable -/
def k4 : Class := { plain "java/lang/Cloneable" (some 0) with
  accessFlags := 1537
  interfaces := #[]
  cf := some (fileOf pool4 2 #[] #[] 1537 4 #[] #[])
  fields := #[]
  methods := #[]
  instanceTypes := #[]
  staticTypes := #[]
  resolved := Array.replicate 8 none
  statics := none }

def pool5 : Array CpInfo := pool [(1, u "java/io/Serializable"), (0, .class_ 1), (0, u "java/lang/Object"), (0, .class_ 3)] 3

/-- java/io/Serializable -/
def k5 : Class := { plain "java/io/Serializable" (some 0) with
  accessFlags := 1537
  interfaces := #[]
  cf := some (fileOf pool5 2 #[] #[] 1537 4 #[] #[])
  fields := #[]
  methods := #[]
  instanceTypes := #[]
  staticTypes := #[]
  resolved := Array.replicate 8 none
  statics := none }

/-- the primitive byte -/
def k6 : Class := { plain "byte" none with kind := .primitive 'B', accessFlags := 0x411 }
/-- [B -/
def k7 : Class := { plain "[B" (some 0) with kind := .array 6 .byte, interfaces := #[4, 5], accessFlags := 1041 }

/-- the primitive int -/
def k8 : Class := { plain "int" none with kind := .primitive 'I', accessFlags := 0x411 }
/-- [I -/
def k9 : Class := { plain "[I" (some 0) with kind := .array 8 .int, interfaces := #[4, 5], accessFlags := 1041 }

def heap : Heap := #[]
def classes : Array Class := #[k0, k1, k2, k3, k4, k5, k6, k7, k8, k9]
def interned : List (Array UInt16 × Addr) := []
def slotsUsed : Nat := 0
def theMethod : MethodId := ⟨1, 1⟩
def args0 : Array Value := #[.long 5, .long 6, .int 7, .int 8, .int 9]
def aboutOver (below : List Frame) : State where
  vm := { classes := classes, interned := interned.toArray }
  heap := heap
  slotsUsed := slotsUsed
  threads := #[{ frames := .invoking theMethod args0 :: below }]
def below0 : List Frame := [.native { method := ⟨0, 0⟩, args := #[] }]
def about1 : State := aboutOver below0
def p0 : Program := .bare "" "" ""
def e0 : Env := launch0.env 0 0 0
theorem w_frames : about1.frames = Frame.invoking theMethod args0 :: below0 := rfl
set_option maxRecDepth 65536 in
theorem w_args : argsFit about1.vm theMethod args0 = true := by decide +kernel
set_option maxRecDepth 65536 in
theorem w_heap : heapFits about1 = true := by decide +kernel
set_option maxRecDepth 65536 in
theorem w_runnable : about1.curStatus? = some .runnable := by decide +kernel
set_option maxRecDepth 65536 in
theorem w_alone : about1.alone = true := by decide +kernel
set_option maxRecDepth 65536 in
theorem w_named : about1.methodNamed? x = some theMethod := by decide +kernel
set_option maxRecDepth 65536 in
theorem w_hears : about1.hears theMethod below0 = true := by decide +kernel
set_option maxRecDepth 65536 in
theorem w_ripe : about1.ripe theMethod args0 below0 = true := by decide +kernel
theorem w_running : about1.status = .running := rfl
set_option maxRecDepth 65536 in
theorem w_room : about1.hasRoom e0.platform room_1 = true :=
  launch0.hasRoom_least _ room_1 (by decide +kernel) (by decide +kernel) (by decide +kernel) (by decide +kernel) (by decide +kernel) (by decide +kernel)
theorem allAtoms_all (ts : List Jvm.Cond) (a : Array Jvm.Value) (st : Jvm.State) : (allAtoms ts).before a st = ts.all (fun c => c.before a st) := by
  induction ts with
  | nil => rfl
  | cons c t ih =>
    show (Jvm.Cond.and c (allAtoms t)).before a st = _
    rw [Jvm.Cond.before_and, ih, List.all_cons]
def words1 : List Jvm.Cond := Jvm.Cond.code x code maxLocals ret :: tables_1
/-- a 'code' word, met by the world's own term for the bytes: nothing is compared byte by byte -/
theorem code_word {y : MethodName} {bytes : ByteArray} {mx : Nat} {rt : Option FieldType} {a : Array Value} {s : State} {m : MethodId} {meth : Method} {c : Code} (h1 : s.methodNamed? y = some m) (h2 : s.vm.method? m = some meth) (h3 : meth.code = some c) (h4 : c.code = bytes)
    (h5 : (c.maxLocals == mx && c.exceptionTable.isEmpty && decide (c.maxStack ≤ mostOperands) && decide (meth.sig.returnType = rt) && !meth.locks && decide (parseMethodDescriptor y.desc = some meth.sig)) = true) : (Jvm.Cond.code y bytes mx rt).before a s = true := by
  simp only [Bool.and_eq_true, beq_iff_eq, Bool.not_eq_true', decide_eq_true_eq] at h5
  obtain ⟨⟨⟨⟨⟨g1, g2⟩, g3⟩, g4⟩, g5⟩, g6⟩ := h5
  simp [Cond.before, Cond.holds, Cond.value, h1, h2, h3, h4, g1, g2, g3, g4, g5, g6]
def isCode : Jvm.Cond → Bool
  | .code _ _ _ _ => true
  | _ => false
theorem all_split {L : List Jvm.Cond} {P : Jvm.Cond → Bool} (h1 : L.all (fun c => isCode c || P c) = true) (h2 : ∀ c ∈ L.filter isCode, P c = true) : L.all P = true := by
  refine List.all_eq_true.mpr fun c hc => ?_
  have h := List.all_eq_true.mp h1 c hc
  rcases Bool.eq_false_or_eq_true (isCode c) with hi | hi
  · exact h2 c (List.mem_filter.mpr ⟨hc, hi⟩)
  · simpa [hi] using h
set_option maxRecDepth 65536 in
theorem w_c0 : (Jvm.Cond.code x code maxLocals ret).before args0 about1 = true := code_word (m := ⟨1, 1⟩) (meth := k1m1) (c := k1c1) (by decide +kernel) rfl rfl rfl (by decide +kernel)
set_option maxRecDepth 65536 in
theorem w_c1 : (Jvm.Cond.code ({ cls := "com/example/adlim/adlim/server/Partition", name := "secondsLeft", desc := "(JJJI)J" } : Jvm.MethodName) prog_67_method_13_code (9 : Nat) (Option.some Jvm.ClassFile.FieldType.long)).before args0 about1 = true := code_word (m := ⟨2, 0⟩) (meth := k2m0) (c := k2c0) (by decide +kernel) rfl rfl rfl (by decide +kernel)
set_option maxRecDepth 65536 in
theorem w_c2 : (Jvm.Cond.code ({ cls := "java/lang/Math", name := "max", desc := "(II)I" } : Jvm.MethodName) jdk_29_method_65_code (2 : Nat) (Option.some Jvm.ClassFile.FieldType.int)).before args0 about1 = true := code_word (m := ⟨3, 1⟩) (meth := k3m1) (c := k3c1) (by decide +kernel) rfl rfl rfl (by decide +kernel)
set_option maxRecDepth 65536 in
theorem w_c3 : (Jvm.Cond.code ({ cls := "java/lang/Math", name := "min", desc := "(II)I" } : Jvm.MethodName) jdk_29_method_69_code (2 : Nat) (Option.some Jvm.ClassFile.FieldType.int)).before args0 about1 = true := code_word (m := ⟨3, 2⟩) (meth := k3m2) (c := k3c2) (by decide +kernel) rfl rfl rfl (by decide +kernel)
def codes1 : List Jvm.Cond := [Jvm.Cond.code x code maxLocals ret, Jvm.Cond.code ({ cls := "com/example/adlim/adlim/server/Partition", name := "secondsLeft", desc := "(JJJI)J" } : Jvm.MethodName) prog_67_method_13_code (9 : Nat) (Option.some Jvm.ClassFile.FieldType.long), Jvm.Cond.code ({ cls := "java/lang/Math", name := "max", desc := "(II)I" } : Jvm.MethodName) jdk_29_method_65_code (2 : Nat) (Option.some Jvm.ClassFile.FieldType.int), Jvm.Cond.code ({ cls := "java/lang/Math", name := "min", desc := "(II)I" } : Jvm.MethodName) jdk_29_method_69_code (2 : Nat) (Option.some Jvm.ClassFile.FieldType.int)]
set_option maxRecDepth 65536 in
theorem codes_eq : words1.filter isCode = codes1 := rfl
theorem w_codes : ∀ c ∈ words1.filter isCode, c.before args0 about1 = true := by
  rw [codes_eq]
  intro c hc
  simp only [codes1, List.mem_cons, List.not_mem_nil, or_false] at hc
  rcases hc with rfl | rfl | rfl | rfl
  · exact w_c0
  · exact w_c1
  · exact w_c2
  · exact w_c3
set_option maxRecDepth 65536 in
theorem w_t1 : words1.all (fun c => isCode c || c.before args0 about1) = true := by decide +kernel
theorem w_tables : (allAtoms (Jvm.Cond.code x code maxLocals ret :: tables_1)).before args0 about1 = true := by
  rw [allAtoms_all]
  show words1.all (fun c => c.before args0 about1) = true
  refine all_split ?_ w_codes
  rw [w_t1]
set_option maxRecDepth 65536 in
theorem w_case : (Jvm.Cond.and given_1 narrow_1).before args0 about1 = true := by decide +kernel
theorem w_applies : (headSpec (Jvm.Cond.code x code maxLocals ret :: tables_1) room_1).applies x e0.platform about1 = true :=
  (Spec.applies_iff w_frames).mpr ⟨w_running, w_runnable, w_alone, w_named, w_hears, w_ripe, w_room, w_tables⟩
theorem atStart : AtStart classFile x code maxLocals ret World_1 tables_1 room_1 Calls_1 rest_1 Pre_1 launch0 p0 e0 about1 theMethod args0 below0 :=
  ⟨lists_1, trivial, launch0.admits_env _ _ _, launch0.least_env, fairChoices_fair.cas, fairChoices_fair.clock, w_frames, w_args, w_heap, w_applies, trivial, trivial, w_case⟩
end start1
theorem witness_1 : WitnessClaimed_1 := ⟨start1.p0, start1.e0, start1.about1, start1.theMethod, start1.args0, start1.below0, start1.atStart⟩
end Jvm.Pilot.@@N@@
