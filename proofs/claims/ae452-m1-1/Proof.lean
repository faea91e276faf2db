import JvmDerived
import JvmDerived.Pilot.@@N@@Statement
import JvmDerived.Pilot.@@N@@Code
set_option linter.unusedVariables false
set_option linter.unusedSimpArgs false
namespace Jvm.Pilot.@@N@@
open Jvm Jvm.ClassFile Sem Op Lib Jvm.Free Jvm.Stand Jvm.LawKit Jvm.RoadKit Bundle Jvm.Pilot.@@N@@.Jvm.D
abbrev sI (x : Int32) : Slot := .val (.int x)
abbrev sJ (x : Int64) : Slot := .val (.long x)
abbrev sR (a : Addr) : Slot := .val (.ref a)
abbrev sN : Slot := .val .null
abbrev sU : Slot := .unset
abbrev sW : Slot := .second
abbrev own_S (p : Program) (e : Env) (below : List Frame) (T : State) (m : MethodId) (pc : Nat) (L : Array Slot) (S : List Value) (t : State) : Prop := Steps p.tables e below (T.setTop (mkF m pc L S)) t
theorem own_mm (a b : Int32) : (if b < a then b else a).toInt ≤ (if a < b then b else a).toInt := by
  split <;> split <;> simp only [Int32.lt_iff_toInt_lt] at * <;> omega
theorem own_sub (a b : Int32) : (a.toInt64 - b.toInt64).toInt = a.toInt - b.toInt := by
  have h := c_lsub a.toInt64 b.toInt64
  rw [c_i2l, c_i2l] at h
  have h1 := rng32 a
  have h2 := rng32 b
  have h3 := rng64 (a.toInt64 - b.toInt64)
  omega
theorem own_inc (x : Int64) (h : x.toInt < 9223372036854775807) : (x + (1 : Int64)).toInt = x.toInt + 1 := by
  have h1 := c_ladd x 1
  have h2 : (1 : Int64).toInt = 1 := by decide
  rw [h2] at h1
  have h3 := rng64 x
  have h4 := rng64 (x + 1)
  omega
theorem own_d1_0 : decode jdk_29_method_69_code 0 = .ok (.iload_n 0, 1) := by decide +kernel
theorem own_d1_1 : decode jdk_29_method_69_code 1 = .ok (.iload_n 1, 1) := by decide +kernel
theorem own_d1_2 : decode jdk_29_method_69_code 2 = .ok (.if_icmp .gt 7, 3) := by decide +kernel
theorem own_d1_5 : decode jdk_29_method_69_code 5 = .ok (.iload_n 0, 1) := by decide +kernel
theorem own_d1_6 : decode jdk_29_method_69_code 6 = .ok (.goto 4, 3) := by decide +kernel
theorem own_d1_9 : decode jdk_29_method_69_code 9 = .ok (.iload_n 1, 1) := by decide +kernel
theorem own_d1_10 : decode jdk_29_method_69_code 10 = .ok (.ireturn, 1) := by decide +kernel
theorem own_ef_1 (m : MethodId) (x0 : Int32) (x1 : Int32) : entryFrame m #[(.int x0), (.int x1)] 2 = mkF m 0 #[sI x0, sI x1] [] := by first | (simp [entryFrame, mkF, argsToLocals, Value.category]; done) | rfl
def own_Q1 (Z : State) (p1 : Int32) (p2 : Int32) (h0 : Heap) (n0 : Nat) (v : Option Value) (h : Heap) (L : List Loc) : Prop := v = some (.int (if p2 < p1 then p2 else p1)) ∧ Fr n0 L ∧ h = h0
abbrev own_y0 : MethodName := ⟨"java/lang/Math", "min", "(II)I"⟩
set_option maxRecDepth 65536 in
set_option maxHeartbeats 40000000 in
theorem own_rm1 (l : Launch) (Z : State) (a0 : Array Value) (hw : ∀ d ∈ tables_1, d.before a0 Z = true) (ws : List Jvm.Cond) (p1 : Int32) (p2 : Int32) (h0 : Heap) (n0 : Nat) (Z0 : n0 ≤ h0.size)  :
    MetFree l own_y0 (head1 (Jvm.Cond.code own_y0 jdk_29_method_69_code 2 (some .int) :: ws) ({ frames := 0, cells := 0, slots := 0, locals := 0 } : Room)) (fun a U => a = #[(.int p1), (.int p2)] ∧ Z.Warmed39 U.vm ∧ U.heap = h0) (fun _ _ _ _ _ => True) (fun _ U o U' => ∃ v L, o = .returned v ∧ own_Q1 Z p1 p2 h0 n0 v U'.heap L ∧ FrameEnd U o U' L ({ frames := 0, cells := 0, slots := 0, locals := 0 } : Room).cells ({ frames := 0, cells := 0, slots := 0, locals := 0 } : Room).slots) := by
  refine MetFree.of_bodySF (Jvm.Free.JP.mathPlain rfl (by decide +kernel)) hisR ?_
  intro p e s m args below meth c s₁ Bd hml0 hP hK
  obtain ⟨rfl, hZ, hh⟩ := hP
  have hx := Bd.exec
  have hby := Bd.bytes
  have hml : c.maxLocals = 2 := hml0
  have hown : s.vm.findClass "java/lang/Math" = some m.cls := findClass_of_methodNamed Bd.named
  have hnm := (name_of_methodNamed Bd.named Bd.method).1
  have X0 : Stand p l e ({ frames := 0, cells := 0, slots := 0, locals := 0 } : Room) s m #[(.int p1), (.int p2)] below meth c s₁ [] 0 0 := Stand.of_body Bd
  have e0 : s₁.heap = h0 := by rw [← hh, Bd.state]; rfl
  have N0 := Fr.nil n0
  obtain ⟨R0, hR0⟩ : ∃ R : State → Prop, R = fun t => Steps p.tables e below (s₁.setTop (entryFrame m #[(.int p1), (.int p2)] 2)) t := ⟨_, rfl⟩
  have pre0 : ∀ t, Steps p.tables e below (s₁.setTop (mkF m 0 #[sI p1, sI p2] [])) t → R0 t := fun t k => by rw [hR0]; exact castTop (own_ef_1 m p1 p2) k
  have pre1 : ∀ t, own_S p e below s₁ m 2 #[sI p1, sI p2] [(.int p2), (.int p1)] t → R0 t := fun t k => pre0 t (by
    refine XS.iloadN X0.here hx rfl (hb hby own_d1_0) rfl ?_
    show own_S p e below s₁ m 1 #[sI p1, sI p2] [(.int p1)] _
    refine XS.iloadN X0.here hx rfl (hb hby own_d1_1) rfl ?_
    exact k)
  by_cases hc2 : p2 < p1
  · have pre2 : ∀ t, own_S p e below s₁ m 10 #[sI p1, sI p2] [(.int p2)] t → R0 t := fun t k => pre1 t (by
      refine XS.icmpYes X0.here hx rfl (pc0 := 2) (pc' := 9) rfl (hb hby own_d1_2) rfl (tlt hc2).2.2.1 (by decide) (by decide) ?_
      show own_S p e below s₁ m 9 #[sI p1, sI p2] [] _
      refine XS.iloadN X0.here hx rfl (hb hby own_d1_9) rfl ?_
      exact k)
    obtain ⟨fs, hr, hrun, hended, hW, hsame⟩ := X0.leave (v := some (.int p2)) (fun h => by rw [Bd.returns] at h; cases h)
    refine ⟨_, _, cast (congrFun hR0 _) (pre2 _ (retOut X0 hx Bd.returns rfl (Or.inl ⟨rfl, Or.inl rfl, _, rfl⟩) (hb hby own_d1_10) hr)), hrun, hended, _, _, rfl, ?_, ⟨_, rfl⟩, hW, hsame.mono (by decide) (by decide)⟩
    show own_Q1 Z _ _ h0 n0 _ s₁.heap _
    rw [e0]
    exact ⟨(by rw [if_pos hc2]), N0, rfl⟩
  · have pre3 : ∀ t, own_S p e below s₁ m 10 #[sI p1, sI p2] [(.int p1)] t → R0 t := fun t k => pre1 t (by
      refine XS.icmpNo X0.here hx rfl (hb hby own_d1_2) rfl (flt hc2).2.2.1 ?_
      show own_S p e below s₁ m 5 #[sI p1, sI p2] [] _
      refine XS.iloadN X0.here hx rfl (hb hby own_d1_5) rfl ?_
      show own_S p e below s₁ m 6 #[sI p1, sI p2] [(.int p1)] _
      refine XS.goto X0.here hx rfl (pc0 := 6) (pc' := 10) rfl (hb hby own_d1_6) (by decide) (by decide) ?_
      exact k)
    obtain ⟨fs, hr, hrun, hended, hW, hsame⟩ := X0.leave (v := some (.int p1)) (fun h => by rw [Bd.returns] at h; cases h)
    refine ⟨_, _, cast (congrFun hR0 _) (pre3 _ (retOut X0 hx Bd.returns rfl (Or.inl ⟨rfl, Or.inl rfl, _, rfl⟩) (hb hby own_d1_10) hr)), hrun, hended, _, _, rfl, ?_, ⟨_, rfl⟩, hW, hsame.mono (by decide) (by decide)⟩
    show own_Q1 Z _ _ h0 n0 _ s₁.heap _
    rw [e0]
    exact ⟨(by rw [if_neg hc2]), N0, rfl⟩
theorem own_d2_0 : decode jdk_29_method_65_code 0 = .ok (.iload_n 0, 1) := by decide +kernel
theorem own_d2_1 : decode jdk_29_method_65_code 1 = .ok (.iload_n 1, 1) := by decide +kernel
theorem own_d2_2 : decode jdk_29_method_65_code 2 = .ok (.if_icmp .lt 7, 3) := by decide +kernel
theorem own_d2_5 : decode jdk_29_method_65_code 5 = .ok (.iload_n 0, 1) := by decide +kernel
theorem own_d2_6 : decode jdk_29_method_65_code 6 = .ok (.goto 4, 3) := by decide +kernel
theorem own_d2_9 : decode jdk_29_method_65_code 9 = .ok (.iload_n 1, 1) := by decide +kernel
theorem own_d2_10 : decode jdk_29_method_65_code 10 = .ok (.ireturn, 1) := by decide +kernel
theorem own_ef_2 (m : MethodId) (x0 : Int32) (x1 : Int32) : entryFrame m #[(.int x0), (.int x1)] 2 = mkF m 0 #[sI x0, sI x1] [] := by first | (simp [entryFrame, mkF, argsToLocals, Value.category]; done) | rfl
def own_Q2 (Z : State) (p1 : Int32) (p2 : Int32) (h0 : Heap) (n0 : Nat) (v : Option Value) (h : Heap) (L : List Loc) : Prop := v = some (.int (if p1 < p2 then p2 else p1)) ∧ Fr n0 L ∧ h = h0
abbrev own_y1 : MethodName := ⟨"java/lang/Math", "max", "(II)I"⟩
set_option maxRecDepth 65536 in
set_option maxHeartbeats 40000000 in
theorem own_rm2 (l : Launch) (Z : State) (a0 : Array Value) (hw : ∀ d ∈ tables_1, d.before a0 Z = true) (ws : List Jvm.Cond) (p1 : Int32) (p2 : Int32) (h0 : Heap) (n0 : Nat) (Z0 : n0 ≤ h0.size)  :
    MetFree l own_y1 (head1 (Jvm.Cond.code own_y1 jdk_29_method_65_code 2 (some .int) :: ws) ({ frames := 0, cells := 0, slots := 0, locals := 0 } : Room)) (fun a U => a = #[(.int p1), (.int p2)] ∧ Z.Warmed39 U.vm ∧ U.heap = h0) (fun _ _ _ _ _ => True) (fun _ U o U' => ∃ v L, o = .returned v ∧ own_Q2 Z p1 p2 h0 n0 v U'.heap L ∧ FrameEnd U o U' L ({ frames := 0, cells := 0, slots := 0, locals := 0 } : Room).cells ({ frames := 0, cells := 0, slots := 0, locals := 0 } : Room).slots) := by
  refine MetFree.of_bodySF (Jvm.Free.JP.mathPlain rfl (by decide +kernel)) hisR ?_
  intro p e s m args below meth c s₁ Bd hml0 hP hK
  obtain ⟨rfl, hZ, hh⟩ := hP
  have hx := Bd.exec
  have hby := Bd.bytes
  have hml : c.maxLocals = 2 := hml0
  have hown : s.vm.findClass "java/lang/Math" = some m.cls := findClass_of_methodNamed Bd.named
  have hnm := (name_of_methodNamed Bd.named Bd.method).1
  have X0 : Stand p l e ({ frames := 0, cells := 0, slots := 0, locals := 0 } : Room) s m #[(.int p1), (.int p2)] below meth c s₁ [] 0 0 := Stand.of_body Bd
  have e0 : s₁.heap = h0 := by rw [← hh, Bd.state]; rfl
  have N0 := Fr.nil n0
  obtain ⟨R0, hR0⟩ : ∃ R : State → Prop, R = fun t => Steps p.tables e below (s₁.setTop (entryFrame m #[(.int p1), (.int p2)] 2)) t := ⟨_, rfl⟩
  have pre0 : ∀ t, Steps p.tables e below (s₁.setTop (mkF m 0 #[sI p1, sI p2] [])) t → R0 t := fun t k => by rw [hR0]; exact castTop (own_ef_2 m p1 p2) k
  have pre1 : ∀ t, own_S p e below s₁ m 2 #[sI p1, sI p2] [(.int p2), (.int p1)] t → R0 t := fun t k => pre0 t (by
    refine XS.iloadN X0.here hx rfl (hb hby own_d2_0) rfl ?_
    show own_S p e below s₁ m 1 #[sI p1, sI p2] [(.int p1)] _
    refine XS.iloadN X0.here hx rfl (hb hby own_d2_1) rfl ?_
    exact k)
  by_cases hc2 : p1 < p2
  · have pre2 : ∀ t, own_S p e below s₁ m 10 #[sI p1, sI p2] [(.int p2)] t → R0 t := fun t k => pre1 t (by
      refine XS.icmpYes X0.here hx rfl (pc0 := 2) (pc' := 9) rfl (hb hby own_d2_2) rfl (tlt hc2).1 (by decide) (by decide) ?_
      show own_S p e below s₁ m 9 #[sI p1, sI p2] [] _
      refine XS.iloadN X0.here hx rfl (hb hby own_d2_9) rfl ?_
      exact k)
    obtain ⟨fs, hr, hrun, hended, hW, hsame⟩ := X0.leave (v := some (.int p2)) (fun h => by rw [Bd.returns] at h; cases h)
    refine ⟨_, _, cast (congrFun hR0 _) (pre2 _ (retOut X0 hx Bd.returns rfl (Or.inl ⟨rfl, Or.inl rfl, _, rfl⟩) (hb hby own_d2_10) hr)), hrun, hended, _, _, rfl, ?_, ⟨_, rfl⟩, hW, hsame.mono (by decide) (by decide)⟩
    show own_Q2 Z _ _ h0 n0 _ s₁.heap _
    rw [e0]
    exact ⟨(by rw [if_pos hc2]), N0, rfl⟩
  · have pre3 : ∀ t, own_S p e below s₁ m 10 #[sI p1, sI p2] [(.int p1)] t → R0 t := fun t k => pre1 t (by
      refine XS.icmpNo X0.here hx rfl (hb hby own_d2_2) rfl (flt hc2).1 ?_
      show own_S p e below s₁ m 5 #[sI p1, sI p2] [] _
      refine XS.iloadN X0.here hx rfl (hb hby own_d2_5) rfl ?_
      show own_S p e below s₁ m 6 #[sI p1, sI p2] [(.int p1)] _
      refine XS.goto X0.here hx rfl (pc0 := 6) (pc' := 10) rfl (hb hby own_d2_6) (by decide) (by decide) ?_
      exact k)
    obtain ⟨fs, hr, hrun, hended, hW, hsame⟩ := X0.leave (v := some (.int p1)) (fun h => by rw [Bd.returns] at h; cases h)
    refine ⟨_, _, cast (congrFun hR0 _) (pre3 _ (retOut X0 hx Bd.returns rfl (Or.inl ⟨rfl, Or.inl rfl, _, rfl⟩) (hb hby own_d2_10) hr)), hrun, hended, _, _, rfl, ?_, ⟨_, rfl⟩, hW, hsame.mono (by decide) (by decide)⟩
    show own_Q2 Z _ _ h0 n0 _ s₁.heap _
    rw [e0]
    exact ⟨(by rw [if_neg hc2]), N0, rfl⟩
theorem own_d4_0 : decode jdk_30_method_1_code 0 = .ok (.aload_n 0, 1) := by decide +kernel
theorem own_d4_1 : decode jdk_30_method_1_code 1 = .ok (.invokespecial 1, 3) := by decide +kernel
theorem own_d4_4 : decode jdk_30_method_1_code 4 = .ok (.return_, 1) := by decide +kernel
theorem own_pn_0 : plainName "java/lang/Record" = true := by first | (simp [plainName, overriddenIn]; done) | decide +kernel
theorem own_ef_4 (m : MethodId) (x0 : Addr) : entryFrame m #[(.ref x0)] 1 = mkF m 0 #[sR x0] [] := by first | (simp [entryFrame, mkF, argsToLocals, Value.category]; done) | rfl
def own_Q4 (Z : State) (a1 : Addr) (h0 : Heap) (n0 : Nat) (v : Option Value) (h : Heap) (L : List Loc) : Prop := v = none ∧ Fr n0 L ∧ h = h0
abbrev own_y2 : MethodName := ⟨"java/lang/Record", "<init>", "()V"⟩
set_option maxRecDepth 65536 in
set_option maxHeartbeats 40000000 in
theorem own_rm4 (l : Launch) (Z : State) (a0 : Array Value) (hw : ∀ d ∈ tables_1, d.before a0 Z = true) (ws : List Jvm.Cond) (a1 : Addr) (h0 : Heap) (n0 : Nat) (Z0 : n0 ≤ h0.size)  :
    MetFree l own_y2 (head1 (Jvm.Cond.code own_y2 jdk_30_method_1_code 1 none :: ws) ({ frames := 1, cells := 0, slots := 0, locals := 12 } : Room)) (fun a U => a = #[(.ref a1)] ∧ Z.Warmed39 U.vm ∧ U.heap = h0) (fun _ _ _ _ _ => True) (fun _ U o U' => ∃ v L, o = .returned v ∧ own_Q4 Z a1 h0 n0 v U'.heap L ∧ FrameEnd U o U' L ({ frames := 1, cells := 0, slots := 0, locals := 12 } : Room).cells ({ frames := 1, cells := 0, slots := 0, locals := 12 } : Room).slots) := by
  refine MetFree.of_bodySF (plainFor_of_name own_pn_0) hisR ?_
  intro p e s m args below meth c s₁ Bd hml0 hP hK
  obtain ⟨rfl, hZ, hh⟩ := hP
  have hw18 := hw _ (List.mem_of_getElem? (i := 18) rfl)
  have hw19 := hw _ (List.mem_of_getElem? (i := 19) rfl)
  have hw20 := hw _ (List.mem_of_getElem? (i := 20) rfl)
  have hx := Bd.exec
  have hby := Bd.bytes
  have hml : c.maxLocals = 1 := hml0
  have hown : s.vm.findClass "java/lang/Record" = some m.cls := findClass_of_methodNamed Bd.named
  have hnm := (name_of_methodNamed Bd.named Bd.method).1
  have X0 : Stand p l e ({ frames := 1, cells := 0, slots := 0, locals := 12 } : Room) s m #[(.ref a1)] below meth c s₁ [] 0 0 := Stand.of_body Bd
  have e0 : s₁.heap = h0 := by rw [← hh, Bd.state]; rfl
  have N0 := Fr.nil n0
  obtain ⟨R0, hR0⟩ : ∃ R : State → Prop, R = fun t => Steps p.tables e below (s₁.setTop (entryFrame m #[(.ref a1)] 1)) t := ⟨_, rfl⟩
  have pre0 : ∀ t, Steps p.tables e below (s₁.setTop (mkF m 0 #[sR a1] [])) t → R0 t := fun t k => by rw [hR0]; exact castTop (own_ef_4 m a1) k
  have pre1 : ∀ t, own_S p e below s₁ m 1 #[sR a1] [(.ref a1)] t → R0 t := fun t k => pre0 t (by
    refine XS.aloadN X0.here hx rfl (hb hby own_d4_0) rfl rfl ?_
    exact k)
  obtain ⟨T2, X2, e2, st2⟩ := initO X0 hx hZ hown hw18 hw19 hw20 e0 (g := (mkF m 1 #[sR a1] [(.ref a1)])) rfl (by rw [hml]; rfl) rfl (hb hby own_d4_1) (by decide) (W := 0) (by show 2 * 0 + _ ≤ _; exact Nat.le_of_eq rfl) (by decide)
  have pre3 : ∀ t, own_S p e below T2 m 4 #[sR a1] [] t → R0 t := fun t k => pre1 t (by
    refine st2 _ ?_
    exact k)
  obtain ⟨fs, hr, hrun, hended, hW, hsame⟩ := X2.leave (v := none) (fun _ => rfl)
  refine ⟨_, _, cast (congrFun hR0 _) (pre3 _ (X2.returnOut hx Bd.returns (hb hby own_d4_4) hr)), hrun, hended, _, _, rfl, ?_, ⟨_, rfl⟩, hW, hsame.mono (by decide) (by decide)⟩
  show own_Q4 Z _ h0 n0 _ T2.heap _
  rw [e2]
  exact ⟨rfl, N0, rfl⟩
theorem own_pd_0 : parseMethodDescriptor "()V" = some ⟨[], none⟩ := by decide +kernel
theorem own_d3_0 : decode prog_21_method_1_code 0 = .ok (.aload_n 0, 1) := by decide +kernel
theorem own_d3_1 : decode prog_21_method_1_code 1 = .ok (.invokespecial 1, 3) := by decide +kernel
theorem own_d3_4 : decode prog_21_method_1_code 4 = .ok (.iload_n 2, 1) := by decide +kernel
theorem own_d3_5 : decode prog_21_method_1_code 5 = .ok (.iload_n 1, 1) := by decide +kernel
theorem own_d3_6 : decode prog_21_method_1_code 6 = .ok (.if_icmp .ge 34, 3) := by decide +kernel
theorem own_d3_40 : decode prog_21_method_1_code 40 = .ok (.aload_n 0, 1) := by decide +kernel
theorem own_d3_41 : decode prog_21_method_1_code 41 = .ok (.iload_n 1, 1) := by decide +kernel
theorem own_d3_42 : decode prog_21_method_1_code 42 = .ok (.putfield 28, 3) := by decide +kernel
theorem own_d3_45 : decode prog_21_method_1_code 45 = .ok (.aload_n 0, 1) := by decide +kernel
theorem own_d3_46 : decode prog_21_method_1_code 46 = .ok (.iload_n 2, 1) := by decide +kernel
theorem own_d3_47 : decode prog_21_method_1_code 47 = .ok (.putfield 34, 3) := by decide +kernel
theorem own_d3_50 : decode prog_21_method_1_code 50 = .ok (.return_, 1) := by decide +kernel
theorem own_pn_1 : plainName "com/example/tendersense/tendersense/Interval" = true := by first | (simp [plainName, overriddenIn]; done) | decide +kernel
theorem own_ef_3 (m : MethodId) (x0 : Addr) (x1 : Int32) (x2 : Int32) : entryFrame m #[(.ref x0), (.int x1), (.int x2)] 3 = mkF m 0 #[sR x0, sI x1, sI x2] [] := by first | (simp [entryFrame, mkF, argsToLocals, Value.category]; done) | rfl
def own_Q3 (Z : State) (a1 : Addr) (p2 : Int32) (p3 : Int32) (u1 : Value) (u2 : Value) (h0 : Heap) (n0 : Nat) (v : Option Value) (h : Heap) (L : List Loc) : Prop := v = none ∧ Fr n0 L ∧ Keep h0 h [a1] ∧ Exa Z h a1 "com/example/tendersense/tendersense/Interval" ∧ Fld Z h a1 "com/example/tendersense/tendersense/Interval" "start" "I" (.int p2) ∧ Fld Z h a1 "com/example/tendersense/tendersense/Interval" "end" "I" (.int p3)
abbrev own_y3 : MethodName := ⟨"com/example/tendersense/tendersense/Interval", "<init>", "(II)V"⟩
set_option maxRecDepth 65536 in
set_option maxHeartbeats 40000000 in
theorem own_rm3 (l : Launch) (Z : State) (a0 : Array Value) (hw : ∀ d ∈ tables_1, d.before a0 Z = true) (ws : List Jvm.Cond) (a1 : Addr) (p2 : Int32) (p3 : Int32) (u1 : Value) (u2 : Value) (h0 : Heap) (n0 : Nat) (Z0 : n0 ≤ h0.size) (E_a1 : Exa Z h0 a1 "com/example/tendersense/tendersense/Interval") (F_start_a1 : Fld Z h0 a1 "com/example/tendersense/tendersense/Interval" "start" "I" u1) (F_end_a1 : Fld Z h0 a1 "com/example/tendersense/tendersense/Interval" "end" "I" u2) (g_a1 : n0 ≤ a1) (hnn : ¬ (p3 < p2)) :
    MetFree l own_y3 (head1 (Jvm.Cond.code own_y3 prog_21_method_1_code 3 none :: ws) ({ frames := 2, cells := 0, slots := 0, locals := 24 } : Room)) (fun a U => a = #[(.ref a1), (.int p2), (.int p3)] ∧ Z.Warmed39 U.vm ∧ U.heap = h0) (fun _ _ _ _ _ => True) (fun _ U o U' => ∃ v L, o = .returned v ∧ own_Q3 Z a1 p2 p3 u1 u2 h0 n0 v U'.heap L ∧ FrameEnd U o U' L ({ frames := 2, cells := 0, slots := 0, locals := 24 } : Room).cells ({ frames := 2, cells := 0, slots := 0, locals := 24 } : Room).slots) := by
  refine MetFree.of_bodySF (plainFor_of_name own_pn_1) hisR ?_
  intro p e s m args below meth c s₁ Bd hml0 hP hK
  obtain ⟨rfl, hZ, hh⟩ := hP
  have hw8 := hw _ (List.mem_of_getElem? (i := 8) rfl)
  have hw13 := hw _ (List.mem_of_getElem? (i := 13) rfl)
  have hw14 := hw _ (List.mem_of_getElem? (i := 14) rfl)
  have hw16 := hw _ (List.mem_of_getElem? (i := 16) rfl)
  have hw17 := hw _ (List.mem_of_getElem? (i := 17) rfl)
  have hw21 := hw _ (List.mem_of_getElem? (i := 21) rfl)
  have hw22 := hw _ (List.mem_of_getElem? (i := 22) rfl)
  have hw23 := hw _ (List.mem_of_getElem? (i := 23) rfl)
  have hw24 := hw _ (List.mem_of_getElem? (i := 24) rfl)
  have hx := Bd.exec
  have hby := Bd.bytes
  have hml : c.maxLocals = 3 := hml0
  have hown : s.vm.findClass "com/example/tendersense/tendersense/Interval" = some m.cls := findClass_of_methodNamed Bd.named
  have hnm := (name_of_methodNamed Bd.named Bd.method).1
  have X0 : Stand p l e ({ frames := 2, cells := 0, slots := 0, locals := 24 } : Room) s m #[(.ref a1), (.int p2), (.int p3)] below meth c s₁ [] 0 0 := Stand.of_body Bd
  have e0 : s₁.heap = h0 := by rw [← hh, Bd.state]; rfl
  have N0 := Fr.nil n0
  obtain ⟨R0, hR0⟩ : ∃ R : State → Prop, R = fun t => Steps p.tables e below (s₁.setTop (entryFrame m #[(.ref a1), (.int p2), (.int p3)] 3)) t := ⟨_, rfl⟩
  have pre0 : ∀ t, Steps p.tables e below (s₁.setTop (mkF m 0 #[sR a1, sI p2, sI p3] [])) t → R0 t := fun t k => by rw [hR0]; exact castTop (own_ef_3 m a1 p2 p3) k
  have pre1 : ∀ t, own_S p e below s₁ m 1 #[sR a1, sI p2, sI p3] [(.ref a1)] t → R0 t := fun t k => pre0 t (by
    refine XS.aloadN X0.here hx rfl (hb hby own_d3_0) rfl rfl ?_
    exact k)
  obtain ⟨_, _, ⟨T2, L2, k2, n2⟩, -, X2, ⟨Lc2, hQ2, l2, y2, z2⟩, st2⟩ := X0.specialBack hx (y := own_y2) rfl hown (mvT hZ hw13) (mvT hZ hw14) (mvT hZ hw17) (by decide) (backOf (W := 0) (own_rm4 l Z a0 hw [] a1 h0 n0 Z0 ) hZ hw17 hw16 (by decide) (by decide)) (g := (mkF m 1 #[sR a1, sI p2, sI p3] [(.ref a1)])) rfl (by rw [hml]; rfl) (Steps.refl _) (a := a1) (argsL := []) (rest := []) (lenOf own_pd_0 rfl) rfl (by show 2 * 0 + _ ≤ _; exact Nat.le_of_eq rfl) (hb hby own_d3_1) (fun _ _ => ⟨rfl, e0, (by decide : 0 + 0 ≤ _), (by decide : 0 + 0 ≤ _)⟩)
  dsimp only [Pt.U, Pt.locs, Pt.cells, Pt.slots] at X2 l2 y2 z2 st2 hQ2
  subst l2 y2 z2
  obtain ⟨rfl, N2q, eh2⟩ := hQ2
  have N2 := Fr.app N0 N2q
  have pre3 : ∀ t, own_S p e below T2 m 6 #[sR a1, sI p2, sI p3] [(.int p2), (.int p3)] t → R0 t := fun t k => pre1 t (by
    refine st2.trans ?_
    show own_S p e below T2 m 4 #[sR a1, sI p2, sI p3] [] _
    refine XS.iloadN X2.here hx rfl (hb hby own_d3_4) rfl ?_
    show own_S p e below T2 m 5 #[sR a1, sI p2, sI p3] [(.int p3)] _
    refine XS.iloadN X2.here hx rfl (hb hby own_d3_5) rfl ?_
    exact k)
  have hc4 : ¬ (p3 < p2) := hnn
  have pre5 : ∀ t, own_S p e below T2 m 42 #[sR a1, sI p2, sI p3] [(.int p2), (.ref a1)] t → R0 t := fun t k => pre3 t (by
    refine XS.icmpYes X2.here hx rfl (pc0 := 6) (pc' := 40) rfl (hb hby own_d3_6) rfl (flt hc4).2.1 (by decide) (by decide) ?_
    show own_S p e below T2 m 40 #[sR a1, sI p2, sI p3] [] _
    refine XS.aloadN X2.here hx rfl (hb hby own_d3_40) rfl rfl ?_
    show own_S p e below T2 m 41 #[sR a1, sI p2, sI p3] [(.ref a1)] _
    refine XS.iloadN X2.here hx rfl (hb hby own_d3_41) rfl ?_
    exact k)
  obtain ⟨T6, h6, X6, e6, W6, st6⟩ := putF X2 hx hZ hown (host := "") (Or.inl hw21) Via.refl eh2 F_start_a1 E_a1 (Or.inr ⟨hw22, rfl, hnm⟩) hw8 (ty := .int) (by decide) rfl rfl (g := (mkF m 42 #[sR a1, sI p2, sI p3] [(.int p2), (.ref a1)])) rfl rfl (hb hby own_d3_42)
  have f7 := Nat.le_trans Z0 (Keep.of_wr W6).1
  have f8 := E_a1.wr W6
  have f9 := F_end_a1.other W6 (Or.inr (slot_ne (Or.inr hw24) (Or.inr hw22) (by decide) (t := .int) (t' := .int) (by decide) (by decide)))
  have f10 := F_start_a1.same W6
  have N11 := Fr.snoc X6 N2 g_a1
  have K12 : Keep h0 h6 [a1] := (Keep.refl h0 [a1]).wr W6 (Or.inl (List.mem_of_getElem? (i := 0) rfl))
  have pre13 : ∀ t, own_S p e below T6 m 47 #[sR a1, sI p2, sI p3] [(.int p3), (.ref a1)] t → R0 t := fun t k => pre5 t (by
    refine st6 _ ?_
    show own_S p e below T6 m 45 #[sR a1, sI p2, sI p3] [] _
    refine XS.aloadN X6.here hx rfl (hb hby own_d3_45) rfl rfl ?_
    show own_S p e below T6 m 46 #[sR a1, sI p2, sI p3] [(.ref a1)] _
    refine XS.iloadN X6.here hx rfl (hb hby own_d3_46) rfl ?_
    exact k)
  obtain ⟨T14, h14, X14, e14, W14, st14⟩ := putF X6 hx hZ hown (host := "") (Or.inl hw23) Via.refl e6 f9 f8 (Or.inr ⟨hw24, rfl, hnm⟩) hw8 (ty := .int) (by decide) rfl rfl (g := (mkF m 47 #[sR a1, sI p2, sI p3] [(.int p3), (.ref a1)])) rfl rfl (hb hby own_d3_47)
  have f15 := Nat.le_trans f7 (Keep.of_wr W14).1
  have f16 := f8.wr W14
  have f17 := f10.other W14 (Or.inr (slot_ne (Or.inr hw22) (Or.inr hw24) (by decide) (t := .int) (t' := .int) (by decide) (by decide)))
  have f18 := f9.same W14
  have N19 := Fr.snoc X14 N11 g_a1
  have K20 : Keep h0 h14 [a1] := K12.wr W14 (Or.inl (List.mem_of_getElem? (i := 0) rfl))
  have pre21 : ∀ t, own_S p e below T14 m 50 #[sR a1, sI p2, sI p3] [] t → R0 t := fun t k => pre13 t (by
    refine st14 _ ?_
    exact k)
  obtain ⟨fs, hr, hrun, hended, hW, hsame⟩ := X14.leave (v := none) (fun _ => rfl)
  refine ⟨_, _, cast (congrFun hR0 _) (pre21 _ (X14.returnOut hx Bd.returns (hb hby own_d3_50) hr)), hrun, hended, _, _, rfl, ?_, ⟨_, rfl⟩, hW, hsame.mono (by decide) (by decide)⟩
  show own_Q3 Z _ _ _ _ _ h0 n0 _ T14.heap _
  rw [e14]
  exact ⟨rfl, N19, K20, f16, f17, f18⟩
theorem own_d6_0 : decode prog_21_method_3_code 0 = .ok (.aload_n 0, 1) := by decide +kernel
theorem own_d6_1 : decode prog_21_method_3_code 1 = .ok (.getfield 28, 3) := by decide +kernel
theorem own_d6_4 : decode prog_21_method_3_code 4 = .ok (.iload_n 1, 1) := by decide +kernel
theorem own_d6_5 : decode prog_21_method_3_code 5 = .ok (.if_icmp .gt 15, 3) := by decide +kernel
theorem own_d6_8 : decode prog_21_method_3_code 8 = .ok (.iload_n 1, 1) := by decide +kernel
theorem own_d6_9 : decode prog_21_method_3_code 9 = .ok (.aload_n 0, 1) := by decide +kernel
theorem own_d6_10 : decode prog_21_method_3_code 10 = .ok (.getfield 34, 3) := by decide +kernel
theorem own_d6_13 : decode prog_21_method_3_code 13 = .ok (.if_icmp .gt 7, 3) := by decide +kernel
theorem own_d6_16 : decode prog_21_method_3_code 16 = .ok (.iconst 1, 1) := by decide +kernel
theorem own_d6_17 : decode prog_21_method_3_code 17 = .ok (.goto 4, 3) := by decide +kernel
theorem own_d6_20 : decode prog_21_method_3_code 20 = .ok (.iconst 0, 1) := by decide +kernel
theorem own_d6_21 : decode prog_21_method_3_code 21 = .ok (.ireturn, 1) := by decide +kernel
theorem own_ef_6 (m : MethodId) (x0 : Addr) (x1 : Int32) : entryFrame m #[(.ref x0), (.int x1)] 2 = mkF m 0 #[sR x0, sI x1] [] := by first | (simp [entryFrame, mkF, argsToLocals, Value.category]; done) | rfl
def own_Q6 (Z : State) (a1 : Addr) (p2 : Int32) (w1 : Int32) (w2 : Int32) (h0 : Heap) (n0 : Nat) (v : Option Value) (h : Heap) (L : List Loc) : Prop := v = some (.int (if w1.toInt ≤ p2.toInt ∧ p2.toInt ≤ w2.toInt then (1 : Int32) else 0)) ∧ Fr n0 L ∧ h = h0
abbrev own_y4 : MethodName := ⟨"com/example/tendersense/tendersense/Interval", "contains", "(I)Z"⟩
set_option maxRecDepth 65536 in
set_option maxHeartbeats 40000000 in
theorem own_rm6 (l : Launch) (Z : State) (a0 : Array Value) (hw : ∀ d ∈ tables_1, d.before a0 Z = true) (ws : List Jvm.Cond) (a1 : Addr) (p2 : Int32) (w1 : Int32) (w2 : Int32) (h0 : Heap) (n0 : Nat) (Z0 : n0 ≤ h0.size) (F_start_a1 : Fld Z h0 a1 "com/example/tendersense/tendersense/Interval" "start" "I" (.int w1)) (F_end_a1 : Fld Z h0 a1 "com/example/tendersense/tendersense/Interval" "end" "I" (.int w2)) :
    MetFree l own_y4 (head1 (Jvm.Cond.code own_y4 prog_21_method_3_code 2 (some .boolean) :: ws) ({ frames := 0, cells := 0, slots := 0, locals := 0 } : Room)) (fun a U => a = #[(.ref a1), (.int p2)] ∧ Z.Warmed39 U.vm ∧ U.heap = h0) (fun _ _ _ _ _ => True) (fun _ U o U' => ∃ v L, o = .returned v ∧ own_Q6 Z a1 p2 w1 w2 h0 n0 v U'.heap L ∧ FrameEnd U o U' L ({ frames := 0, cells := 0, slots := 0, locals := 0 } : Room).cells ({ frames := 0, cells := 0, slots := 0, locals := 0 } : Room).slots) := by
  refine MetFree.of_bodySF (plainFor_of_name own_pn_1) hisR ?_
  intro p e s m args below meth c s₁ Bd hml0 hP hK
  obtain ⟨rfl, hZ, hh⟩ := hP
  have hw21 := hw _ (List.mem_of_getElem? (i := 21) rfl)
  have hw23 := hw _ (List.mem_of_getElem? (i := 23) rfl)
  have hx := Bd.exec
  have hby := Bd.bytes
  have hml : c.maxLocals = 2 := hml0
  have hown : s.vm.findClass "com/example/tendersense/tendersense/Interval" = some m.cls := findClass_of_methodNamed Bd.named
  have hnm := (name_of_methodNamed Bd.named Bd.method).1
  have X0 : Stand p l e ({ frames := 0, cells := 0, slots := 0, locals := 0 } : Room) s m #[(.ref a1), (.int p2)] below meth c s₁ [] 0 0 := Stand.of_body Bd
  have e0 : s₁.heap = h0 := by rw [← hh, Bd.state]; rfl
  have N0 := Fr.nil n0
  obtain ⟨R0, hR0⟩ : ∃ R : State → Prop, R = fun t => Steps p.tables e below (s₁.setTop (entryFrame m #[(.ref a1), (.int p2)] 2)) t := ⟨_, rfl⟩
  have pre0 : ∀ t, Steps p.tables e below (s₁.setTop (mkF m 0 #[sR a1, sI p2] [])) t → R0 t := fun t k => by rw [hR0]; exact castTop (own_ef_6 m a1 p2) k
  have pre1 : ∀ t, own_S p e below s₁ m 1 #[sR a1, sI p2] [(.ref a1)] t → R0 t := fun t k => pre0 t (by
    refine XS.aloadN X0.here hx rfl (hb hby own_d6_0) rfl rfl ?_
    exact k)
  obtain ⟨T2, X2, e2, st2⟩ := getF X0 hx hZ hown (host := "") (Or.inl hw21) Via.refl e0 F_start_a1 (g := (mkF m 1 #[sR a1, sI p2] [(.ref a1)])) rfl rfl (hb hby own_d6_1)
  have pre3 : ∀ t, own_S p e below T2 m 5 #[sR a1, sI p2] [(.int p2), (.int w1)] t → R0 t := fun t k => pre1 t (by
    refine st2 _ ?_
    show own_S p e below T2 m 4 #[sR a1, sI p2] [(.int w1)] _
    refine XS.iloadN X2.here hx rfl (hb hby own_d6_4) rfl ?_
    exact k)
  by_cases hc5 : p2 < w1
  · have pre4 : ∀ t, own_S p e below T2 m 21 #[sR a1, sI p2] [(.int 0)] t → R0 t := fun t k => pre3 t (by
      refine XS.icmpYes X2.here hx rfl (pc0 := 5) (pc' := 20) rfl (hb hby own_d6_5) rfl (tlt hc5).2.2.1 (by decide) (by decide) ?_
      show own_S p e below T2 m 20 #[sR a1, sI p2] [] _
      refine XS.iconst X2.here hx rfl (hb hby own_d6_20) ?_
      exact k)
    obtain ⟨fs, hr, hrun, hended, hW, hsame⟩ := X2.leave (v := some (.int 0)) (fun h => by rw [Bd.returns] at h; cases h)
    refine ⟨_, _, cast (congrFun hR0 _) (pre4 _ (retN X2 hx (t := .boolean) Bd.returns (by simp) (hb hby own_d6_21) hr)), hrun, hended, _, _, rfl, ?_, ⟨_, rfl⟩, hW, hsame.mono (by decide) (by decide)⟩
    show own_Q6 Z _ _ _ _ h0 n0 _ T2.heap _
    rw [e2]
    exact ⟨(by rw [if_neg (by simp only [Int32.lt_iff_toInt_lt] at hc5; omega)]), N0, rfl⟩
  · have pre5 : ∀ t, own_S p e below T2 m 10 #[sR a1, sI p2] [(.ref a1), (.int p2)] t → R0 t := fun t k => pre3 t (by
      refine XS.icmpNo X2.here hx rfl (hb hby own_d6_5) rfl (flt hc5).2.2.1 ?_
      show own_S p e below T2 m 8 #[sR a1, sI p2] [] _
      refine XS.iloadN X2.here hx rfl (hb hby own_d6_8) rfl ?_
      show own_S p e below T2 m 9 #[sR a1, sI p2] [(.int p2)] _
      refine XS.aloadN X2.here hx rfl (hb hby own_d6_9) rfl rfl ?_
      exact k)
    obtain ⟨T6, X6, e6, st6⟩ := getF X2 hx hZ hown (host := "") (Or.inl hw23) Via.refl e2 F_end_a1 (g := (mkF m 10 #[sR a1, sI p2] [(.ref a1), (.int p2)])) rfl rfl (hb hby own_d6_10)
    have pre7 : ∀ t, own_S p e below T6 m 13 #[sR a1, sI p2] [(.int w2), (.int p2)] t → R0 t := fun t k => pre5 t (by
      refine st6 _ ?_
      exact k)
    by_cases hc13 : w2 < p2
    · have pre8 : ∀ t, own_S p e below T6 m 21 #[sR a1, sI p2] [(.int 0)] t → R0 t := fun t k => pre7 t (by
        refine XS.icmpYes X6.here hx rfl (pc0 := 13) (pc' := 20) rfl (hb hby own_d6_13) rfl (tlt hc13).2.2.1 (by decide) (by decide) ?_
        show own_S p e below T6 m 20 #[sR a1, sI p2] [] _
        refine XS.iconst X6.here hx rfl (hb hby own_d6_20) ?_
        exact k)
      obtain ⟨fs, hr, hrun, hended, hW, hsame⟩ := X6.leave (v := some (.int 0)) (fun h => by rw [Bd.returns] at h; cases h)
      refine ⟨_, _, cast (congrFun hR0 _) (pre8 _ (retN X6 hx (t := .boolean) Bd.returns (by simp) (hb hby own_d6_21) hr)), hrun, hended, _, _, rfl, ?_, ⟨_, rfl⟩, hW, hsame.mono (by decide) (by decide)⟩
      show own_Q6 Z _ _ _ _ h0 n0 _ T6.heap _
      rw [e6]
      exact ⟨(by rw [if_neg (by simp only [Int32.lt_iff_toInt_lt] at hc5 hc13; omega)]), N0, rfl⟩
    · have pre9 : ∀ t, own_S p e below T6 m 21 #[sR a1, sI p2] [(.int 1)] t → R0 t := fun t k => pre7 t (by
        refine XS.icmpNo X6.here hx rfl (hb hby own_d6_13) rfl (flt hc13).2.2.1 ?_
        show own_S p e below T6 m 16 #[sR a1, sI p2] [] _
        refine XS.iconst X6.here hx rfl (hb hby own_d6_16) ?_
        show own_S p e below T6 m 17 #[sR a1, sI p2] [(.int 1)] _
        refine XS.goto X6.here hx rfl (pc0 := 17) (pc' := 21) rfl (hb hby own_d6_17) (by decide) (by decide) ?_
        exact k)
      obtain ⟨fs, hr, hrun, hended, hW, hsame⟩ := X6.leave (v := some (.int 1)) (fun h => by rw [Bd.returns] at h; cases h)
      refine ⟨_, _, cast (congrFun hR0 _) (pre9 _ (retN X6 hx (t := .boolean) Bd.returns (by simp) (hb hby own_d6_21) hr)), hrun, hended, _, _, rfl, ?_, ⟨_, rfl⟩, hW, hsame.mono (by decide) (by decide)⟩
      show own_Q6 Z _ _ _ _ h0 n0 _ T6.heap _
      rw [e6]
      exact ⟨(by rw [if_pos (by simp only [Int32.lt_iff_toInt_lt] at hc5 hc13; omega)]), N0, rfl⟩
theorem own_pd_1 : parseMethodDescriptor "(II)I" = some ⟨[.int, .int], some .int⟩ := by decide +kernel
theorem own_pd_2 : parseMethodDescriptor "(II)V" = some ⟨[.int, .int], none⟩ := by decide +kernel
theorem own_pd_3 : parseMethodDescriptor "(I)Z" = some ⟨[.int], some .boolean⟩ := by decide +kernel
theorem own_pn_2 : plainName "com/example/tendersense/tendersense/IntervalContainsPinLaw" = true := by first | (simp [plainName, overriddenIn]; done) | decide +kernel
theorem own_ef_0 (m : MethodId) (x0 : Int32) (x1 : Int32) (x2 : Int32) (x3 : Int32) : entryFrame m #[(.int x0), (.int x1), (.int x2), (.int x3)] maxLocals = mkF m 0 #[sI x0, sI x1, sI x2, sI x3, .unset, .unset, .unset, .unset, .unset, .unset, .unset, .unset, .unset, .unset] [] := by first | (simp [entryFrame, mkF, argsToLocals, Value.category, maxLocals]; done) | rfl
def own_Q0 (Z : State) (p1 : Int32) (p2 : Int32) (p3 : Int32) (p4 : Int32) (h0 : Heap) (n0 : Nat) (v : Option Value) (h : Heap) (L : List Loc) : Prop := v = some (.int 1) ∧ Fr n0 L
set_option maxRecDepth 65536 in
set_option maxHeartbeats 40000000 in
theorem own_rm0 (l : Launch) (Z : State) (a0 : Array Value) (hw : ∀ d ∈ tables_1, d.before a0 Z = true) (ws : List Jvm.Cond) (p1 : Int32) (p2 : Int32) (p3 : Int32) (p4 : Int32) (h0 : Heap) (n0 : Nat) (Z0 : n0 ≤ h0.size)  :
    MetFree l x (head1 (Jvm.Cond.code x code maxLocals ret :: ws) room_1) (fun a U => a = #[(.int p1), (.int p2), (.int p3), (.int p4)] ∧ Z.Warmed39 U.vm ∧ U.heap = h0) (fun _ _ _ _ _ => True) (fun _ U o U' => ∃ v L, o = .returned v ∧ own_Q0 Z p1 p2 p3 p4 h0 n0 v U'.heap L ∧ FrameEnd U o U' L room_1.cells room_1.slots) := by
  refine MetFree.of_bodySF (plainFor_of_name own_pn_2) hisR ?_
  intro p e s m args below meth c s₁ Bd hml0 hP hK
  obtain ⟨rfl, hZ, hh⟩ := hP
  have hw0 := hw _ (List.mem_of_getElem? (i := 0) rfl)
  have hw1 := hw _ (List.mem_of_getElem? (i := 1) rfl)
  have hw2 := hw _ (List.mem_of_getElem? (i := 2) rfl)
  have hw3 := hw _ (List.mem_of_getElem? (i := 3) rfl)
  have hw4 := hw _ (List.mem_of_getElem? (i := 4) rfl)
  have hw5 := hw _ (List.mem_of_getElem? (i := 5) rfl)
  have hw6 := hw _ (List.mem_of_getElem? (i := 6) rfl)
  have hw7 := hw _ (List.mem_of_getElem? (i := 7) rfl)
  have hw8 := hw _ (List.mem_of_getElem? (i := 8) rfl)
  have hw9 := hw _ (List.mem_of_getElem? (i := 9) rfl)
  have hw10 := hw _ (List.mem_of_getElem? (i := 10) rfl)
  have hw11 := hw _ (List.mem_of_getElem? (i := 11) rfl)
  have hw12 := hw _ (List.mem_of_getElem? (i := 12) rfl)
  have hw22 := hw _ (List.mem_of_getElem? (i := 22) rfl)
  have hw24 := hw _ (List.mem_of_getElem? (i := 24) rfl)
  have hw25 := hw _ (List.mem_of_getElem? (i := 25) rfl)
  have hw26 := hw _ (List.mem_of_getElem? (i := 26) rfl)
  have hw27 := hw _ (List.mem_of_getElem? (i := 27) rfl)
  have hw28 := hw _ (List.mem_of_getElem? (i := 28) rfl)
  have hw29 := hw _ (List.mem_of_getElem? (i := 29) rfl)
  have hx := Bd.exec
  have hby := Bd.bytes
  have hml : c.maxLocals = 14 := hml0
  have hown : s.vm.findClass "com/example/tendersense/tendersense/IntervalContainsPinLaw" = some m.cls := findClass_of_methodNamed Bd.named
  have hnm := (name_of_methodNamed Bd.named Bd.method).1
  have X0 : Stand p l e room_1 s m #[(.int p1), (.int p2), (.int p3), (.int p4)] below meth c s₁ [] 0 0 := Stand.of_body Bd
  have e0 : s₁.heap = h0 := by rw [← hh, Bd.state]; rfl
  have N0 := Fr.nil n0
  obtain ⟨R0, hR0⟩ : ∃ R : State → Prop, R = fun t => Steps p.tables e below (s₁.setTop (entryFrame m #[(.int p1), (.int p2), (.int p3), (.int p4)] maxLocals)) t := ⟨_, rfl⟩
  have pre0 : ∀ t, Steps p.tables e below (s₁.setTop (mkF m 0 #[sI p1, sI p2, sI p3, sI p4, sU, sU, sU, sU, sU, sU, sU, sU, sU, sU] [])) t → R0 t := fun t k => by rw [hR0]; exact castTop (own_ef_0 m p1 p2 p3 p4) k
  have pre1 : ∀ t, own_S p e below s₁ m 2 #[sI p1, sI p2, sI p3, sI p4, sU, sU, sU, sU, sU, sU, sU, sU, sU, sU] [(.int p2), (.int p1)] t → R0 t := fun t k => pre0 t (by
    refine XS.iloadN X0.here hx rfl (hb hby at_0) rfl ?_
    show own_S p e below s₁ m 1 #[sI p1, sI p2, sI p3, sI p4, sU, sU, sU, sU, sU, sU, sU, sU, sU, sU] [(.int p1)] _
    refine XS.iloadN X0.here hx rfl (hb hby at_1) rfl ?_
    exact k)
  obtain ⟨_, _, ⟨T2, L2, k2, n2⟩, -, X2, ⟨Lc2, hQ2, l2, y2, z2⟩, st2⟩ := Jvm.LawKit.callS X0 hx (y := own_y0) hown (mvT hZ hw0) (mvT hZ hw1) (mvT hZ hw2) (mvT hZ hw3) (by decide) (backOf (W := 0) (own_rm1 l Z a0 hw [] p1 p2 h0 n0 Z0 ) hZ hw3 hw2 (by decide) (by decide)) (g := (mkF m 2 #[sI p1, sI p2, sI p3, sI p4, sU, sU, sU, sU, sU, sU, sU, sU, sU, sU] [(.int p2), (.int p1)])) rfl (by rw [hml]; rfl) (argsL := [(.int p1), (.int p2)]) (rest := []) (lenOf own_pd_1 rfl) rfl (by show 2 * 0 + _ ≤ _; exact Nat.le_of_eq rfl) (hb hby at_2) (fun _ _ => ⟨rfl, e0, (by decide : 0 + 0 ≤ _), (by decide : 0 + 0 ≤ _)⟩)
  dsimp only [Pt.U, Pt.locs, Pt.cells, Pt.slots] at X2 l2 y2 z2 st2 hQ2
  subst l2 y2 z2
  obtain ⟨rfl, N2q, eh2⟩ := hQ2
  have N2 := Fr.app N0 N2q
  have pre3 : ∀ t, own_S p e below T2 m 5 #[sI p1, sI p2, sI p3, sI p4, sU, sU, sU, sU, sU, sU, sU, sU, sU, sU] [(.int (if p2 < p1 then p2 else p1))] t → R0 t := fun t k => pre1 t (by
    refine st2 _ ?_
    exact k)
  obtain ⟨v4, hv4⟩ : ∃ z : Int32, z = (if p2 < p1 then p2 else p1) := ⟨_, rfl⟩
  have pre4 : ∀ t, own_S p e below T2 m 5 #[sI p1, sI p2, sI p3, sI p4, sU, sU, sU, sU, sU, sU, sU, sU, sU, sU] [(.int v4)] t → R0 t := fun t k => pre3 t (by subst hv4; exact k)
  have pre5 : ∀ t, own_S p e below T2 m 9 #[sI p1, sI p2, sI p3, sI p4, sI v4, sU, sU, sU, sU, sU, sU, sU, sU, sU] [(.int p2), (.int p1)] t → R0 t := fun t k => pre4 t (by
    refine XS.istore X2.here hx rfl (hb hby at_5) rfl (l' := #[sI p1, sI p2, sI p3, sI p4, sI v4, sU, sU, sU, sU, sU, sU, sU, sU, sU]) rfl ?_
    show own_S p e below T2 m 7 #[sI p1, sI p2, sI p3, sI p4, sI v4, sU, sU, sU, sU, sU, sU, sU, sU, sU] [] _
    refine XS.iloadN X2.here hx rfl (hb hby at_7) rfl ?_
    show own_S p e below T2 m 8 #[sI p1, sI p2, sI p3, sI p4, sI v4, sU, sU, sU, sU, sU, sU, sU, sU, sU] [(.int p1)] _
    refine XS.iloadN X2.here hx rfl (hb hby at_8) rfl ?_
    exact k)
  obtain ⟨_, _, ⟨T6, L6, k6, n6⟩, -, X6, ⟨Lc6, hQ6, l6, y6, z6⟩, st6⟩ := Jvm.LawKit.callS X2 hx (y := own_y1) hown (mvT hZ hw4) (mvT hZ hw5) (mvT hZ hw2) (mvT hZ hw6) (by decide) (backOf (W := 0) (own_rm2 l Z a0 hw [] p1 p2 h0 n0 Z0 ) hZ hw6 hw2 (by decide) (by decide)) (g := (mkF m 9 #[sI p1, sI p2, sI p3, sI p4, sI v4, sU, sU, sU, sU, sU, sU, sU, sU, sU] [(.int p2), (.int p1)])) rfl (by rw [hml]; rfl) (argsL := [(.int p1), (.int p2)]) (rest := []) (lenOf own_pd_1 rfl) rfl (by show 2 * 0 + _ ≤ _; exact Nat.le_of_eq rfl) (hb hby at_9) (fun _ _ => ⟨rfl, eh2, (by decide : 0 + 0 ≤ _), (by decide : 0 + 0 ≤ _)⟩)
  dsimp only [Pt.U, Pt.locs, Pt.cells, Pt.slots] at X6 l6 y6 z6 st6 hQ6
  subst l6 y6 z6
  obtain ⟨rfl, N6q, eh6⟩ := hQ6
  have N6 := Fr.app N2 N6q
  have pre7 : ∀ t, own_S p e below T6 m 12 #[sI p1, sI p2, sI p3, sI p4, sI v4, sU, sU, sU, sU, sU, sU, sU, sU, sU] [(.int (if p1 < p2 then p2 else p1))] t → R0 t := fun t k => pre5 t (by
    refine st6 _ ?_
    exact k)
  obtain ⟨v5, hv5⟩ : ∃ z : Int32, z = (if p1 < p2 then p2 else p1) := ⟨_, rfl⟩
  have pre8 : ∀ t, own_S p e below T6 m 12 #[sI p1, sI p2, sI p3, sI p4, sI v4, sU, sU, sU, sU, sU, sU, sU, sU, sU] [(.int v5)] t → R0 t := fun t k => pre7 t (by subst hv5; exact k)
  have b5 : v4.toInt ≤ v5.toInt := by rw [hv4, hv5]; exact own_mm p1 p2
  have r4 := rng32 v4
  have r5 := rng32 v5
  have pre9 : ∀ t, own_S p e below T6 m 14 #[sI p1, sI p2, sI p3, sI p4, sI v4, sI v5, sU, sU, sU, sU, sU, sU, sU, sU] [] t → R0 t := fun t k => pre8 t (by
    refine XS.istore X6.here hx rfl (hb hby at_12) rfl (l' := #[sI p1, sI p2, sI p3, sI p4, sI v4, sI v5, sU, sU, sU, sU, sU, sU, sU, sU]) rfl ?_
    exact k)
  obtain ⟨T10, h10, X10, e10, E10, A10, D10, -, st10⟩ := newO X6 hx hZ hown hw7 hw8 hw9 eh6 (g := (mkF m 14 #[sI p1, sI p2, sI p3, sI p4, sI v4, sI v5, sU, sU, sU, sU, sU, sU, sU, sU] [])) rfl (hb hby at_14) (by decide) (by decide)
  obtain ⟨b10, g10⟩ : ∃ z, z = h0.size := ⟨_, rfl⟩
  rw [← g10] at A10 D10 st10
  have g_b10 : n0 ≤ b10 := Nat.le_trans Z0 (Nat.le_of_eq g10.symm)
  have f11 := Nat.le_trans Z0 E10.1
  have f12 : Fld Z h10 b10 "com/example/tendersense/tendersense/Interval" "start" "I" (.int 0) := D10 (Or.inr hw22) (ty := .int) (by decide)
  have f13 : Fld Z h10 b10 "com/example/tendersense/tendersense/Interval" "end" "I" (.int 0) := D10 (Or.inr hw24) (ty := .int) (by decide)
  have pre14 : ∀ t, own_S p e below T10 m 22 #[sI p1, sI p2, sI p3, sI p4, sI v4, sI v5, sU, sU, sU, sU, sU, sU, sU, sU] [(.int v5), (.int v4), (.ref b10), (.ref b10)] t → R0 t := fun t k => pre9 t (by
    refine st10 _ ?_
    show own_S p e below T10 m 17 #[sI p1, sI p2, sI p3, sI p4, sI v4, sI v5, sU, sU, sU, sU, sU, sU, sU, sU] [(.ref b10)] _
    refine XS.dup X10.here hx rfl (hb hby at_17) rfl rfl ?_
    show own_S p e below T10 m 18 #[sI p1, sI p2, sI p3, sI p4, sI v4, sI v5, sU, sU, sU, sU, sU, sU, sU, sU] [(.ref b10), (.ref b10)] _
    refine XS.iload X10.here hx rfl (hb hby at_18) rfl ?_
    show own_S p e below T10 m 20 #[sI p1, sI p2, sI p3, sI p4, sI v4, sI v5, sU, sU, sU, sU, sU, sU, sU, sU] [(.int v4), (.ref b10), (.ref b10)] _
    refine XS.iload X10.here hx rfl (hb hby at_20) rfl ?_
    exact k)
  have hp15 : ¬ (v5 < v4) := by simp only [Int32.lt_iff_toInt_lt]; omega
  obtain ⟨_, _, ⟨T16, L16, k16, n16⟩, -, X16, ⟨Lc16, hQ16, l16, y16, z16⟩, st16⟩ := X10.specialBack hx (y := own_y3) rfl hown (mvT hZ hw10) (mvT hZ hw11) (mvT hZ hw12) (by decide) (backOf (W := 1) (own_rm3 l Z a0 hw [] b10 v4 v5 (.int 0) (.int 0) h10 n0 f11 A10 f12 f13 g_b10 hp15) hZ hw12 hw9 (by decide) (by decide)) (g := (mkF m 22 #[sI p1, sI p2, sI p3, sI p4, sI v4, sI v5, sU, sU, sU, sU, sU, sU, sU, sU] [(.int v5), (.int v4), (.ref b10), (.ref b10)])) rfl (by rw [hml]; rfl) (Steps.refl _) (a := b10) (argsL := [(.int v4), (.int v5)]) (rest := [(.ref b10)]) (lenOf own_pd_2 rfl) rfl (by show 2 * 0 + _ ≤ _; exact Nat.le_of_eq rfl) (hb hby at_22) (fun _ _ => ⟨rfl, e10, (by decide : 1 + 0 ≤ _), (by decide : 2 + 0 ≤ _)⟩)
  dsimp only [Pt.U, Pt.locs, Pt.cells, Pt.slots] at X16 l16 y16 z16 st16 hQ16
  subst l16 y16 z16
  obtain ⟨rfl, N16q, K16, ex16, fx16_0, fx16_1⟩ := hQ16
  have f17 := Nat.le_trans f11 K16.1
  have f18 := A10.keep K16
  have N16 := Fr.app N6 N16q
  have pre19 : ∀ t, own_S p e below T16 m 31 #[sI p1, sI p2, sI p3, sI p4, sI v4, sI v5, sR b10, sU, sU, sU, sU, sU, sU, sU] [(.int (p4 &&& (7 : Int32)))] t → R0 t := fun t k => pre14 t (by
    refine st16.trans ?_
    show own_S p e below T16 m 25 #[sI p1, sI p2, sI p3, sI p4, sI v4, sI v5, sU, sU, sU, sU, sU, sU, sU, sU] [(.ref b10)] _
    refine XS.astore X16.here hx rfl (hb hby at_25) rfl rfl (l' := #[sI p1, sI p2, sI p3, sI p4, sI v4, sI v5, sR b10, sU, sU, sU, sU, sU, sU, sU]) rfl ?_
    show own_S p e below T16 m 27 #[sI p1, sI p2, sI p3, sI p4, sI v4, sI v5, sR b10, sU, sU, sU, sU, sU, sU, sU] [] _
    refine XS.iloadN X16.here hx rfl (hb hby at_27) rfl ?_
    show own_S p e below T16 m 28 #[sI p1, sI p2, sI p3, sI p4, sI v4, sI v5, sR b10, sU, sU, sU, sU, sU, sU, sU] [(.int p4)] _
    refine XS.bipush X16.here hx rfl (hb hby at_28) ?_
    show own_S p e below T16 m 30 #[sI p1, sI p2, sI p3, sI p4, sI v4, sI v5, sR b10, sU, sU, sU, sU, sU, sU, sU] [(.int 7), (.int p4)] _
    refine XS.iand X16.here hx rfl (hb hby at_30) rfl ?_
    exact k)
  obtain ⟨v7, hv7⟩ : ∃ z : Int32, z = (p4 &&& (7 : Int32)) := ⟨_, rfl⟩
  have pre20 : ∀ t, own_S p e below T16 m 31 #[sI p1, sI p2, sI p3, sI p4, sI v4, sI v5, sR b10, sU, sU, sU, sU, sU, sU, sU] [(.int v7)] t → R0 t := fun t k => pre19 t (by subst hv7; exact k)
  have pre21 : ∀ t, own_S p e below T16 m 36 #[sI p1, sI p2, sI p3, sI p4, sI v4, sI v5, sR b10, sI v7, sU, sU, sU, sU, sU, sU] [(.int 1), (.int v7)] t → R0 t := fun t k => pre20 t (by
    refine XS.istore X16.here hx rfl (hb hby at_31) rfl (l' := #[sI p1, sI p2, sI p3, sI p4, sI v4, sI v5, sR b10, sI v7, sU, sU, sU, sU, sU, sU]) rfl ?_
    show own_S p e below T16 m 33 #[sI p1, sI p2, sI p3, sI p4, sI v4, sI v5, sR b10, sI v7, sU, sU, sU, sU, sU, sU] [] _
    refine XS.iload X16.here hx rfl (hb hby at_33) rfl ?_
    show own_S p e below T16 m 35 #[sI p1, sI p2, sI p3, sI p4, sI v4, sI v5, sR b10, sI v7, sU, sU, sU, sU, sU, sU] [(.int v7)] _
    refine XS.iconst X16.here hx rfl (hb hby at_35) ?_
    exact k)
  obtain ⟨T22, Lc23, u8, X24, e25, N26, P27, pre28⟩ : ∃ (T22 : State) (Lc23 : List Loc) (u8 : Int32), Stand p l e room_1 s m #[(.int p1), (.int p2), (.int p3), (.int p4)] below meth c T22 Lc23 1 2 ∧ T22.heap = T16.heap ∧ Fr n0 Lc23 ∧ (True) ∧ ∀ t, own_S p e below T22 m 123 #[sI p1, sI p2, sI p3, sI p4, sI v4, sI v5, sR b10, sI v7, sI u8, sU, sU, sU, sU, sU] [] t → R0 t := by
    by_cases hc36 : v7 = (1 : Int32)
    · have pre29 : ∀ t, own_S p e below T16 m 123 #[sI p1, sI p2, sI p3, sI p4, sI v4, sI v5, sR b10, sI v7, sI v4, sU, sU, sU, sU, sU] [] t → R0 t := fun t k => pre21 t (by
        refine XS.icmpNo X16.here hx rfl (hb hby at_36) rfl (teq hc36).2 ?_
        show own_S p e below T16 m 39 #[sI p1, sI p2, sI p3, sI p4, sI v4, sI v5, sR b10, sI v7, sU, sU, sU, sU, sU, sU] [] _
        refine XS.iload X16.here hx rfl (hb hby at_39) rfl ?_
        show own_S p e below T16 m 41 #[sI p1, sI p2, sI p3, sI p4, sI v4, sI v5, sR b10, sI v7, sU, sU, sU, sU, sU, sU] [(.int v4)] _
        refine XS.istore X16.here hx rfl (hb hby at_41) rfl (l' := #[sI p1, sI p2, sI p3, sI p4, sI v4, sI v5, sR b10, sI v7, sI v4, sU, sU, sU, sU, sU]) rfl ?_
        show own_S p e below T16 m 43 #[sI p1, sI p2, sI p3, sI p4, sI v4, sI v5, sR b10, sI v7, sI v4, sU, sU, sU, sU, sU] [] _
        refine XS.goto X16.here hx rfl (pc0 := 43) (pc' := 123) rfl (hb hby at_43) (by decide) (by decide) ?_
        exact k)
      exact ⟨_, _, v4, X16, rfl, N16, trivial, pre29⟩
    · have pre30 : ∀ t, own_S p e below T16 m 49 #[sI p1, sI p2, sI p3, sI p4, sI v4, sI v5, sR b10, sI v7, sU, sU, sU, sU, sU, sU] [(.int 2), (.int v7)] t → R0 t := fun t k => pre21 t (by
        refine XS.icmpYes X16.here hx rfl (pc0 := 36) (pc' := 46) rfl (hb hby at_36) rfl (feq hc36).2 (by decide) (by decide) ?_
        show own_S p e below T16 m 46 #[sI p1, sI p2, sI p3, sI p4, sI v4, sI v5, sR b10, sI v7, sU, sU, sU, sU, sU, sU] [] _
        refine XS.iload X16.here hx rfl (hb hby at_46) rfl ?_
        show own_S p e below T16 m 48 #[sI p1, sI p2, sI p3, sI p4, sI v4, sI v5, sR b10, sI v7, sU, sU, sU, sU, sU, sU] [(.int v7)] _
        refine XS.iconst X16.here hx rfl (hb hby at_48) ?_
        exact k)
      by_cases hc49 : v7 = (2 : Int32)
      · have pre31 : ∀ t, own_S p e below T16 m 123 #[sI p1, sI p2, sI p3, sI p4, sI v4, sI v5, sR b10, sI v7, sI v5, sU, sU, sU, sU, sU] [] t → R0 t := fun t k => pre30 t (by
          refine XS.icmpNo X16.here hx rfl (hb hby at_49) rfl (teq hc49).2 ?_
          show own_S p e below T16 m 52 #[sI p1, sI p2, sI p3, sI p4, sI v4, sI v5, sR b10, sI v7, sU, sU, sU, sU, sU, sU] [] _
          refine XS.iload X16.here hx rfl (hb hby at_52) rfl ?_
          show own_S p e below T16 m 54 #[sI p1, sI p2, sI p3, sI p4, sI v4, sI v5, sR b10, sI v7, sU, sU, sU, sU, sU, sU] [(.int v5)] _
          refine XS.istore X16.here hx rfl (hb hby at_54) rfl (l' := #[sI p1, sI p2, sI p3, sI p4, sI v4, sI v5, sR b10, sI v7, sI v5, sU, sU, sU, sU, sU]) rfl ?_
          show own_S p e below T16 m 56 #[sI p1, sI p2, sI p3, sI p4, sI v4, sI v5, sR b10, sI v7, sI v5, sU, sU, sU, sU, sU] [] _
          refine XS.goto X16.here hx rfl (pc0 := 56) (pc' := 123) rfl (hb hby at_56) (by decide) (by decide) ?_
          exact k)
        exact ⟨_, _, v5, X16, rfl, N16, trivial, pre31⟩
      · have pre32 : ∀ t, own_S p e below T16 m 62 #[sI p1, sI p2, sI p3, sI p4, sI v4, sI v5, sR b10, sI v7, sU, sU, sU, sU, sU, sU] [(.int 3), (.int v7)] t → R0 t := fun t k => pre30 t (by
          refine XS.icmpYes X16.here hx rfl (pc0 := 49) (pc' := 59) rfl (hb hby at_49) rfl (feq hc49).2 (by decide) (by decide) ?_
          show own_S p e below T16 m 59 #[sI p1, sI p2, sI p3, sI p4, sI v4, sI v5, sR b10, sI v7, sU, sU, sU, sU, sU, sU] [] _
          refine XS.iload X16.here hx rfl (hb hby at_59) rfl ?_
          show own_S p e below T16 m 61 #[sI p1, sI p2, sI p3, sI p4, sI v4, sI v5, sR b10, sI v7, sU, sU, sU, sU, sU, sU] [(.int v7)] _
          refine XS.iconst X16.here hx rfl (hb hby at_61) ?_
          exact k)
        by_cases hc62 : v7 = (3 : Int32)
        · have pre33 : ∀ t, own_S p e below T16 m 123 #[sI p1, sI p2, sI p3, sI p4, sI v4, sI v5, sR b10, sI v7, sI (v4 - (1 : Int32)), sU, sU, sU, sU, sU] [] t → R0 t := fun t k => pre32 t (by
            refine XS.icmpNo X16.here hx rfl (hb hby at_62) rfl (teq hc62).2 ?_
            show own_S p e below T16 m 65 #[sI p1, sI p2, sI p3, sI p4, sI v4, sI v5, sR b10, sI v7, sU, sU, sU, sU, sU, sU] [] _
            refine XS.iload X16.here hx rfl (hb hby at_65) rfl ?_
            show own_S p e below T16 m 67 #[sI p1, sI p2, sI p3, sI p4, sI v4, sI v5, sR b10, sI v7, sU, sU, sU, sU, sU, sU] [(.int v4)] _
            refine XS.iconst X16.here hx rfl (hb hby at_67) ?_
            show own_S p e below T16 m 68 #[sI p1, sI p2, sI p3, sI p4, sI v4, sI v5, sR b10, sI v7, sU, sU, sU, sU, sU, sU] [(.int 1), (.int v4)] _
            refine XS.isub X16.here hx rfl (hb hby at_68) rfl ?_
            show own_S p e below T16 m 69 #[sI p1, sI p2, sI p3, sI p4, sI v4, sI v5, sR b10, sI v7, sU, sU, sU, sU, sU, sU] [(.int (v4 - (1 : Int32)))] _
            refine XS.istore X16.here hx rfl (hb hby at_69) rfl (l' := #[sI p1, sI p2, sI p3, sI p4, sI v4, sI v5, sR b10, sI v7, sI (v4 - (1 : Int32)), sU, sU, sU, sU, sU]) rfl ?_
            show own_S p e below T16 m 71 #[sI p1, sI p2, sI p3, sI p4, sI v4, sI v5, sR b10, sI v7, sI (v4 - (1 : Int32)), sU, sU, sU, sU, sU] [] _
            refine XS.goto X16.here hx rfl (pc0 := 71) (pc' := 123) rfl (hb hby at_71) (by decide) (by decide) ?_
            exact k)
          exact ⟨_, _, (v4 - (1 : Int32)), X16, rfl, N16, trivial, pre33⟩
        · have pre34 : ∀ t, own_S p e below T16 m 77 #[sI p1, sI p2, sI p3, sI p4, sI v4, sI v5, sR b10, sI v7, sU, sU, sU, sU, sU, sU] [(.int 4), (.int v7)] t → R0 t := fun t k => pre32 t (by
            refine XS.icmpYes X16.here hx rfl (pc0 := 62) (pc' := 74) rfl (hb hby at_62) rfl (feq hc62).2 (by decide) (by decide) ?_
            show own_S p e below T16 m 74 #[sI p1, sI p2, sI p3, sI p4, sI v4, sI v5, sR b10, sI v7, sU, sU, sU, sU, sU, sU] [] _
            refine XS.iload X16.here hx rfl (hb hby at_74) rfl ?_
            show own_S p e below T16 m 76 #[sI p1, sI p2, sI p3, sI p4, sI v4, sI v5, sR b10, sI v7, sU, sU, sU, sU, sU, sU] [(.int v7)] _
            refine XS.iconst X16.here hx rfl (hb hby at_76) ?_
            exact k)
          by_cases hc77 : v7 = (4 : Int32)
          · have pre35 : ∀ t, own_S p e below T16 m 123 #[sI p1, sI p2, sI p3, sI p4, sI v4, sI v5, sR b10, sI v7, sI (v5 + (1 : Int32)), sU, sU, sU, sU, sU] [] t → R0 t := fun t k => pre34 t (by
              refine XS.icmpNo X16.here hx rfl (hb hby at_77) rfl (teq hc77).2 ?_
              show own_S p e below T16 m 80 #[sI p1, sI p2, sI p3, sI p4, sI v4, sI v5, sR b10, sI v7, sU, sU, sU, sU, sU, sU] [] _
              refine XS.iload X16.here hx rfl (hb hby at_80) rfl ?_
              show own_S p e below T16 m 82 #[sI p1, sI p2, sI p3, sI p4, sI v4, sI v5, sR b10, sI v7, sU, sU, sU, sU, sU, sU] [(.int v5)] _
              refine XS.iconst X16.here hx rfl (hb hby at_82) ?_
              show own_S p e below T16 m 83 #[sI p1, sI p2, sI p3, sI p4, sI v4, sI v5, sR b10, sI v7, sU, sU, sU, sU, sU, sU] [(.int 1), (.int v5)] _
              refine XS.iadd X16.here hx rfl (hb hby at_83) rfl ?_
              show own_S p e below T16 m 84 #[sI p1, sI p2, sI p3, sI p4, sI v4, sI v5, sR b10, sI v7, sU, sU, sU, sU, sU, sU] [(.int (v5 + (1 : Int32)))] _
              refine XS.istore X16.here hx rfl (hb hby at_84) rfl (l' := #[sI p1, sI p2, sI p3, sI p4, sI v4, sI v5, sR b10, sI v7, sI (v5 + (1 : Int32)), sU, sU, sU, sU, sU]) rfl ?_
              show own_S p e below T16 m 86 #[sI p1, sI p2, sI p3, sI p4, sI v4, sI v5, sR b10, sI v7, sI (v5 + (1 : Int32)), sU, sU, sU, sU, sU] [] _
              refine XS.goto X16.here hx rfl (pc0 := 86) (pc' := 123) rfl (hb hby at_86) (by decide) (by decide) ?_
              exact k)
            exact ⟨_, _, (v5 + (1 : Int32)), X16, rfl, N16, trivial, pre35⟩
          · have pre36 : ∀ t, own_S p e below T16 m 92 #[sI p1, sI p2, sI p3, sI p4, sI v4, sI v5, sR b10, sI v7, sU, sU, sU, sU, sU, sU] [(.int 5), (.int v7)] t → R0 t := fun t k => pre34 t (by
              refine XS.icmpYes X16.here hx rfl (pc0 := 77) (pc' := 89) rfl (hb hby at_77) rfl (feq hc77).2 (by decide) (by decide) ?_
              show own_S p e below T16 m 89 #[sI p1, sI p2, sI p3, sI p4, sI v4, sI v5, sR b10, sI v7, sU, sU, sU, sU, sU, sU] [] _
              refine XS.iload X16.here hx rfl (hb hby at_89) rfl ?_
              show own_S p e below T16 m 91 #[sI p1, sI p2, sI p3, sI p4, sI v4, sI v5, sR b10, sI v7, sU, sU, sU, sU, sU, sU] [(.int v7)] _
              refine XS.iconst X16.here hx rfl (hb hby at_91) ?_
              exact k)
            by_cases hc92 : v7 = (5 : Int32)
            · have pre37 : ∀ t, own_S p e below T16 m 123 #[sI p1, sI p2, sI p3, sI p4, sI v4, sI v5, sR b10, sI v7, sI (v4 + (1 : Int32)), sU, sU, sU, sU, sU] [] t → R0 t := fun t k => pre36 t (by
                refine XS.icmpNo X16.here hx rfl (hb hby at_92) rfl (teq hc92).2 ?_
                show own_S p e below T16 m 95 #[sI p1, sI p2, sI p3, sI p4, sI v4, sI v5, sR b10, sI v7, sU, sU, sU, sU, sU, sU] [] _
                refine XS.iload X16.here hx rfl (hb hby at_95) rfl ?_
                show own_S p e below T16 m 97 #[sI p1, sI p2, sI p3, sI p4, sI v4, sI v5, sR b10, sI v7, sU, sU, sU, sU, sU, sU] [(.int v4)] _
                refine XS.iconst X16.here hx rfl (hb hby at_97) ?_
                show own_S p e below T16 m 98 #[sI p1, sI p2, sI p3, sI p4, sI v4, sI v5, sR b10, sI v7, sU, sU, sU, sU, sU, sU] [(.int 1), (.int v4)] _
                refine XS.iadd X16.here hx rfl (hb hby at_98) rfl ?_
                show own_S p e below T16 m 99 #[sI p1, sI p2, sI p3, sI p4, sI v4, sI v5, sR b10, sI v7, sU, sU, sU, sU, sU, sU] [(.int (v4 + (1 : Int32)))] _
                refine XS.istore X16.here hx rfl (hb hby at_99) rfl (l' := #[sI p1, sI p2, sI p3, sI p4, sI v4, sI v5, sR b10, sI v7, sI (v4 + (1 : Int32)), sU, sU, sU, sU, sU]) rfl ?_
                show own_S p e below T16 m 101 #[sI p1, sI p2, sI p3, sI p4, sI v4, sI v5, sR b10, sI v7, sI (v4 + (1 : Int32)), sU, sU, sU, sU, sU] [] _
                refine XS.goto X16.here hx rfl (pc0 := 101) (pc' := 123) rfl (hb hby at_101) (by decide) (by decide) ?_
                exact k)
              exact ⟨_, _, (v4 + (1 : Int32)), X16, rfl, N16, trivial, pre37⟩
            · have pre38 : ∀ t, own_S p e below T16 m 108 #[sI p1, sI p2, sI p3, sI p4, sI v4, sI v5, sR b10, sI v7, sU, sU, sU, sU, sU, sU] [(.int 6), (.int v7)] t → R0 t := fun t k => pre36 t (by
                refine XS.icmpYes X16.here hx rfl (pc0 := 92) (pc' := 104) rfl (hb hby at_92) rfl (feq hc92).2 (by decide) (by decide) ?_
                show own_S p e below T16 m 104 #[sI p1, sI p2, sI p3, sI p4, sI v4, sI v5, sR b10, sI v7, sU, sU, sU, sU, sU, sU] [] _
                refine XS.iload X16.here hx rfl (hb hby at_104) rfl ?_
                show own_S p e below T16 m 106 #[sI p1, sI p2, sI p3, sI p4, sI v4, sI v5, sR b10, sI v7, sU, sU, sU, sU, sU, sU] [(.int v7)] _
                refine XS.bipush X16.here hx rfl (hb hby at_106) ?_
                exact k)
              by_cases hc108 : v7 = (6 : Int32)
              · have pre39 : ∀ t, own_S p e below T16 m 123 #[sI p1, sI p2, sI p3, sI p4, sI v4, sI v5, sR b10, sI v7, sI (v5 - (1 : Int32)), sU, sU, sU, sU, sU] [] t → R0 t := fun t k => pre38 t (by
                  refine XS.icmpNo X16.here hx rfl (hb hby at_108) rfl (teq hc108).2 ?_
                  show own_S p e below T16 m 111 #[sI p1, sI p2, sI p3, sI p4, sI v4, sI v5, sR b10, sI v7, sU, sU, sU, sU, sU, sU] [] _
                  refine XS.iload X16.here hx rfl (hb hby at_111) rfl ?_
                  show own_S p e below T16 m 113 #[sI p1, sI p2, sI p3, sI p4, sI v4, sI v5, sR b10, sI v7, sU, sU, sU, sU, sU, sU] [(.int v5)] _
                  refine XS.iconst X16.here hx rfl (hb hby at_113) ?_
                  show own_S p e below T16 m 114 #[sI p1, sI p2, sI p3, sI p4, sI v4, sI v5, sR b10, sI v7, sU, sU, sU, sU, sU, sU] [(.int 1), (.int v5)] _
                  refine XS.isub X16.here hx rfl (hb hby at_114) rfl ?_
                  show own_S p e below T16 m 115 #[sI p1, sI p2, sI p3, sI p4, sI v4, sI v5, sR b10, sI v7, sU, sU, sU, sU, sU, sU] [(.int (v5 - (1 : Int32)))] _
                  refine XS.istore X16.here hx rfl (hb hby at_115) rfl (l' := #[sI p1, sI p2, sI p3, sI p4, sI v4, sI v5, sR b10, sI v7, sI (v5 - (1 : Int32)), sU, sU, sU, sU, sU]) rfl ?_
                  show own_S p e below T16 m 117 #[sI p1, sI p2, sI p3, sI p4, sI v4, sI v5, sR b10, sI v7, sI (v5 - (1 : Int32)), sU, sU, sU, sU, sU] [] _
                  refine XS.goto X16.here hx rfl (pc0 := 117) (pc' := 123) rfl (hb hby at_117) (by decide) (by decide) ?_
                  exact k)
                exact ⟨_, _, (v5 - (1 : Int32)), X16, rfl, N16, trivial, pre39⟩
              · have pre40 : ∀ t, own_S p e below T16 m 123 #[sI p1, sI p2, sI p3, sI p4, sI v4, sI v5, sR b10, sI v7, sI p3, sU, sU, sU, sU, sU] [] t → R0 t := fun t k => pre38 t (by
                  refine XS.icmpYes X16.here hx rfl (pc0 := 108) (pc' := 120) rfl (hb hby at_108) rfl (feq hc108).2 (by decide) (by decide) ?_
                  show own_S p e below T16 m 120 #[sI p1, sI p2, sI p3, sI p4, sI v4, sI v5, sR b10, sI v7, sU, sU, sU, sU, sU, sU] [] _
                  refine XS.iloadN X16.here hx rfl (hb hby at_120) rfl ?_
                  show own_S p e below T16 m 121 #[sI p1, sI p2, sI p3, sI p4, sI v4, sI v5, sR b10, sI v7, sU, sU, sU, sU, sU, sU] [(.int p3)] _
                  refine XS.istore X16.here hx rfl (hb hby at_121) rfl (l' := #[sI p1, sI p2, sI p3, sI p4, sI v4, sI v5, sR b10, sI v7, sI p3, sU, sU, sU, sU, sU]) rfl ?_
                  exact k)
                exact ⟨_, _, p3, X16, rfl, N16, trivial, pre40⟩
  have pre41 : ∀ t, own_S p e below T22 m 130 #[sI p1, sI p2, sI p3, sI p4, sI v4, sI v5, sR b10, sI v7, sI u8, sU, sU, sU, sU, sU] [(.long ((u8.toInt64) - (v4.toInt64)))] t → R0 t := fun t k => pre28 t (by
    refine XS.iload X24.here hx rfl (hb hby at_123) rfl ?_
    show own_S p e below T22 m 125 #[sI p1, sI p2, sI p3, sI p4, sI v4, sI v5, sR b10, sI v7, sI u8, sU, sU, sU, sU, sU] [(.int u8)] _
    refine XS.i2l X24.here hx rfl (hb hby at_125) rfl ?_
    show own_S p e below T22 m 126 #[sI p1, sI p2, sI p3, sI p4, sI v4, sI v5, sR b10, sI v7, sI u8, sU, sU, sU, sU, sU] [(.long (u8.toInt64))] _
    refine XS.iload X24.here hx rfl (hb hby at_126) rfl ?_
    show own_S p e below T22 m 128 #[sI p1, sI p2, sI p3, sI p4, sI v4, sI v5, sR b10, sI v7, sI u8, sU, sU, sU, sU, sU] [(.int v4), (.long (u8.toInt64))] _
    refine XS.i2l X24.here hx rfl (hb hby at_128) rfl ?_
    show own_S p e below T22 m 129 #[sI p1, sI p2, sI p3, sI p4, sI v4, sI v5, sR b10, sI v7, sI u8, sU, sU, sU, sU, sU] [(.long (v4.toInt64)), (.long (u8.toInt64))] _
    refine XS.lsub X24.here hx rfl (hb hby at_129) rfl ?_
    exact k)
  obtain ⟨v9, hv9⟩ : ∃ z : Int64, z = ((u8.toInt64) - (v4.toInt64)) := ⟨_, rfl⟩
  have pre42 : ∀ t, own_S p e below T22 m 130 #[sI p1, sI p2, sI p3, sI p4, sI v4, sI v5, sR b10, sI v7, sI u8, sU, sU, sU, sU, sU] [(.long v9)] t → R0 t := fun t k => pre41 t (by subst hv9; exact k)
  have r8 := rng32 u8
  have b9 : v9.toInt = u8.toInt - v4.toInt := by rw [hv9]; exact own_sub u8 v4
  have pre43 : ∀ t, own_S p e below T22 m 141 #[sI p1, sI p2, sI p3, sI p4, sI v4, sI v5, sR b10, sI v7, sI u8, sJ v9, sW, sU, sU, sU] [(.long (((v5.toInt64) - (v4.toInt64)) + (1 : Int64)))] t → R0 t := fun t k => pre42 t (by
    refine XS.lstore X24.here hx rfl (hb hby at_130) rfl (l' := #[sI p1, sI p2, sI p3, sI p4, sI v4, sI v5, sR b10, sI v7, sI u8, sJ v9, sW, sU, sU, sU]) rfl ?_
    show own_S p e below T22 m 132 #[sI p1, sI p2, sI p3, sI p4, sI v4, sI v5, sR b10, sI v7, sI u8, sJ v9, sW, sU, sU, sU] [] _
    refine XS.iload X24.here hx rfl (hb hby at_132) rfl ?_
    show own_S p e below T22 m 134 #[sI p1, sI p2, sI p3, sI p4, sI v4, sI v5, sR b10, sI v7, sI u8, sJ v9, sW, sU, sU, sU] [(.int v5)] _
    refine XS.i2l X24.here hx rfl (hb hby at_134) rfl ?_
    show own_S p e below T22 m 135 #[sI p1, sI p2, sI p3, sI p4, sI v4, sI v5, sR b10, sI v7, sI u8, sJ v9, sW, sU, sU, sU] [(.long (v5.toInt64))] _
    refine XS.iload X24.here hx rfl (hb hby at_135) rfl ?_
    show own_S p e below T22 m 137 #[sI p1, sI p2, sI p3, sI p4, sI v4, sI v5, sR b10, sI v7, sI u8, sJ v9, sW, sU, sU, sU] [(.int v4), (.long (v5.toInt64))] _
    refine XS.i2l X24.here hx rfl (hb hby at_137) rfl ?_
    show own_S p e below T22 m 138 #[sI p1, sI p2, sI p3, sI p4, sI v4, sI v5, sR b10, sI v7, sI u8, sJ v9, sW, sU, sU, sU] [(.long (v4.toInt64)), (.long (v5.toInt64))] _
    refine XS.lsub X24.here hx rfl (hb hby at_138) rfl ?_
    show own_S p e below T22 m 139 #[sI p1, sI p2, sI p3, sI p4, sI v4, sI v5, sR b10, sI v7, sI u8, sJ v9, sW, sU, sU, sU] [(.long ((v5.toInt64) - (v4.toInt64)))] _
    refine XS.lconst X24.here hx rfl (hb hby at_139) ?_
    show own_S p e below T22 m 140 #[sI p1, sI p2, sI p3, sI p4, sI v4, sI v5, sR b10, sI v7, sI u8, sJ v9, sW, sU, sU, sU] [(.long 1), (.long ((v5.toInt64) - (v4.toInt64)))] _
    refine XS.ladd X24.here hx rfl (hb hby at_140) rfl ?_
    exact k)
  obtain ⟨v11, hv11⟩ : ∃ z : Int64, z = (((v5.toInt64) - (v4.toInt64)) + (1 : Int64)) := ⟨_, rfl⟩
  have pre44 : ∀ t, own_S p e below T22 m 141 #[sI p1, sI p2, sI p3, sI p4, sI v4, sI v5, sR b10, sI v7, sI u8, sJ v9, sW, sU, sU, sU] [(.long v11)] t → R0 t := fun t k => pre43 t (by subst hv11; exact k)
  have b11 : v11.toInt = v5.toInt - v4.toInt + 1 := by rw [hv11, own_inc _ (by rw [own_sub]; omega), own_sub]
  have pre45 : ∀ t, own_S p e below T22 m 147 #[sI p1, sI p2, sI p3, sI p4, sI v4, sI v5, sR b10, sI v7, sI u8, sJ v9, sW, sJ v11, sW, sU] [(.int (lcmpW v9 (0 : Int64)))] t → R0 t := fun t k => pre44 t (by
    refine XS.lstore X24.here hx rfl (hb hby at_141) rfl (l' := #[sI p1, sI p2, sI p3, sI p4, sI v4, sI v5, sR b10, sI v7, sI u8, sJ v9, sW, sJ v11, sW, sU]) rfl ?_
    show own_S p e below T22 m 143 #[sI p1, sI p2, sI p3, sI p4, sI v4, sI v5, sR b10, sI v7, sI u8, sJ v9, sW, sJ v11, sW, sU] [] _
    refine XS.lload X24.here hx rfl (hb hby at_143) rfl ?_
    show own_S p e below T22 m 145 #[sI p1, sI p2, sI p3, sI p4, sI v4, sI v5, sR b10, sI v7, sI u8, sJ v9, sW, sJ v11, sW, sU] [(.long v9)] _
    refine XS.lconst X24.here hx rfl (hb hby at_145) ?_
    show own_S p e below T22 m 146 #[sI p1, sI p2, sI p3, sI p4, sI v4, sI v5, sR b10, sI v7, sI u8, sJ v9, sW, sJ v11, sW, sU] [(.long 0), (.long v9)] _
    refine XS.lcmp X24.here hx rfl (hb hby at_146) rfl ?_
    exact k)
  by_cases hc147 : v9 < (0 : Int64)
  · have pre46 : ∀ t, own_S p e below T22 m 169 #[sI p1, sI p2, sI p3, sI p4, sI v4, sI v5, sR b10, sI v7, sI u8, sJ v9, sW, sJ v11, sW, sI 0] [(.int u8), (.ref b10)] t → R0 t := fun t k => pre45 t (by
      refine XS.ifYes X24.here hx rfl (pc0 := 147) (pc' := 162) rfl (hb hby at_147) rfl ((if0 _ _).trans (tlt ((lw_lt _ _).mpr hc147)).1) (by decide) (by decide) ?_
      show own_S p e below T22 m 162 #[sI p1, sI p2, sI p3, sI p4, sI v4, sI v5, sR b10, sI v7, sI u8, sJ v9, sW, sJ v11, sW, sU] [] _
      refine XS.iconst X24.here hx rfl (hb hby at_162) ?_
      show own_S p e below T22 m 163 #[sI p1, sI p2, sI p3, sI p4, sI v4, sI v5, sR b10, sI v7, sI u8, sJ v9, sW, sJ v11, sW, sU] [(.int 0)] _
      refine XS.istore X24.here hx rfl (hb hby at_163) rfl (l' := #[sI p1, sI p2, sI p3, sI p4, sI v4, sI v5, sR b10, sI v7, sI u8, sJ v9, sW, sJ v11, sW, sI 0]) rfl ?_
      show own_S p e below T22 m 165 #[sI p1, sI p2, sI p3, sI p4, sI v4, sI v5, sR b10, sI v7, sI u8, sJ v9, sW, sJ v11, sW, sI 0] [] _
      refine XS.aload X24.here hx rfl (hb hby at_165) rfl rfl ?_
      show own_S p e below T22 m 167 #[sI p1, sI p2, sI p3, sI p4, sI v4, sI v5, sR b10, sI v7, sI u8, sJ v9, sW, sJ v11, sW, sI 0] [(.ref b10)] _
      refine XS.iload X24.here hx rfl (hb hby at_167) rfl ?_
      exact k)
    obtain ⟨cq47, kq47, q47a, q47b, q47c⟩ := isOf hZ e25 ex16
    obtain ⟨_, _, ⟨T47, L47, k47, n47⟩, -, X47, ⟨Lc47, hQ47, l47, y47, z47⟩, st47⟩ := X24.virtualBack hx (y := own_y4) (z := own_y4) hown (mvT hZ hw25) (mvT hZ hw26) (notFace_of_selects (args := #[]) (mvT hZ hw28)) (mvT hZ hw28) (mvT hZ hw27) (by decide) (backOf (W := 0) (own_rm6 l Z a0 hw [] b10 u8 v4 v5 T16.heap n0 f17 fx16_0 fx16_1) hZ hw29 hw9 (by decide) (by decide)) q47a q47c (g := (mkF m 169 #[sI p1, sI p2, sI p3, sI p4, sI v4, sI v5, sR b10, sI v7, sI u8, sJ v9, sW, sJ v11, sW, sI 0] [(.int u8), (.ref b10)])) rfl (by rw [hml]; rfl) (Steps.refl _) (argsL := [(.int u8)]) (rest := []) (lenOf own_pd_3 rfl) rfl (by show 2 * 0 + _ ≤ _; exact Nat.le_of_eq rfl) (hb hby at_169) (fun _ _ => ⟨rfl, e25, (by decide : 1 + 0 ≤ _), (by decide : 2 + 0 ≤ _)⟩)
    dsimp only [Pt.U, Pt.locs, Pt.cells, Pt.slots] at X47 l47 y47 z47 st47 hQ47
    subst l47 y47 z47
    obtain ⟨rfl, N47q, eh47⟩ := hQ47
    have N47 := Fr.app N26 N47q
    have pre48 : ∀ t, own_S p e below T47 m 174 #[sI p1, sI p2, sI p3, sI p4, sI v4, sI v5, sR b10, sI v7, sI u8, sJ v9, sW, sJ v11, sW, sI 0] [(.int 0), (.int (if v4.toInt ≤ u8.toInt ∧ u8.toInt ≤ v5.toInt then (1 : Int32) else 0))] t → R0 t := fun t k => pre46 t (by
      refine st47.trans ?_
      show own_S p e below T47 m 172 #[sI p1, sI p2, sI p3, sI p4, sI v4, sI v5, sR b10, sI v7, sI u8, sJ v9, sW, sJ v11, sW, sI 0] [(.int (if v4.toInt ≤ u8.toInt ∧ u8.toInt ≤ v5.toInt then (1 : Int32) else 0))] _
      refine XS.iload X47.here hx rfl (hb hby at_172) rfl ?_
      exact k)
    have hc49 : (if v4.toInt ≤ u8.toInt ∧ u8.toInt ≤ v5.toInt then (1 : Int32) else 0) = (0 : Int32) := if_neg (by simp only [Int64.lt_iff_toInt_lt, Int64.reduceToInt] at hc147; omega)
    have pre50 : ∀ t, own_S p e below T47 m 182 #[sI p1, sI p2, sI p3, sI p4, sI v4, sI v5, sR b10, sI v7, sI u8, sJ v9, sW, sJ v11, sW, sI 0] [(.int 1)] t → R0 t := fun t k => pre48 t (by
      refine XS.icmpNo X47.here hx rfl (hb hby at_174) rfl (teq hc49).2 ?_
      show own_S p e below T47 m 177 #[sI p1, sI p2, sI p3, sI p4, sI v4, sI v5, sR b10, sI v7, sI u8, sJ v9, sW, sJ v11, sW, sI 0] [] _
      refine XS.iconst X47.here hx rfl (hb hby at_177) ?_
      show own_S p e below T47 m 178 #[sI p1, sI p2, sI p3, sI p4, sI v4, sI v5, sR b10, sI v7, sI u8, sJ v9, sW, sJ v11, sW, sI 0] [(.int 1)] _
      refine XS.goto X47.here hx rfl (pc0 := 178) (pc' := 182) rfl (hb hby at_178) (by decide) (by decide) ?_
      exact k)
    obtain ⟨fs, hr, hrun, hended, hW, hsame⟩ := X47.leave (v := some (.int 1)) (fun h => by rw [Bd.returns] at h; cases h)
    refine ⟨_, _, cast (congrFun hR0 _) (pre50 _ (retN X47 hx (t := .boolean) Bd.returns (by simp) (hb hby at_182) hr)), hrun, hended, _, _, rfl, ?_, ⟨_, rfl⟩, hW, hsame.mono (by decide) (by decide)⟩
    show own_Q0 Z _ _ _ _ h0 n0 _ T47.heap _
    rw [eh47]
    exact ⟨rfl, N47⟩
  · have pre51 : ∀ t, own_S p e below T22 m 155 #[sI p1, sI p2, sI p3, sI p4, sI v4, sI v5, sR b10, sI v7, sI u8, sJ v9, sW, sJ v11, sW, sU] [(.int (lcmpW v9 v11))] t → R0 t := fun t k => pre45 t (by
      refine XS.ifNo X24.here hx rfl (hb hby at_147) rfl ((if0 _ _).trans (flt (mt (lw_lt _ _).mp hc147)).1) ?_
      show own_S p e below T22 m 150 #[sI p1, sI p2, sI p3, sI p4, sI v4, sI v5, sR b10, sI v7, sI u8, sJ v9, sW, sJ v11, sW, sU] [] _
      refine XS.lload X24.here hx rfl (hb hby at_150) rfl ?_
      show own_S p e below T22 m 152 #[sI p1, sI p2, sI p3, sI p4, sI v4, sI v5, sR b10, sI v7, sI u8, sJ v9, sW, sJ v11, sW, sU] [(.long v9)] _
      refine XS.lload X24.here hx rfl (hb hby at_152) rfl ?_
      show own_S p e below T22 m 154 #[sI p1, sI p2, sI p3, sI p4, sI v4, sI v5, sR b10, sI v7, sI u8, sJ v9, sW, sJ v11, sW, sU] [(.long v11), (.long v9)] _
      refine XS.lcmp X24.here hx rfl (hb hby at_154) rfl ?_
      exact k)
    by_cases hc155 : v9 < v11
    · have pre52 : ∀ t, own_S p e below T22 m 169 #[sI p1, sI p2, sI p3, sI p4, sI v4, sI v5, sR b10, sI v7, sI u8, sJ v9, sW, sJ v11, sW, sI 1] [(.int u8), (.ref b10)] t → R0 t := fun t k => pre51 t (by
        refine XS.ifNo X24.here hx rfl (hb hby at_155) rfl ((if0 _ _).trans (tlt ((lw_lt _ _).mpr hc155)).2.1) ?_
        show own_S p e below T22 m 158 #[sI p1, sI p2, sI p3, sI p4, sI v4, sI v5, sR b10, sI v7, sI u8, sJ v9, sW, sJ v11, sW, sU] [] _
        refine XS.iconst X24.here hx rfl (hb hby at_158) ?_
        show own_S p e below T22 m 159 #[sI p1, sI p2, sI p3, sI p4, sI v4, sI v5, sR b10, sI v7, sI u8, sJ v9, sW, sJ v11, sW, sU] [(.int 1)] _
        refine XS.goto X24.here hx rfl (pc0 := 159) (pc' := 163) rfl (hb hby at_159) (by decide) (by decide) ?_
        show own_S p e below T22 m 163 #[sI p1, sI p2, sI p3, sI p4, sI v4, sI v5, sR b10, sI v7, sI u8, sJ v9, sW, sJ v11, sW, sU] [(.int 1)] _
        refine XS.istore X24.here hx rfl (hb hby at_163) rfl (l' := #[sI p1, sI p2, sI p3, sI p4, sI v4, sI v5, sR b10, sI v7, sI u8, sJ v9, sW, sJ v11, sW, sI 1]) rfl ?_
        show own_S p e below T22 m 165 #[sI p1, sI p2, sI p3, sI p4, sI v4, sI v5, sR b10, sI v7, sI u8, sJ v9, sW, sJ v11, sW, sI 1] [] _
        refine XS.aload X24.here hx rfl (hb hby at_165) rfl rfl ?_
        show own_S p e below T22 m 167 #[sI p1, sI p2, sI p3, sI p4, sI v4, sI v5, sR b10, sI v7, sI u8, sJ v9, sW, sJ v11, sW, sI 1] [(.ref b10)] _
        refine XS.iload X24.here hx rfl (hb hby at_167) rfl ?_
        exact k)
      obtain ⟨cq53, kq53, q53a, q53b, q53c⟩ := isOf hZ e25 ex16
      obtain ⟨_, _, ⟨T53, L53, k53, n53⟩, -, X53, ⟨Lc53, hQ53, l53, y53, z53⟩, st53⟩ := X24.virtualBack hx (y := own_y4) (z := own_y4) hown (mvT hZ hw25) (mvT hZ hw26) (notFace_of_selects (args := #[]) (mvT hZ hw28)) (mvT hZ hw28) (mvT hZ hw27) (by decide) (backOf (W := 0) (own_rm6 l Z a0 hw [] b10 u8 v4 v5 T16.heap n0 f17 fx16_0 fx16_1) hZ hw29 hw9 (by decide) (by decide)) q53a q53c (g := (mkF m 169 #[sI p1, sI p2, sI p3, sI p4, sI v4, sI v5, sR b10, sI v7, sI u8, sJ v9, sW, sJ v11, sW, sI 1] [(.int u8), (.ref b10)])) rfl (by rw [hml]; rfl) (Steps.refl _) (argsL := [(.int u8)]) (rest := []) (lenOf own_pd_3 rfl) rfl (by show 2 * 0 + _ ≤ _; exact Nat.le_of_eq rfl) (hb hby at_169) (fun _ _ => ⟨rfl, e25, (by decide : 1 + 0 ≤ _), (by decide : 2 + 0 ≤ _)⟩)
      dsimp only [Pt.U, Pt.locs, Pt.cells, Pt.slots] at X53 l53 y53 z53 st53 hQ53
      subst l53 y53 z53
      obtain ⟨rfl, N53q, eh53⟩ := hQ53
      have N53 := Fr.app N26 N53q
      have pre54 : ∀ t, own_S p e below T53 m 174 #[sI p1, sI p2, sI p3, sI p4, sI v4, sI v5, sR b10, sI v7, sI u8, sJ v9, sW, sJ v11, sW, sI 1] [(.int 1), (.int (if v4.toInt ≤ u8.toInt ∧ u8.toInt ≤ v5.toInt then (1 : Int32) else 0))] t → R0 t := fun t k => pre52 t (by
        refine st53.trans ?_
        show own_S p e below T53 m 172 #[sI p1, sI p2, sI p3, sI p4, sI v4, sI v5, sR b10, sI v7, sI u8, sJ v9, sW, sJ v11, sW, sI 1] [(.int (if v4.toInt ≤ u8.toInt ∧ u8.toInt ≤ v5.toInt then (1 : Int32) else 0))] _
        refine XS.iload X53.here hx rfl (hb hby at_172) rfl ?_
        exact k)
      have hc55 : (if v4.toInt ≤ u8.toInt ∧ u8.toInt ≤ v5.toInt then (1 : Int32) else 0) = (1 : Int32) := if_pos (by simp only [Int64.lt_iff_toInt_lt, Int64.reduceToInt] at hc147 hc155; omega)
      have pre56 : ∀ t, own_S p e below T53 m 182 #[sI p1, sI p2, sI p3, sI p4, sI v4, sI v5, sR b10, sI v7, sI u8, sJ v9, sW, sJ v11, sW, sI 1] [(.int 1)] t → R0 t := fun t k => pre54 t (by
        refine XS.icmpNo X53.here hx rfl (hb hby at_174) rfl (teq hc55).2 ?_
        show own_S p e below T53 m 177 #[sI p1, sI p2, sI p3, sI p4, sI v4, sI v5, sR b10, sI v7, sI u8, sJ v9, sW, sJ v11, sW, sI 1] [] _
        refine XS.iconst X53.here hx rfl (hb hby at_177) ?_
        show own_S p e below T53 m 178 #[sI p1, sI p2, sI p3, sI p4, sI v4, sI v5, sR b10, sI v7, sI u8, sJ v9, sW, sJ v11, sW, sI 1] [(.int 1)] _
        refine XS.goto X53.here hx rfl (pc0 := 178) (pc' := 182) rfl (hb hby at_178) (by decide) (by decide) ?_
        exact k)
      obtain ⟨fs, hr, hrun, hended, hW, hsame⟩ := X53.leave (v := some (.int 1)) (fun h => by rw [Bd.returns] at h; cases h)
      refine ⟨_, _, cast (congrFun hR0 _) (pre56 _ (retN X53 hx (t := .boolean) Bd.returns (by simp) (hb hby at_182) hr)), hrun, hended, _, _, rfl, ?_, ⟨_, rfl⟩, hW, hsame.mono (by decide) (by decide)⟩
      show own_Q0 Z _ _ _ _ h0 n0 _ T53.heap _
      rw [eh53]
      exact ⟨rfl, N53⟩
    · have pre57 : ∀ t, own_S p e below T22 m 169 #[sI p1, sI p2, sI p3, sI p4, sI v4, sI v5, sR b10, sI v7, sI u8, sJ v9, sW, sJ v11, sW, sI 0] [(.int u8), (.ref b10)] t → R0 t := fun t k => pre51 t (by
        refine XS.ifYes X24.here hx rfl (pc0 := 155) (pc' := 162) rfl (hb hby at_155) rfl ((if0 _ _).trans (flt (mt (lw_lt _ _).mp hc155)).2.1) (by decide) (by decide) ?_
        show own_S p e below T22 m 162 #[sI p1, sI p2, sI p3, sI p4, sI v4, sI v5, sR b10, sI v7, sI u8, sJ v9, sW, sJ v11, sW, sU] [] _
        refine XS.iconst X24.here hx rfl (hb hby at_162) ?_
        show own_S p e below T22 m 163 #[sI p1, sI p2, sI p3, sI p4, sI v4, sI v5, sR b10, sI v7, sI u8, sJ v9, sW, sJ v11, sW, sU] [(.int 0)] _
        refine XS.istore X24.here hx rfl (hb hby at_163) rfl (l' := #[sI p1, sI p2, sI p3, sI p4, sI v4, sI v5, sR b10, sI v7, sI u8, sJ v9, sW, sJ v11, sW, sI 0]) rfl ?_
        show own_S p e below T22 m 165 #[sI p1, sI p2, sI p3, sI p4, sI v4, sI v5, sR b10, sI v7, sI u8, sJ v9, sW, sJ v11, sW, sI 0] [] _
        refine XS.aload X24.here hx rfl (hb hby at_165) rfl rfl ?_
        show own_S p e below T22 m 167 #[sI p1, sI p2, sI p3, sI p4, sI v4, sI v5, sR b10, sI v7, sI u8, sJ v9, sW, sJ v11, sW, sI 0] [(.ref b10)] _
        refine XS.iload X24.here hx rfl (hb hby at_167) rfl ?_
        exact k)
      obtain ⟨cq58, kq58, q58a, q58b, q58c⟩ := isOf hZ e25 ex16
      obtain ⟨_, _, ⟨T58, L58, k58, n58⟩, -, X58, ⟨Lc58, hQ58, l58, y58, z58⟩, st58⟩ := X24.virtualBack hx (y := own_y4) (z := own_y4) hown (mvT hZ hw25) (mvT hZ hw26) (notFace_of_selects (args := #[]) (mvT hZ hw28)) (mvT hZ hw28) (mvT hZ hw27) (by decide) (backOf (W := 0) (own_rm6 l Z a0 hw [] b10 u8 v4 v5 T16.heap n0 f17 fx16_0 fx16_1) hZ hw29 hw9 (by decide) (by decide)) q58a q58c (g := (mkF m 169 #[sI p1, sI p2, sI p3, sI p4, sI v4, sI v5, sR b10, sI v7, sI u8, sJ v9, sW, sJ v11, sW, sI 0] [(.int u8), (.ref b10)])) rfl (by rw [hml]; rfl) (Steps.refl _) (argsL := [(.int u8)]) (rest := []) (lenOf own_pd_3 rfl) rfl (by show 2 * 0 + _ ≤ _; exact Nat.le_of_eq rfl) (hb hby at_169) (fun _ _ => ⟨rfl, e25, (by decide : 1 + 0 ≤ _), (by decide : 2 + 0 ≤ _)⟩)
      dsimp only [Pt.U, Pt.locs, Pt.cells, Pt.slots] at X58 l58 y58 z58 st58 hQ58
      subst l58 y58 z58
      obtain ⟨rfl, N58q, eh58⟩ := hQ58
      have N58 := Fr.app N26 N58q
      have pre59 : ∀ t, own_S p e below T58 m 174 #[sI p1, sI p2, sI p3, sI p4, sI v4, sI v5, sR b10, sI v7, sI u8, sJ v9, sW, sJ v11, sW, sI 0] [(.int 0), (.int (if v4.toInt ≤ u8.toInt ∧ u8.toInt ≤ v5.toInt then (1 : Int32) else 0))] t → R0 t := fun t k => pre57 t (by
        refine st58.trans ?_
        show own_S p e below T58 m 172 #[sI p1, sI p2, sI p3, sI p4, sI v4, sI v5, sR b10, sI v7, sI u8, sJ v9, sW, sJ v11, sW, sI 0] [(.int (if v4.toInt ≤ u8.toInt ∧ u8.toInt ≤ v5.toInt then (1 : Int32) else 0))] _
        refine XS.iload X58.here hx rfl (hb hby at_172) rfl ?_
        exact k)
      have hc60 : (if v4.toInt ≤ u8.toInt ∧ u8.toInt ≤ v5.toInt then (1 : Int32) else 0) = (0 : Int32) := if_neg (by simp only [Int64.lt_iff_toInt_lt, Int64.reduceToInt] at hc147 hc155; omega)
      have pre61 : ∀ t, own_S p e below T58 m 182 #[sI p1, sI p2, sI p3, sI p4, sI v4, sI v5, sR b10, sI v7, sI u8, sJ v9, sW, sJ v11, sW, sI 0] [(.int 1)] t → R0 t := fun t k => pre59 t (by
        refine XS.icmpNo X58.here hx rfl (hb hby at_174) rfl (teq hc60).2 ?_
        show own_S p e below T58 m 177 #[sI p1, sI p2, sI p3, sI p4, sI v4, sI v5, sR b10, sI v7, sI u8, sJ v9, sW, sJ v11, sW, sI 0] [] _
        refine XS.iconst X58.here hx rfl (hb hby at_177) ?_
        show own_S p e below T58 m 178 #[sI p1, sI p2, sI p3, sI p4, sI v4, sI v5, sR b10, sI v7, sI u8, sJ v9, sW, sJ v11, sW, sI 0] [(.int 1)] _
        refine XS.goto X58.here hx rfl (pc0 := 178) (pc' := 182) rfl (hb hby at_178) (by decide) (by decide) ?_
        exact k)
      obtain ⟨fs, hr, hrun, hended, hW, hsame⟩ := X58.leave (v := some (.int 1)) (fun h => by rw [Bd.returns] at h; cases h)
      refine ⟨_, _, cast (congrFun hR0 _) (pre61 _ (retN X58 hx (t := .boolean) Bd.returns (by simp) (hb hby at_182) hr)), hrun, hended, _, _, rfl, ?_, ⟨_, rfl⟩, hW, hsame.mono (by decide) (by decide)⟩
      show own_Q0 Z _ _ _ _ h0 n0 _ T58.heap _
      rw [eh58]
      exact ⟨rfl, N58⟩
set_option maxRecDepth 65536 in
set_option maxHeartbeats 40000000 in
theorem own_comes {Post : Tables → Env → Array Value → State → Outcome → State → Prop} (hpost : ∀ tb e args s v u, (limb_1_1.after args s (.returned v) u = true ∧ limb_1_2.after args s (.returned v) u = true ∧ True) → FrameEnd s (.returned v) u (Jvm.fieldLocs frame_1_writes args s ++ Jvm.arrayLocs frame_1_arrays args s ++ Jvm.staticLocs frame_1_statics s) 16 128 → Post tb e args s (.returned v) u) :
    ArmFor flags0 classFile x code maxLocals ret World_1 tables_1 room_1 Calls_1 rest_1 Pre_1 Post := by
  intro l hfl _ _ p e ha hc hk s m args below hf hA hF happ hP
  obtain ⟨hcalls, hrest, hpre⟩ := hP
  obtain ⟨-, -, -, hnamed, -, -, -, hat⟩ := (Spec.applies_iff hf).mp happ
  obtain ⟨hg, hn⟩ := and_e (Cond.before_iff.mp (show (Jvm.Cond.and given_1 narrow_1).before args s = true from hpre))
  obtain ⟨hcount, hg0⟩ := and_e hg
  obtain ⟨ha0, hg1⟩ := and_e hg0
  obtain ⟨ha1, hg2⟩ := and_e hg1
  obtain ⟨ha2, hg3⟩ := and_e hg2
  have ha3 := hg3
  obtain ⟨w0, w1, w2, w3, rfl⟩ : ∃ w0 w1 w2 w3 : Value, args = #[w0, w1, w2, w3] := by
    have hs : args.size = 4 := by simpa [Cond.value, given_1] using hcount
    obtain ⟨L⟩ := args
    match L, hs with
    | [w0, w1, w2, w3], _ => exact ⟨w0, w1, w2, w3, rfl⟩
  have hw := fun d (hd : d ∈ tables_1) => atoms_spec (ws := Jvm.Cond.code x code maxLocals ret :: tables_1) hat d (List.mem_cons_of_mem _ hd)
  have hfit : Fit s := fun {y c} hc i hi => by
    obtain ⟨ha, rfl⟩ := Array.getElem?_eq_some_iff.mp hc
    have q := List.all_eq_true.mp ((Array.all_eq_true_iff_forall_mem.mp hF) _ (Array.getElem_mem ha)) i (List.mem_range.mpr hi)
    simpa [Array.getElem?_eq_getElem hi] using q
  obtain ⟨i0, ei0⟩ := is_v ha0
  obtain rfl : w0 = (.int i0) := Option.some.inj ei0
  obtain ⟨i1, ei1⟩ := is_v ha1
  obtain rfl : w1 = (.int i1) := Option.some.inj ei1
  obtain ⟨i2, ei2⟩ := is_v ha2
  obtain rfl : w2 = (.int i2) := Option.some.inj ei2
  obtain ⟨i3, ei3⟩ := is_v ha3
  obtain rfl : w3 = (.int i3) := Option.some.inj ei3
  obtain ⟨n, o, h1, h2, h3, _, L, rfl, ⟨rfl, N⟩, hq⟩ := own_rm0 l s _ hw tables_1 i0 i1 i2 i3  s.heap s.heap.size (Nat.le_refl _)  p e ha hc hk s m _ below hf ((Spec.applies_iff_loose hf).mp happ).1 ⟨rfl, State.Warmed39.refl s, rfl⟩ trivial
  refine ⟨n, _, h1, h2, h3, hpost _ _ _ _ _ _ ⟨Cond.after_iff.mpr rfl, Cond.after_iff.mpr (eq_i res_at (Term.int_eval (1)) rfl), trivial⟩ ⟨hq.1, hq.2.1, (hq.2.2.sift fun y hy => Or.inr (N y hy)).mono (by decide) (by decide)⟩⟩
theorem main_1_1 : Claimed_1_1 := own_comes fun _ _ _ _ _ _ h hF => ⟨h.1, hF⟩
theorem main_1_2 : Claimed_1_2 := own_comes fun _ _ _ _ _ _ h hF => ⟨h.2.1, hF⟩
end Jvm.Pilot.@@N@@
namespace Jvm.Pilot.@@N@@
open Jvm Jvm.ClassFile Sem Op Lib Jvm.Free Jvm.Stand Jvm.Pilot.@@N@@.Jvm.D
/-! MADE BY PROGRAM (witnessworld.py) out of the Statement's table words and the real class files: 11 classes; the members and pool entries that the words name. The judged class is class 1, her method 1. -/
namespace start1
open Jvm.ClassFile
def u (s : String) : CpInfo := .utf8 (stringToUtf16 s)
/-- a pool by its gaps: so many unusable entries, then the entry; so many at the end -/
def gap : Nat → List CpInfo → List CpInfo
  | 0, r => r
  | n + 1, r => .unusable :: gap n r
def poolList (es : List (Nat × CpInfo)) (last : Nat) : List CpInfo := es.foldr (fun e r => gap e.1 (e.2 :: r)) (gap last [])
def pool (es : List (Nat × CpInfo)) (last : Nat) : Array CpInfo := ⟨poolList es last⟩
def fileOf (pool : Array CpInfo) (this : Nat) (attrs : Array Attribute := #[]) (ms : Array MethodInfo := #[]) (fl : Nat := 33) (sup : Nat := 0) (ifs : Array Nat := #[]) (fds : Array FieldInfo := #[]) : ClassFile where
  minorVersion := 0
  majorVersion := 65
  constantPool := pool
  accessFlags := fl
  thisClass := this
  superClass := sup
  interfaces := ifs
  fields := fds
  methods := ms
  attributes := attrs
def plain (name : String) (sup : Option ClassId) : Class where
  name := name
  kind := .ordinary
  loader := none
  accessFlags := 33
  super := sup
  interfaces := #[]
  cf := none
  fields := #[]
  methods := #[]
  instanceTypes := #[]
  staticTypes := #[]
  resolved := #[]
  callSites := []
  init := .initialized
  statics := none
  mirror := none

def pool0 : Array CpInfo := pool [(5, u "<init>"), (0, u "()V"), (1, .class_ 10), (1, u "java/lang/Object")] 113

def k0c0 : Code := { maxStack := 0, maxLocals := 1, code := object_method_1_code, exceptionTable := #[], attributes := #[] }
def k0m0 : Method := { name := "<init>", desc := "()V", sig := { parameters := [], returnType := none }, accessFlags := 1, code := some k0c0 }
/-- java/lang/Object -/
def k0 : Class := { plain "java/lang/Object" none with
  accessFlags := 33
  interfaces := #[]
  cf := some (fileOf pool0 8 #[] #[{ accessFlags := 1, nameIndex := 5, descriptorIndex := 6, attributes := #[] }] 33 0 #[] #[])
  fields := #[]
  methods := #[k0m0]
  instanceTypes := #[]
  staticTypes := #[]
  resolved := Array.replicate 124 none
  statics := none }

def pool1 : Array CpInfo := pool [(2, .class_ 4), (1, u "java/lang/Object"), (0, u "<init>"), (0, u "()V"), (0, .methodref 8 9), (0, .class_ 10), (0, .nameAndType 11 12), (0, u "java/lang/Math"), (0, u "min"), (0, u "(II)I"), (0, .methodref 8 14), (0, .nameAndType 15 12), (0, u "max"), (0, .class_ 17), (0, u "com/example/tendersense/tendersense/Interval"), (0, .methodref 16 19), (0, .nameAndType 5 20), (0, u "(II)V"), (0, .methodref 16 22), (0, .nameAndType 23 24), (0, u "contains"), (0, u "(I)Z"), (0, .class_ 26), (0, u "com/example/tendersense/tendersense/IntervalContainsPinLaw"), (2, u "law"), (0, u "(IIII)Z")] 3

def k1m0 : Method := { name := "<init>", desc := "()V", sig := { parameters := [], returnType := none }, accessFlags := 2, code := none }
def k1c1 : Code := { maxStack := 4, maxLocals := 14, code := code, exceptionTable := #[], attributes := #[] }
def k1m1 : Method := { name := "law", desc := "(IIII)Z", sig := { parameters := [.int, .int, .int, .int], returnType := some .boolean }, accessFlags := 9, code := some k1c1 }
/-- com/example/tendersense/tendersense/IntervalContainsPinLaw -/
def k1 : Class := { plain "com/example/tendersense/tendersense/IntervalContainsPinLaw" (some 0) with
  accessFlags := 49
  interfaces := #[]
  cf := some (fileOf pool1 25 #[] #[{ accessFlags := 2, nameIndex := 5, descriptorIndex := 6, attributes := #[] }, { accessFlags := 9, nameIndex := 29, descriptorIndex := 30, attributes := #[] }] 49 2 #[] #[])
  fields := #[]
  methods := #[k1m0, k1m1]
  instanceTypes := #[]
  staticTypes := #[]
  resolved := Array.replicate 34 none
  statics := none }

def pool2 : Array CpInfo := pool [(1, .class_ 2), (0, u "java/lang/Math"), (1, .class_ 6), (1, u "java/lang/Object"), (0, u "<init>"), (0, u "()V"), (89, .class_ 100), (1, u "java/lang/Math$RandomNumberGeneratorHolder"), (71, u "negativeZeroFloatBits"), (0, u "J"), (2, u "negativeZeroDoubleBits"), (21, u "max"), (2, u "min"), (43, u "$assertionsDisabled"), (0, u "Z"), (88, u "(II)I"), (2, u "twoToTheDoubleScaleDown"), (0, u "D"), (4, u "twoToTheDoubleScaleUp"), (9, u "E"), (3, u "PI"), (2, u "TAU"), (2, u "DEGREES_TO_RADIANS"), (0, u "RADIANS_TO_DEGREES")] 94

def k2m0 : Method := { name := "<init>", desc := "()V", sig := { parameters := [], returnType := none }, accessFlags := 2, code := none }
def k2c1 : Code := { maxStack := 2, maxLocals := 2, code := jdk_29_method_65_code, exceptionTable := #[], attributes := #[] }
def k2m1 : Method := { name := "max", desc := "(II)I", sig := { parameters := [.int, .int], returnType := some .int }, accessFlags := 9, code := some k2c1 }
def k2c2 : Code := { maxStack := 2, maxLocals := 2, code := jdk_29_method_69_code, exceptionTable := #[], attributes := #[] }
def k2m2 : Method := { name := "min", desc := "(II)I", sig := { parameters := [.int, .int], returnType := some .int }, accessFlags := 9, code := some k2c2 }
/-- java/lang/Math -/
def k2 : Class := { plain "java/lang/Math" (some 0) with
  accessFlags := 49
  interfaces := #[]
  cf := some (fileOf pool2 1 #[.nestMembers #[98]] #[{ accessFlags := 2, nameIndex := 7, descriptorIndex := 8, attributes := #[] }, { accessFlags := 9, nameIndex := 198, descriptorIndex := 335, attributes := #[] }, { accessFlags := 9, nameIndex := 201, descriptorIndex := 335, attributes := #[] }] 49 4 #[] #[{ accessFlags := 25, nameIndex := 354, descriptorIndex := 339, attributes := #[] }, { accessFlags := 25, nameIndex := 358, descriptorIndex := 339, attributes := #[] }, { accessFlags := 25, nameIndex := 361, descriptorIndex := 339, attributes := #[] }, { accessFlags := 26, nameIndex := 364, descriptorIndex := 339, attributes := #[] }, { accessFlags := 26, nameIndex := 365, descriptorIndex := 339, attributes := #[] }, { accessFlags := 26, nameIndex := 172, descriptorIndex := 173, attributes := #[] }, { accessFlags := 26, nameIndex := 176, descriptorIndex := 173, attributes := #[] }, { accessFlags := 8, nameIndex := 344, descriptorIndex := 339, attributes := #[] }, { accessFlags := 8, nameIndex := 338, descriptorIndex := 339, attributes := #[] }, { accessFlags := 4120, nameIndex := 245, descriptorIndex := 246, attributes := #[] }])
  fields := #[{ name := "E", type := .double, accessFlags := 25, slot := 0, constantValue := 0 }, { name := "PI", type := .double, accessFlags := 25, slot := 1, constantValue := 0 }, { name := "TAU", type := .double, accessFlags := 25, slot := 2, constantValue := 0 }, { name := "DEGREES_TO_RADIANS", type := .double, accessFlags := 26, slot := 3, constantValue := 0 }, { name := "RADIANS_TO_DEGREES", type := .double, accessFlags := 26, slot := 4, constantValue := 0 }, { name := "negativeZeroFloatBits", type := .long, accessFlags := 26, slot := 5, constantValue := 0 }, { name := "negativeZeroDoubleBits", type := .long, accessFlags := 26, slot := 6, constantValue := 0 }, { name := "twoToTheDoubleScaleUp", type := .double, accessFlags := 8, slot := 7, constantValue := 0 }, { name := "twoToTheDoubleScaleDown", type := .double, accessFlags := 8, slot := 8, constantValue := 0 }, { name := "$assertionsDisabled", type := .boolean, accessFlags := 4120, slot := 9, constantValue := 0 }]
  methods := #[k2m0, k2m1, k2m2]
  instanceTypes := #[]
  staticTypes := #[.double, .double, .double, .double, .double, .long, .long, .double, .double, .boolean]
  resolved := Array.replicate 460 none
  statics := none }

def pool3 : Array CpInfo := pool [(1, .methodref 2 3), (0, .class_ 4), (0, .nameAndType 5 6), (0, u "java/lang/Object"), (0, u "<init>"), (0, u "()V"), (0, .class_ 8), (0, u "java/lang/Record")] 13

def k3c0 : Code := { maxStack := 1, maxLocals := 1, code := jdk_30_method_1_code, exceptionTable := #[], attributes := #[] }
def k3m0 : Method := { name := "<init>", desc := "()V", sig := { parameters := [], returnType := none }, accessFlags := 4, code := some k3c0 }
/-- java/lang/Record -/
def k3 : Class := { plain "java/lang/Record" (some 0) with
  accessFlags := 1057
  interfaces := #[]
  cf := some (fileOf pool3 7 #[] #[{ accessFlags := 4, nameIndex := 5, descriptorIndex := 6, attributes := #[] }] 1057 2 #[] #[])
  fields := #[]
  methods := #[k3m0]
  instanceTypes := #[]
  staticTypes := #[]
  resolved := Array.replicate 22 none
  statics := none }

def pool4 : Array CpInfo := pool [(1, .methodref 2 3), (0, .class_ 4), (0, .nameAndType 5 6), (0, u "java/lang/Record"), (0, u "<init>"), (0, u "()V"), (21, .fieldref 29 30), (0, .class_ 31), (0, .nameAndType 32 33), (0, u "com/example/tendersense/tendersense/Interval"), (0, u "start"), (0, u "I"), (0, .fieldref 29 35), (0, .nameAndType 36 33), (0, u "end"), (11, u "(II)V"), (28, u "contains"), (0, u "(I)Z")] 28

def k4c0 : Code := { maxStack := 7, maxLocals := 3, code := prog_21_method_1_code, exceptionTable := #[], attributes := #[] }
def k4m0 : Method := { name := "<init>", desc := "(II)V", sig := { parameters := [.int, .int], returnType := none }, accessFlags := 1, code := some k4c0 }
def k4c1 : Code := { maxStack := 2, maxLocals := 2, code := prog_21_method_3_code, exceptionTable := #[], attributes := #[] }
def k4m1 : Method := { name := "contains", desc := "(I)Z", sig := { parameters := [.int], returnType := some .boolean }, accessFlags := 1, code := some k4c1 }
/-- com/example/tendersense/tendersense/Interval -/
def k4 : Class := { plain "com/example/tendersense/tendersense/Interval" (some 3) with
  accessFlags := 49
  interfaces := #[]
  cf := some (fileOf pool4 29 #[] #[{ accessFlags := 1, nameIndex := 5, descriptorIndex := 48, attributes := #[] }, { accessFlags := 1, nameIndex := 77, descriptorIndex := 78, attributes := #[] }] 49 2 #[] #[{ accessFlags := 18, nameIndex := 32, descriptorIndex := 33, attributes := #[] }, { accessFlags := 18, nameIndex := 36, descriptorIndex := 33, attributes := #[] }])
  fields := #[{ name := "start", type := .int, accessFlags := 18, slot := 0, constantValue := 0 }, { name := "end", type := .int, accessFlags := 18, slot := 1, constantValue := 0 }]
  methods := #[k4m0, k4m1]
  instanceTypes := #[.int, .int]
  staticTypes := #[]
  resolved := Array.replicate 107 none
  statics := none }

def pool5 : Array CpInfo := pool [(1, u "java/lang/Cloneable"), (0, .class_ 1), (0, u "java/lang/Object"), (0, .class_ 3)] 3

/-- java/lang/Cloneable -/
def k5 : Class := { plain "java/lang/Cloneable" (some 0) with
  accessFlags := 1537
  interfaces := #[]
  cf := some (fileOf pool5 2 #[] #[] 1537 4 #[] #[])
  fields := #[]
  methods := #[]
  instanceTypes := #[]
  staticTypes := #[]
  resolved := Array.replicate 8 none
  statics := none }

def pool6 : Array CpInfo := pool [(1, u "java/io/Serializable"), (0, .class_ 1), (0, u "java/lang/Object"), (0, .class_ 3)] 3

/-- java/io/Serializable -/
def k6 : Class := { plain "java/io/Serializable" (some 0) with
  accessFlags := 1537
  interfaces := #[]
  cf := some (fileOf pool6 2 #[] #[] 1537 4 #[] #[])
  fields := #[]
  methods := #[]
  instanceTypes := #[]
  staticTypes := #[]
  resolved := Array.replicate 8 none
  statics := none }

/-- the primitive byte -/
def k7 : Class := { plain "byte" none with kind := .primitive 'B', accessFlags := 0x411 }
/-- [B -/
def k8 : Class := { plain "[B" (some 0) with kind := .array 7 .byte, interfaces := #[5, 6], accessFlags := 1041 }

/-- the primitive int -/
def k9 : Class := { plain "int" none with kind := .primitive 'I', accessFlags := 0x411 }
/-- [I -/
def k10 : Class := { plain "[I" (some 0) with kind := .array 9 .int, interfaces := #[5, 6], accessFlags := 1041 }

def heap : Heap := #[]
def classes : Array Class := #[k0, k1, k2, k3, k4, k5, k6, k7, k8, k9, k10]
def interned : List (Array UInt16 × Addr) := []
def slotsUsed : Nat := 0
def theMethod : MethodId := ⟨1, 1⟩
def args0 : Array Value := #[.int 5, .int 9, .int 7, .int 1]
def aboutOver (below : List Frame) : State where
  vm := { classes := classes, interned := interned.toArray }
  heap := heap
  slotsUsed := slotsUsed
  threads := #[{ frames := .invoking theMethod args0 :: below }]
def below0 : List Frame := [.native { method := ⟨0, 0⟩, args := #[] }]
def about1 : State := aboutOver below0
def p0 : Program := .bare "" "" ""
def e0 : Env := launch0.env 0 0 0
theorem w_frames : about1.frames = Frame.invoking theMethod args0 :: below0 := rfl
set_option maxRecDepth 65536 in
theorem w_args : argsFit about1.vm theMethod args0 = true := by decide +kernel
set_option maxRecDepth 65536 in
theorem w_heap : heapFits about1 = true := by decide +kernel
set_option maxRecDepth 65536 in
theorem w_runnable : about1.curStatus? = some .runnable := by decide +kernel
set_option maxRecDepth 65536 in
theorem w_alone : about1.alone = true := by decide +kernel
set_option maxRecDepth 65536 in
theorem w_named : about1.methodNamed? x = some theMethod := by decide +kernel
set_option maxRecDepth 65536 in
theorem w_hears : about1.hears theMethod below0 = true := by decide +kernel
set_option maxRecDepth 65536 in
theorem w_ripe : about1.ripe theMethod args0 below0 = true := by decide +kernel
theorem w_running : about1.status = .running := rfl
set_option maxRecDepth 65536 in
theorem w_room : about1.hasRoom e0.platform room_1 = true :=
  launch0.hasRoom_least _ room_1 (by decide +kernel) (by decide +kernel) (by decide +kernel) (by decide +kernel) (by decide +kernel) (by decide +kernel)
theorem allAtoms_all (ts : List Jvm.Cond) (a : Array Jvm.Value) (st : Jvm.State) : (allAtoms ts).before a st = ts.all (fun c => c.before a st) := by
  induction ts with
  | nil => rfl
  | cons c t ih =>
    show (Jvm.Cond.and c (allAtoms t)).before a st = _
    rw [Jvm.Cond.before_and, ih, List.all_cons]
def words1 : List Jvm.Cond := Jvm.Cond.code x code maxLocals ret :: tables_1
/-- a 'code' word, met by the world's own term for the bytes: nothing is compared byte by byte -/
theorem code_word {y : MethodName} {bytes : ByteArray} {mx : Nat} {rt : Option FieldType} {a : Array Value} {s : State} {m : MethodId} {meth : Method} {c : Code} (h1 : s.methodNamed? y = some m) (h2 : s.vm.method? m = some meth) (h3 : meth.code = some c) (h4 : c.code = bytes)
    (h5 : (c.maxLocals == mx && c.exceptionTable.isEmpty && decide (c.maxStack ≤ mostOperands) && decide (meth.sig.returnType = rt) && !meth.locks && decide (parseMethodDescriptor y.desc = some meth.sig)) = true) : (Jvm.Cond.code y bytes mx rt).before a s = true := by
  simp only [Bool.and_eq_true, beq_iff_eq, Bool.not_eq_true', decide_eq_true_eq] at h5
  obtain ⟨⟨⟨⟨⟨g1, g2⟩, g3⟩, g4⟩, g5⟩, g6⟩ := h5
  simp [Cond.before, Cond.holds, Cond.value, h1, h2, h3, h4, g1, g2, g3, g4, g5, g6]
def isCode : Jvm.Cond → Bool
  | .code _ _ _ _ => true
  | _ => false
theorem all_split {L : List Jvm.Cond} {P : Jvm.Cond → Bool} (h1 : L.all (fun c => isCode c || P c) = true) (h2 : ∀ c ∈ L.filter isCode, P c = true) : L.all P = true := by
  refine List.all_eq_true.mpr fun c hc => ?_
  have h := List.all_eq_true.mp h1 c hc
  rcases Bool.eq_false_or_eq_true (isCode c) with hi | hi
  · exact h2 c (List.mem_filter.mpr ⟨hc, hi⟩)
  · simpa [hi] using h
set_option maxRecDepth 65536 in
theorem w_c0 : (Jvm.Cond.code x code maxLocals ret).before args0 about1 = true := code_word (m := ⟨1, 1⟩) (meth := k1m1) (c := k1c1) (by decide +kernel) rfl rfl rfl (by decide +kernel)
set_option maxRecDepth 65536 in
theorem w_c1 : (Jvm.Cond.code ({ cls := "java/lang/Math", name := "min", desc := "(II)I" } : Jvm.MethodName) jdk_29_method_69_code (2 : Nat) (Option.some Jvm.ClassFile.FieldType.int)).before args0 about1 = true := code_word (m := ⟨2, 2⟩) (meth := k2m2) (c := k2c2) (by decide +kernel) rfl rfl rfl (by decide +kernel)
set_option maxRecDepth 65536 in
theorem w_c2 : (Jvm.Cond.code ({ cls := "java/lang/Math", name := "max", desc := "(II)I" } : Jvm.MethodName) jdk_29_method_65_code (2 : Nat) (Option.some Jvm.ClassFile.FieldType.int)).before args0 about1 = true := code_word (m := ⟨2, 1⟩) (meth := k2m1) (c := k2c1) (by decide +kernel) rfl rfl rfl (by decide +kernel)
set_option maxRecDepth 65536 in
theorem w_c3 : (Jvm.Cond.code ({ cls := "com/example/tendersense/tendersense/Interval", name := "<init>", desc := "(II)V" } : Jvm.MethodName) prog_21_method_1_code (3 : Nat) (Option.none : Option Jvm.ClassFile.FieldType)).before args0 about1 = true := code_word (m := ⟨4, 0⟩) (meth := k4m0) (c := k4c0) (by decide +kernel) rfl rfl rfl (by decide +kernel)
set_option maxRecDepth 65536 in
theorem w_c4 : (Jvm.Cond.code ({ cls := "java/lang/Record", name := "<init>", desc := "()V" } : Jvm.MethodName) jdk_30_method_1_code (1 : Nat) (Option.none : Option Jvm.ClassFile.FieldType)).before args0 about1 = true := code_word (m := ⟨3, 0⟩) (meth := k3m0) (c := k3c0) (by decide +kernel) rfl rfl rfl (by decide +kernel)
set_option maxRecDepth 65536 in
theorem w_c5 : (Jvm.Cond.code ({ cls := "java/lang/Object", name := "<init>", desc := "()V" } : Jvm.MethodName) object_method_1_code (1 : Nat) (Option.none : Option Jvm.ClassFile.FieldType)).before args0 about1 = true := code_word (m := ⟨0, 0⟩) (meth := k0m0) (c := k0c0) (by decide +kernel) rfl rfl rfl (by decide +kernel)
set_option maxRecDepth 65536 in
theorem w_c6 : (Jvm.Cond.code ({ cls := "com/example/tendersense/tendersense/Interval", name := "contains", desc := "(I)Z" } : Jvm.MethodName) prog_21_method_3_code (2 : Nat) (Option.some Jvm.ClassFile.FieldType.boolean)).before args0 about1 = true := code_word (m := ⟨4, 1⟩) (meth := k4m1) (c := k4c1) (by decide +kernel) rfl rfl rfl (by decide +kernel)
def codes1 : List Jvm.Cond := [Jvm.Cond.code x code maxLocals ret, Jvm.Cond.code ({ cls := "java/lang/Math", name := "min", desc := "(II)I" } : Jvm.MethodName) jdk_29_method_69_code (2 : Nat) (Option.some Jvm.ClassFile.FieldType.int), Jvm.Cond.code ({ cls := "java/lang/Math", name := "max", desc := "(II)I" } : Jvm.MethodName) jdk_29_method_65_code (2 : Nat) (Option.some Jvm.ClassFile.FieldType.int), Jvm.Cond.code ({ cls := "com/example/tendersense/tendersense/Interval", name := "<init>", desc := "(II)V" } : Jvm.MethodName) prog_21_method_1_code (3 : Nat) (Option.none : Option Jvm.ClassFile.FieldType), Jvm.Cond.code ({ cls := "java/lang/Record", name := "<init>", desc := "()V" } : Jvm.MethodName) jdk_30_method_1_code (1 : Nat) (Option.none : Option Jvm.ClassFile.FieldType), Jvm.Cond.code ({ cls := "java/lang/Object", name := "<init>", desc := "()V" } : Jvm.MethodName) object_method_1_code (1 : Nat) (Option.none : Option Jvm.ClassFile.FieldType), Jvm.Cond.code ({ cls := "com/example/tendersense/tendersense/Interval", name := "contains", desc := "(I)Z" } : Jvm.MethodName) prog_21_method_3_code (2 : Nat) (Option.some Jvm.ClassFile.FieldType.boolean)]
set_option maxRecDepth 65536 in
theorem codes_eq : words1.filter isCode = codes1 := rfl
theorem w_codes : ∀ c ∈ words1.filter isCode, c.before args0 about1 = true := by
  rw [codes_eq]
  intro c hc
  simp only [codes1, List.mem_cons, List.not_mem_nil, or_false] at hc
  rcases hc with rfl | rfl | rfl | rfl | rfl | rfl | rfl
  · exact w_c0
  · exact w_c1
  · exact w_c2
  · exact w_c3
  · exact w_c4
  · exact w_c5
  · exact w_c6
set_option maxRecDepth 65536 in
theorem w_t1 : (words1.take 24).all (fun c => isCode c || c.before args0 about1) = true := by decide +kernel
set_option maxRecDepth 65536 in
theorem w_t2 : (words1.drop 24).all (fun c => isCode c || c.before args0 about1) = true := by decide +kernel
theorem w_tables : (allAtoms (Jvm.Cond.code x code maxLocals ret :: tables_1)).before args0 about1 = true := by
  rw [allAtoms_all]
  show words1.all (fun c => c.before args0 about1) = true
  refine all_split ?_ w_codes
  rw [← List.take_append_drop 24 words1, List.all_append, w_t1, w_t2]
  rfl
set_option maxRecDepth 65536 in
theorem w_case : (Jvm.Cond.and given_1 narrow_1).before args0 about1 = true := by decide +kernel
theorem w_applies : (headSpec (Jvm.Cond.code x code maxLocals ret :: tables_1) room_1).applies x e0.platform about1 = true :=
  (Spec.applies_iff w_frames).mpr ⟨w_running, w_runnable, w_alone, w_named, w_hears, w_ripe, w_room, w_tables⟩
theorem atStart : AtStart classFile x code maxLocals ret World_1 tables_1 room_1 Calls_1 rest_1 Pre_1 launch0 p0 e0 about1 theMethod args0 below0 :=
  ⟨lists_1, trivial, launch0.admits_env _ _ _, launch0.least_env, fairChoices_fair.cas, fairChoices_fair.clock, w_frames, w_args, w_heap, w_applies, trivial, trivial, w_case⟩
end start1
theorem witness_1 : WitnessClaimed_1 := ⟨start1.p0, start1.e0, start1.about1, start1.theMethod, start1.args0, start1.below0, start1.atStart⟩
end Jvm.Pilot.@@N@@
