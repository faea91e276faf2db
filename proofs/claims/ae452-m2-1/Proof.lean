import JvmDerived
import JvmDerived.Pilot.@@N@@Statement
import JvmDerived.Pilot.@@N@@Code
set_option linter.unusedVariables false
set_option linter.unusedSimpArgs false
namespace Jvm.Pilot.@@N@@
open Jvm Jvm.ClassFile Sem Op Lib Jvm.Free Jvm.Stand Jvm.LawKit Jvm.RoadKit Bundle Jvm.Pilot.@@N@@.Jvm.D
abbrev sI (x : Int32) : Slot := .val (.int x)
abbrev sJ (x : Int64) : Slot := .val (.long x)
abbrev sR (a : Addr) : Slot := .val (.ref a)
abbrev sN : Slot := .val .null
abbrev sU : Slot := .unset
abbrev sW : Slot := .second
abbrev own_S (p : Program) (e : Env) (below : List Frame) (T : State) (m : MethodId) (pc : Nat) (L : Array Slot) (S : List Value) (t : State) : Prop := Steps p.tables e below (T.setTop (mkF m pc L S)) t
def own_min (a b : Int32) : Int32 := if b < a then b else a
def own_max (a b : Int32) : Int32 := if a < b then b else a
theorem own_min_int (a b : Int32) : (own_min a b).toInt = min a.toInt b.toInt := by
  unfold own_min
  split <;> simp only [Int32.lt_iff_toInt_lt] at * <;> omega
theorem own_max_int (a b : Int32) : (own_max a b).toInt = max a.toInt b.toInt := by
  unfold own_max
  split <;> simp only [Int32.lt_iff_toInt_lt] at * <;> omega
def own_len (s e : Int32) : Int64 := (e.toInt64 - s.toInt64) + (1 : Int64)
theorem own_one : (1 : Int64).toInt = 1 := by decide
theorem own_len_int (s e : Int32) : (own_len s e).toInt = e.toInt - s.toInt + 1 := by
  unfold own_len
  have h := c_lsub e.toInt64 s.toInt64
  have h' := c_ladd (e.toInt64 - s.toInt64) 1
  rw [c_i2l, c_i2l] at h
  rw [own_one] at h'
  have h1 := rng32 s
  have h2 := rng32 e
  have h3 := rng64 (e.toInt64 - s.toInt64)
  have h4 := rng64 ((e.toInt64 - s.toInt64) + 1)
  omega
theorem own_mid (a b c lo hi : Int32) (hlo : lo = own_min a (own_min b c)) (hhi : hi = own_max a (own_max b c)) :
    (((((a.toInt64 + b.toInt64) + c.toInt64) - lo.toInt64) - hi.toInt64).toInt32).toInt = a.toInt + b.toInt + c.toInt - lo.toInt - hi.toInt ∧ lo.toInt ≤ a.toInt + b.toInt + c.toInt - lo.toInt - hi.toInt ∧ a.toInt + b.toInt + c.toInt - lo.toInt - hi.toInt ≤ hi.toInt ∧ lo.toInt ≤ hi.toInt := by
  have e1 : lo.toInt = min a.toInt (min b.toInt c.toInt) := by rw [hlo, own_min_int, own_min_int]
  have e2 : hi.toInt = max a.toInt (max b.toInt c.toInt) := by rw [hhi, own_max_int, own_max_int]
  have h1 := c_ladd a.toInt64 b.toInt64
  have h2 := c_ladd (a.toInt64 + b.toInt64) c.toInt64
  have h3 := c_lsub ((a.toInt64 + b.toInt64) + c.toInt64) lo.toInt64
  have h4 := c_lsub (((a.toInt64 + b.toInt64) + c.toInt64) - lo.toInt64) hi.toInt64
  have h5 := c_l2i ((((a.toInt64 + b.toInt64) + c.toInt64) - lo.toInt64) - hi.toInt64)
  have ra := rng32 a
  have rb := rng32 b
  have rc := rng32 c
  have rlo := rng32 lo
  have rhi := rng32 hi
  have r5 := rng32 (((((a.toInt64 + b.toInt64) + c.toInt64) - lo.toInt64) - hi.toInt64).toInt32)
  simp only [c_i2l] at h1 h2 h3 h4 h5
  generalize (((((a.toInt64 + b.toInt64) + c.toInt64) - lo.toInt64) - hi.toInt64).toInt32).toInt = y5 at *
  generalize ((((a.toInt64 + b.toInt64) + c.toInt64) - lo.toInt64) - hi.toInt64).toInt = y4 at *
  generalize (((a.toInt64 + b.toInt64) + c.toInt64) - lo.toInt64).toInt = y3 at *
  generalize ((a.toInt64 + b.toInt64) + c.toInt64).toInt = y2 at *
  generalize (a.toInt64 + b.toInt64).toInt = y1 at *
  generalize a.toInt = a at *
  generalize b.toInt = b at *
  generalize c.toInt = c at *
  generalize lo.toInt = lo at *
  generalize hi.toInt = hi at *
  clear hlo hhi
  omega
theorem own_up (m h : Int32) (q : m < h) : ¬ (h < (m + (1 : Int32))) := by
  have e2 := c_iadd m 1
  have e3 : (1 : Int32).toInt = 1 := by decide
  rw [e3] at e2
  have r4 := rng32 h
  have r5 := rng32 m
  have r6 := rng32 (m + 1)
  simp only [Int32.lt_iff_toInt_lt] at q ⊢
  omega
theorem own_sum (lo mid hi : Int32) (h : mid.toInt < hi.toInt) : own_len lo mid + own_len (mid + (1 : Int32)) hi = own_len lo hi := by
  apply Int64.toInt_inj.mp
  have e1 := c_ladd (own_len lo mid) (own_len (mid + 1) hi)
  have e2 := c_iadd mid 1
  have e3 : (1 : Int32).toInt = 1 := by decide
  rw [e3] at e2
  rw [own_len_int, own_len_int] at e1
  rw [own_len_int]
  have r1 := rng32 lo
  have r2 := rng32 mid
  have r3 := rng32 hi
  have r4 := rng32 (mid + 1)
  have r5 := rng64 (own_len lo mid + own_len (mid + 1) hi)
  omega
theorem own_d1_0 : decode jdk_29_method_69_code 0 = .ok (.iload_n 0, 1) := by decide +kernel
theorem own_d1_1 : decode jdk_29_method_69_code 1 = .ok (.iload_n 1, 1) := by decide +kernel
theorem own_d1_2 : decode jdk_29_method_69_code 2 = .ok (.if_icmp .gt 7, 3) := by decide +kernel
theorem own_d1_5 : decode jdk_29_method_69_code 5 = .ok (.iload_n 0, 1) := by decide +kernel
theorem own_d1_6 : decode jdk_29_method_69_code 6 = .ok (.goto 4, 3) := by decide +kernel
theorem own_d1_9 : decode jdk_29_method_69_code 9 = .ok (.iload_n 1, 1) := by decide +kernel
theorem own_d1_10 : decode jdk_29_method_69_code 10 = .ok (.ireturn, 1) := by decide +kernel
theorem own_ef_1 (m : MethodId) (x0 : Int32) (x1 : Int32) : entryFrame m #[(.int x0), (.int x1)] 2 = mkF m 0 #[sI x0, sI x1] [] := by first | (simp [entryFrame, mkF, argsToLocals, Value.category]; done) | rfl
def own_Q1 (Z : State) (p1 : Int32) (p2 : Int32) (h0 : Heap) (n0 : Nat) (v : Option Value) (h : Heap) (L : List Loc) : Prop := v = some (.int (own_min p1 p2)) ∧ Fr n0 L ∧ h = h0
abbrev own_y0 : MethodName := ⟨"java/lang/Math", "min", "(II)I"⟩
set_option maxRecDepth 65536 in
set_option maxHeartbeats 40000000 in
theorem own_rm1 (l : Launch) (Z : State) (a0 : Array Value) (hw : ∀ d ∈ tables_1, d.before a0 Z = true) (ws : List Jvm.Cond) (p1 : Int32) (p2 : Int32) (h0 : Heap) (n0 : Nat) (Z0 : n0 ≤ h0.size)  :
    MetFree l own_y0 (head1 (Jvm.Cond.code own_y0 jdk_29_method_69_code 2 (some .int) :: ws) ({ frames := 0, cells := 0, slots := 0, locals := 0 } : Room)) (fun a U => a = #[(.int p1), (.int p2)] ∧ Z.Warmed39 U.vm ∧ U.heap = h0) (fun _ _ _ _ _ => True) (fun _ U o U' => ∃ v L, o = .returned v ∧ own_Q1 Z p1 p2 h0 n0 v U'.heap L ∧ FrameEnd U o U' L ({ frames := 0, cells := 0, slots := 0, locals := 0 } : Room).cells ({ frames := 0, cells := 0, slots := 0, locals := 0 } : Room).slots) := by
  refine MetFree.of_bodySF (Jvm.Free.JP.mathPlain rfl (by decide +kernel)) hisR ?_
  intro p e s m args below meth c s₁ Bd hml0 hP hK
  obtain ⟨rfl, hZ, hh⟩ := hP
  have hx := Bd.exec
  have hby := Bd.bytes
  have hml : c.maxLocals = 2 := hml0
  have hown : s.vm.findClass "java/lang/Math" = some m.cls := findClass_of_methodNamed Bd.named
  have hnm := (name_of_methodNamed Bd.named Bd.method).1
  have X0 : Stand p l e ({ frames := 0, cells := 0, slots := 0, locals := 0 } : Room) s m #[(.int p1), (.int p2)] below meth c s₁ [] 0 0 := Stand.of_body Bd
  have e0 : s₁.heap = h0 := by rw [← hh, Bd.state]; rfl
  have N0 := Fr.nil n0
  obtain ⟨R0, hR0⟩ : ∃ R : State → Prop, R = fun t => Steps p.tables e below (s₁.setTop (entryFrame m #[(.int p1), (.int p2)] 2)) t := ⟨_, rfl⟩
  have pre0 : ∀ t, Steps p.tables e below (s₁.setTop (mkF m 0 #[sI p1, sI p2] [])) t → R0 t := fun t k => by rw [hR0]; exact castTop (own_ef_1 m p1 p2) k
  have pre1 : ∀ t, own_S p e below s₁ m 2 #[sI p1, sI p2] [(.int p2), (.int p1)] t → R0 t := fun t k => pre0 t (by
    refine XS.iloadN X0.here hx rfl (hb hby own_d1_0) rfl ?_
    show own_S p e below s₁ m 1 #[sI p1, sI p2] [(.int p1)] _
    refine XS.iloadN X0.here hx rfl (hb hby own_d1_1) rfl ?_
    exact k)
  by_cases hc2 : p2 < p1
  · have pre2 : ∀ t, own_S p e below s₁ m 10 #[sI p1, sI p2] [(.int p2)] t → R0 t := fun t k => pre1 t (by
      refine XS.icmpYes X0.here hx rfl (pc0 := 2) (pc' := 9) rfl (hb hby own_d1_2) rfl (tlt hc2).2.2.1 (by decide) (by decide) ?_
      show own_S p e below s₁ m 9 #[sI p1, sI p2] [] _
      refine XS.iloadN X0.here hx rfl (hb hby own_d1_9) rfl ?_
      exact k)
    obtain ⟨fs, hr, hrun, hended, hW, hsame⟩ := X0.leave (v := some (.int p2)) (fun h => by rw [Bd.returns] at h; cases h)
    refine ⟨_, _, cast (congrFun hR0 _) (pre2 _ (retOut X0 hx Bd.returns rfl (Or.inl ⟨rfl, Or.inl rfl, _, rfl⟩) (hb hby own_d1_10) hr)), hrun, hended, _, _, rfl, ?_, ⟨_, rfl⟩, hW, hsame.mono (by decide) (by decide)⟩
    show own_Q1 Z _ _ h0 n0 _ s₁.heap _
    rw [e0]
    exact ⟨(by rw [own_min, if_pos hc2]), N0, rfl⟩
  · have pre3 : ∀ t, own_S p e below s₁ m 10 #[sI p1, sI p2] [(.int p1)] t → R0 t := fun t k => pre1 t (by
      refine XS.icmpNo X0.here hx rfl (hb hby own_d1_2) rfl (flt hc2).2.2.1 ?_
      show own_S p e below s₁ m 5 #[sI p1, sI p2] [] _
      refine XS.iloadN X0.here hx rfl (hb hby own_d1_5) rfl ?_
      show own_S p e below s₁ m 6 #[sI p1, sI p2] [(.int p1)] _
      refine XS.goto X0.here hx rfl (pc0 := 6) (pc' := 10) rfl (hb hby own_d1_6) (by decide) (by decide) ?_
      exact k)
    obtain ⟨fs, hr, hrun, hended, hW, hsame⟩ := X0.leave (v := some (.int p1)) (fun h => by rw [Bd.returns] at h; cases h)
    refine ⟨_, _, cast (congrFun hR0 _) (pre3 _ (retOut X0 hx Bd.returns rfl (Or.inl ⟨rfl, Or.inl rfl, _, rfl⟩) (hb hby own_d1_10) hr)), hrun, hended, _, _, rfl, ?_, ⟨_, rfl⟩, hW, hsame.mono (by decide) (by decide)⟩
    show own_Q1 Z _ _ h0 n0 _ s₁.heap _
    rw [e0]
    exact ⟨(by rw [own_min, if_neg hc2]), N0, rfl⟩
theorem own_d2_0 : decode jdk_29_method_65_code 0 = .ok (.iload_n 0, 1) := by decide +kernel
theorem own_d2_1 : decode jdk_29_method_65_code 1 = .ok (.iload_n 1, 1) := by decide +kernel
theorem own_d2_2 : decode jdk_29_method_65_code 2 = .ok (.if_icmp .lt 7, 3) := by decide +kernel
theorem own_d2_5 : decode jdk_29_method_65_code 5 = .ok (.iload_n 0, 1) := by decide +kernel
theorem own_d2_6 : decode jdk_29_method_65_code 6 = .ok (.goto 4, 3) := by decide +kernel
theorem own_d2_9 : decode jdk_29_method_65_code 9 = .ok (.iload_n 1, 1) := by decide +kernel
theorem own_d2_10 : decode jdk_29_method_65_code 10 = .ok (.ireturn, 1) := by decide +kernel
theorem own_ef_2 (m : MethodId) (x0 : Int32) (x1 : Int32) : entryFrame m #[(.int x0), (.int x1)] 2 = mkF m 0 #[sI x0, sI x1] [] := by first | (simp [entryFrame, mkF, argsToLocals, Value.category]; done) | rfl
def own_Q2 (Z : State) (p1 : Int32) (p2 : Int32) (h0 : Heap) (n0 : Nat) (v : Option Value) (h : Heap) (L : List Loc) : Prop := v = some (.int (own_max p1 p2)) ∧ Fr n0 L ∧ h = h0
abbrev own_y1 : MethodName := ⟨"java/lang/Math", "max", "(II)I"⟩
set_option maxRecDepth 65536 in
set_option maxHeartbeats 40000000 in
theorem own_rm2 (l : Launch) (Z : State) (a0 : Array Value) (hw : ∀ d ∈ tables_1, d.before a0 Z = true) (ws : List Jvm.Cond) (p1 : Int32) (p2 : Int32) (h0 : Heap) (n0 : Nat) (Z0 : n0 ≤ h0.size)  :
    MetFree l own_y1 (head1 (Jvm.Cond.code own_y1 jdk_29_method_65_code 2 (some .int) :: ws) ({ frames := 0, cells := 0, slots := 0, locals := 0 } : Room)) (fun a U => a = #[(.int p1), (.int p2)] ∧ Z.Warmed39 U.vm ∧ U.heap = h0) (fun _ _ _ _ _ => True) (fun _ U o U' => ∃ v L, o = .returned v ∧ own_Q2 Z p1 p2 h0 n0 v U'.heap L ∧ FrameEnd U o U' L ({ frames := 0, cells := 0, slots := 0, locals := 0 } : Room).cells ({ frames := 0, cells := 0, slots := 0, locals := 0 } : Room).slots) := by
  refine MetFree.of_bodySF (Jvm.Free.JP.mathPlain rfl (by decide +kernel)) hisR ?_
  intro p e s m args below meth c s₁ Bd hml0 hP hK
  obtain ⟨rfl, hZ, hh⟩ := hP
  have hx := Bd.exec
  have hby := Bd.bytes
  have hml : c.maxLocals = 2 := hml0
  have hown : s.vm.findClass "java/lang/Math" = some m.cls := findClass_of_methodNamed Bd.named
  have hnm := (name_of_methodNamed Bd.named Bd.method).1
  have X0 : Stand p l e ({ frames := 0, cells := 0, slots := 0, locals := 0 } : Room) s m #[(.int p1), (.int p2)] below meth c s₁ [] 0 0 := Stand.of_body Bd
  have e0 : s₁.heap = h0 := by rw [← hh, Bd.state]; rfl
  have N0 := Fr.nil n0
  obtain ⟨R0, hR0⟩ : ∃ R : State → Prop, R = fun t => Steps p.tables e below (s₁.setTop (entryFrame m #[(.int p1), (.int p2)] 2)) t := ⟨_, rfl⟩
  have pre0 : ∀ t, Steps p.tables e below (s₁.setTop (mkF m 0 #[sI p1, sI p2] [])) t → R0 t := fun t k => by rw [hR0]; exact castTop (own_ef_2 m p1 p2) k
  have pre1 : ∀ t, own_S p e below s₁ m 2 #[sI p1, sI p2] [(.int p2), (.int p1)] t → R0 t := fun t k => pre0 t (by
    refine XS.iloadN X0.here hx rfl (hb hby own_d2_0) rfl ?_
    show own_S p e below s₁ m 1 #[sI p1, sI p2] [(.int p1)] _
    refine XS.iloadN X0.here hx rfl (hb hby own_d2_1) rfl ?_
    exact k)
  by_cases hc2 : p1 < p2
  · have pre2 : ∀ t, own_S p e below s₁ m 10 #[sI p1, sI p2] [(.int p2)] t → R0 t := fun t k => pre1 t (by
      refine XS.icmpYes X0.here hx rfl (pc0 := 2) (pc' := 9) rfl (hb hby own_d2_2) rfl (tlt hc2).1 (by decide) (by decide) ?_
      show own_S p e below s₁ m 9 #[sI p1, sI p2] [] _
      refine XS.iloadN X0.here hx rfl (hb hby own_d2_9) rfl ?_
      exact k)
    obtain ⟨fs, hr, hrun, hended, hW, hsame⟩ := X0.leave (v := some (.int p2)) (fun h => by rw [Bd.returns] at h; cases h)
    refine ⟨_, _, cast (congrFun hR0 _) (pre2 _ (retOut X0 hx Bd.returns rfl (Or.inl ⟨rfl, Or.inl rfl, _, rfl⟩) (hb hby own_d2_10) hr)), hrun, hended, _, _, rfl, ?_, ⟨_, rfl⟩, hW, hsame.mono (by decide) (by decide)⟩
    show own_Q2 Z _ _ h0 n0 _ s₁.heap _
    rw [e0]
    exact ⟨(by rw [own_max, if_pos hc2]), N0, rfl⟩
  · have pre3 : ∀ t, own_S p e below s₁ m 10 #[sI p1, sI p2] [(.int p1)] t → R0 t := fun t k => pre1 t (by
      refine XS.icmpNo X0.here hx rfl (hb hby own_d2_2) rfl (flt hc2).1 ?_
      show own_S p e below s₁ m 5 #[sI p1, sI p2] [] _
      refine XS.iloadN X0.here hx rfl (hb hby own_d2_5) rfl ?_
      show own_S p e below s₁ m 6 #[sI p1, sI p2] [(.int p1)] _
      refine XS.goto X0.here hx rfl (pc0 := 6) (pc' := 10) rfl (hb hby own_d2_6) (by decide) (by decide) ?_
      exact k)
    obtain ⟨fs, hr, hrun, hended, hW, hsame⟩ := X0.leave (v := some (.int p1)) (fun h => by rw [Bd.returns] at h; cases h)
    refine ⟨_, _, cast (congrFun hR0 _) (pre3 _ (retOut X0 hx Bd.returns rfl (Or.inl ⟨rfl, Or.inl rfl, _, rfl⟩) (hb hby own_d2_10) hr)), hrun, hended, _, _, rfl, ?_, ⟨_, rfl⟩, hW, hsame.mono (by decide) (by decide)⟩
    show own_Q2 Z _ _ h0 n0 _ s₁.heap _
    rw [e0]
    exact ⟨(by rw [own_max, if_neg hc2]), N0, rfl⟩
theorem own_d4_0 : decode jdk_30_method_1_code 0 = .ok (.aload_n 0, 1) := by decide +kernel
theorem own_d4_1 : decode jdk_30_method_1_code 1 = .ok (.invokespecial 1, 3) := by decide +kernel
theorem own_d4_4 : decode jdk_30_method_1_code 4 = .ok (.return_, 1) := by decide +kernel
theorem own_pn_0 : plainName "java/lang/Record" = true := by first | (simp [plainName, overriddenIn]; done) | decide +kernel
theorem own_ef_4 (m : MethodId) (x0 : Addr) : entryFrame m #[(.ref x0)] 1 = mkF m 0 #[sR x0] [] := by first | (simp [entryFrame, mkF, argsToLocals, Value.category]; done) | rfl
def own_Q4 (Z : State) (a1 : Addr) (h0 : Heap) (n0 : Nat) (v : Option Value) (h : Heap) (L : List Loc) : Prop := v = none ∧ Fr n0 L ∧ h = h0
abbrev own_y2 : MethodName := ⟨"java/lang/Record", "<init>", "()V"⟩
set_option maxRecDepth 65536 in
set_option maxHeartbeats 40000000 in
theorem own_rm4 (l : Launch) (Z : State) (a0 : Array Value) (hw : ∀ d ∈ tables_1, d.before a0 Z = true) (ws : List Jvm.Cond) (a1 : Addr) (h0 : Heap) (n0 : Nat) (Z0 : n0 ≤ h0.size)  :
    MetFree l own_y2 (head1 (Jvm.Cond.code own_y2 jdk_30_method_1_code 1 none :: ws) ({ frames := 1, cells := 0, slots := 0, locals := 12 } : Room)) (fun a U => a = #[(.ref a1)] ∧ Z.Warmed39 U.vm ∧ U.heap = h0) (fun _ _ _ _ _ => True) (fun _ U o U' => ∃ v L, o = .returned v ∧ own_Q4 Z a1 h0 n0 v U'.heap L ∧ FrameEnd U o U' L ({ frames := 1, cells := 0, slots := 0, locals := 12 } : Room).cells ({ frames := 1, cells := 0, slots := 0, locals := 12 } : Room).slots) := by
  refine MetFree.of_bodySF (plainFor_of_name own_pn_0) hisR ?_
  intro p e s m args below meth c s₁ Bd hml0 hP hK
  obtain ⟨rfl, hZ, hh⟩ := hP
  have hw18 := hw _ (List.mem_of_getElem? (i := 18) rfl)
  have hw19 := hw _ (List.mem_of_getElem? (i := 19) rfl)
  have hw20 := hw _ (List.mem_of_getElem? (i := 20) rfl)
  have hx := Bd.exec
  have hby := Bd.bytes
  have hml : c.maxLocals = 1 := hml0
  have hown : s.vm.findClass "java/lang/Record" = some m.cls := findClass_of_methodNamed Bd.named
  have hnm := (name_of_methodNamed Bd.named Bd.method).1
  have X0 : Stand p l e ({ frames := 1, cells := 0, slots := 0, locals := 12 } : Room) s m #[(.ref a1)] below meth c s₁ [] 0 0 := Stand.of_body Bd
  have e0 : s₁.heap = h0 := by rw [← hh, Bd.state]; rfl
  have N0 := Fr.nil n0
  obtain ⟨R0, hR0⟩ : ∃ R : State → Prop, R = fun t => Steps p.tables e below (s₁.setTop (entryFrame m #[(.ref a1)] 1)) t := ⟨_, rfl⟩
  have pre0 : ∀ t, Steps p.tables e below (s₁.setTop (mkF m 0 #[sR a1] [])) t → R0 t := fun t k => by rw [hR0]; exact castTop (own_ef_4 m a1) k
  have pre1 : ∀ t, own_S p e below s₁ m 1 #[sR a1] [(.ref a1)] t → R0 t := fun t k => pre0 t (by
    refine XS.aloadN X0.here hx rfl (hb hby own_d4_0) rfl rfl ?_
    exact k)
  obtain ⟨T2, X2, e2, st2⟩ := initO X0 hx hZ hown hw18 hw19 hw20 e0 (g := (mkF m 1 #[sR a1] [(.ref a1)])) rfl (by rw [hml]; rfl) rfl (hb hby own_d4_1) (by decide) (W := 0) (by show 2 * 0 + _ ≤ _; exact Nat.le_of_eq rfl) (by decide)
  have pre3 : ∀ t, own_S p e below T2 m 4 #[sR a1] [] t → R0 t := fun t k => pre1 t (by
    refine st2 _ ?_
    exact k)
  obtain ⟨fs, hr, hrun, hended, hW, hsame⟩ := X2.leave (v := none) (fun _ => rfl)
  refine ⟨_, _, cast (congrFun hR0 _) (pre3 _ (X2.returnOut hx Bd.returns (hb hby own_d4_4) hr)), hrun, hended, _, _, rfl, ?_, ⟨_, rfl⟩, hW, hsame.mono (by decide) (by decide)⟩
  show own_Q4 Z _ h0 n0 _ T2.heap _
  rw [e2]
  exact ⟨rfl, N0, rfl⟩
theorem own_pd_0 : parseMethodDescriptor "()V" = some ⟨[], none⟩ := by decide +kernel
theorem own_d3_0 : decode prog_21_method_1_code 0 = .ok (.aload_n 0, 1) := by decide +kernel
theorem own_d3_1 : decode prog_21_method_1_code 1 = .ok (.invokespecial 1, 3) := by decide +kernel
theorem own_d3_4 : decode prog_21_method_1_code 4 = .ok (.iload_n 2, 1) := by decide +kernel
theorem own_d3_5 : decode prog_21_method_1_code 5 = .ok (.iload_n 1, 1) := by decide +kernel
theorem own_d3_6 : decode prog_21_method_1_code 6 = .ok (.if_icmp .ge 34, 3) := by decide +kernel
theorem own_d3_40 : decode prog_21_method_1_code 40 = .ok (.aload_n 0, 1) := by decide +kernel
theorem own_d3_41 : decode prog_21_method_1_code 41 = .ok (.iload_n 1, 1) := by decide +kernel
theorem own_d3_42 : decode prog_21_method_1_code 42 = .ok (.putfield 28, 3) := by decide +kernel
theorem own_d3_45 : decode prog_21_method_1_code 45 = .ok (.aload_n 0, 1) := by decide +kernel
theorem own_d3_46 : decode prog_21_method_1_code 46 = .ok (.iload_n 2, 1) := by decide +kernel
theorem own_d3_47 : decode prog_21_method_1_code 47 = .ok (.putfield 34, 3) := by decide +kernel
theorem own_d3_50 : decode prog_21_method_1_code 50 = .ok (.return_, 1) := by decide +kernel
theorem own_pn_1 : plainName "com/example/tendersense/tendersense/Interval" = true := by first | (simp [plainName, overriddenIn]; done) | decide +kernel
theorem own_ef_3 (m : MethodId) (x0 : Addr) (x1 : Int32) (x2 : Int32) : entryFrame m #[(.ref x0), (.int x1), (.int x2)] 3 = mkF m 0 #[sR x0, sI x1, sI x2] [] := by first | (simp [entryFrame, mkF, argsToLocals, Value.category]; done) | rfl
def own_Q3 (Z : State) (a1 : Addr) (p2 : Int32) (p3 : Int32) (u1 : Value) (u2 : Value) (h0 : Heap) (n0 : Nat) (v : Option Value) (h : Heap) (L : List Loc) : Prop := v = none ∧ Fr n0 L ∧ Keep h0 h [a1] ∧ Exa Z h a1 "com/example/tendersense/tendersense/Interval" ∧ Fld Z h a1 "com/example/tendersense/tendersense/Interval" "start" "I" (.int p2) ∧ Fld Z h a1 "com/example/tendersense/tendersense/Interval" "end" "I" (.int p3)
abbrev own_y3 : MethodName := ⟨"com/example/tendersense/tendersense/Interval", "<init>", "(II)V"⟩
set_option maxRecDepth 65536 in
set_option maxHeartbeats 40000000 in
theorem own_rm3 (l : Launch) (Z : State) (a0 : Array Value) (hw : ∀ d ∈ tables_1, d.before a0 Z = true) (ws : List Jvm.Cond) (a1 : Addr) (p2 : Int32) (p3 : Int32) (u1 : Value) (u2 : Value) (h0 : Heap) (n0 : Nat) (Z0 : n0 ≤ h0.size) (E_a1 : Exa Z h0 a1 "com/example/tendersense/tendersense/Interval") (F_start_a1 : Fld Z h0 a1 "com/example/tendersense/tendersense/Interval" "start" "I" u1) (F_end_a1 : Fld Z h0 a1 "com/example/tendersense/tendersense/Interval" "end" "I" u2) (g_a1 : n0 ≤ a1) (hnn : ¬ (p3 < p2)) :
    MetFree l own_y3 (head1 (Jvm.Cond.code own_y3 prog_21_method_1_code 3 none :: ws) ({ frames := 2, cells := 0, slots := 0, locals := 24 } : Room)) (fun a U => a = #[(.ref a1), (.int p2), (.int p3)] ∧ Z.Warmed39 U.vm ∧ U.heap = h0) (fun _ _ _ _ _ => True) (fun _ U o U' => ∃ v L, o = .returned v ∧ own_Q3 Z a1 p2 p3 u1 u2 h0 n0 v U'.heap L ∧ FrameEnd U o U' L ({ frames := 2, cells := 0, slots := 0, locals := 24 } : Room).cells ({ frames := 2, cells := 0, slots := 0, locals := 24 } : Room).slots) := by
  refine MetFree.of_bodySF (plainFor_of_name own_pn_1) hisR ?_
  intro p e s m args below meth c s₁ Bd hml0 hP hK
  obtain ⟨rfl, hZ, hh⟩ := hP
  have hw8 := hw _ (List.mem_of_getElem? (i := 8) rfl)
  have hw13 := hw _ (List.mem_of_getElem? (i := 13) rfl)
  have hw14 := hw _ (List.mem_of_getElem? (i := 14) rfl)
  have hw16 := hw _ (List.mem_of_getElem? (i := 16) rfl)
  have hw17 := hw _ (List.mem_of_getElem? (i := 17) rfl)
  have hw21 := hw _ (List.mem_of_getElem? (i := 21) rfl)
  have hw22 := hw _ (List.mem_of_getElem? (i := 22) rfl)
  have hw23 := hw _ (List.mem_of_getElem? (i := 23) rfl)
  have hw24 := hw _ (List.mem_of_getElem? (i := 24) rfl)
  have hx := Bd.exec
  have hby := Bd.bytes
  have hml : c.maxLocals = 3 := hml0
  have hown : s.vm.findClass "com/example/tendersense/tendersense/Interval" = some m.cls := findClass_of_methodNamed Bd.named
  have hnm := (name_of_methodNamed Bd.named Bd.method).1
  have X0 : Stand p l e ({ frames := 2, cells := 0, slots := 0, locals := 24 } : Room) s m #[(.ref a1), (.int p2), (.int p3)] below meth c s₁ [] 0 0 := Stand.of_body Bd
  have e0 : s₁.heap = h0 := by rw [← hh, Bd.state]; rfl
  have N0 := Fr.nil n0
  obtain ⟨R0, hR0⟩ : ∃ R : State → Prop, R = fun t => Steps p.tables e below (s₁.setTop (entryFrame m #[(.ref a1), (.int p2), (.int p3)] 3)) t := ⟨_, rfl⟩
  have pre0 : ∀ t, Steps p.tables e below (s₁.setTop (mkF m 0 #[sR a1, sI p2, sI p3] [])) t → R0 t := fun t k => by rw [hR0]; exact castTop (own_ef_3 m a1 p2 p3) k
  have pre1 : ∀ t, own_S p e below s₁ m 1 #[sR a1, sI p2, sI p3] [(.ref a1)] t → R0 t := fun t k => pre0 t (by
    refine XS.aloadN X0.here hx rfl (hb hby own_d3_0) rfl rfl ?_
    exact k)
  obtain ⟨_, _, ⟨T2, L2, k2, n2⟩, -, X2, ⟨Lc2, hQ2, l2, y2, z2⟩, st2⟩ := X0.specialBack hx (y := own_y2) rfl hown (mvT hZ hw13) (mvT hZ hw14) (mvT hZ hw17) (by decide) (backOf (W := 0) (own_rm4 l Z a0 hw [] a1 h0 n0 Z0 ) hZ hw17 hw16 (by decide) (by decide)) (g := (mkF m 1 #[sR a1, sI p2, sI p3] [(.ref a1)])) rfl (by rw [hml]; rfl) (Steps.refl _) (a := a1) (argsL := []) (rest := []) (lenOf own_pd_0 rfl) rfl (by show 2 * 0 + _ ≤ _; exact Nat.le_of_eq rfl) (hb hby own_d3_1) (fun _ _ => ⟨rfl, e0, (by decide : 0 + 0 ≤ _), (by decide : 0 + 0 ≤ _)⟩)
  dsimp only [Pt.U, Pt.locs, Pt.cells, Pt.slots] at X2 l2 y2 z2 st2 hQ2
  subst l2 y2 z2
  obtain ⟨rfl, N2q, eh2⟩ := hQ2
  have N2 := Fr.app N0 N2q
  have pre3 : ∀ t, own_S p e below T2 m 6 #[sR a1, sI p2, sI p3] [(.int p2), (.int p3)] t → R0 t := fun t k => pre1 t (by
    refine st2.trans ?_
    show own_S p e below T2 m 4 #[sR a1, sI p2, sI p3] [] _
    refine XS.iloadN X2.here hx rfl (hb hby own_d3_4) rfl ?_
    show own_S p e below T2 m 5 #[sR a1, sI p2, sI p3] [(.int p3)] _
    refine XS.iloadN X2.here hx rfl (hb hby own_d3_5) rfl ?_
    exact k)
  have hc4 : ¬ (p3 < p2) := hnn
  have pre5 : ∀ t, own_S p e below T2 m 42 #[sR a1, sI p2, sI p3] [(.int p2), (.ref a1)] t → R0 t := fun t k => pre3 t (by
    refine XS.icmpYes X2.here hx rfl (pc0 := 6) (pc' := 40) rfl (hb hby own_d3_6) rfl (flt hc4).2.1 (by decide) (by decide) ?_
    show own_S p e below T2 m 40 #[sR a1, sI p2, sI p3] [] _
    refine XS.aloadN X2.here hx rfl (hb hby own_d3_40) rfl rfl ?_
    show own_S p e below T2 m 41 #[sR a1, sI p2, sI p3] [(.ref a1)] _
    refine XS.iloadN X2.here hx rfl (hb hby own_d3_41) rfl ?_
    exact k)
  obtain ⟨T6, h6, X6, e6, W6, st6⟩ := putF X2 hx hZ hown (host := "") (Or.inl hw21) Via.refl eh2 F_start_a1 E_a1 (Or.inr ⟨hw22, rfl, hnm⟩) hw8 (ty := .int) (by decide) rfl rfl (g := (mkF m 42 #[sR a1, sI p2, sI p3] [(.int p2), (.ref a1)])) rfl rfl (hb hby own_d3_42)
  have f7 := Nat.le_trans Z0 (Keep.of_wr W6).1
  have f8 := E_a1.wr W6
  have f9 := F_end_a1.other W6 (Or.inr (slot_ne (Or.inr hw24) (Or.inr hw22) (by decide) (t := .int) (t' := .int) (by decide) (by decide)))
  have f10 := F_start_a1.same W6
  have N11 := Fr.snoc X6 N2 g_a1
  have K12 : Keep h0 h6 [a1] := (Keep.refl h0 [a1]).wr W6 (Or.inl (List.mem_of_getElem? (i := 0) rfl))
  have pre13 : ∀ t, own_S p e below T6 m 47 #[sR a1, sI p2, sI p3] [(.int p3), (.ref a1)] t → R0 t := fun t k => pre5 t (by
    refine st6 _ ?_
    show own_S p e below T6 m 45 #[sR a1, sI p2, sI p3] [] _
    refine XS.aloadN X6.here hx rfl (hb hby own_d3_45) rfl rfl ?_
    show own_S p e below T6 m 46 #[sR a1, sI p2, sI p3] [(.ref a1)] _
    refine XS.iloadN X6.here hx rfl (hb hby own_d3_46) rfl ?_
    exact k)
  obtain ⟨T14, h14, X14, e14, W14, st14⟩ := putF X6 hx hZ hown (host := "") (Or.inl hw23) Via.refl e6 f9 f8 (Or.inr ⟨hw24, rfl, hnm⟩) hw8 (ty := .int) (by decide) rfl rfl (g := (mkF m 47 #[sR a1, sI p2, sI p3] [(.int p3), (.ref a1)])) rfl rfl (hb hby own_d3_47)
  have f15 := Nat.le_trans f7 (Keep.of_wr W14).1
  have f16 := f8.wr W14
  have f17 := f10.other W14 (Or.inr (slot_ne (Or.inr hw22) (Or.inr hw24) (by decide) (t := .int) (t' := .int) (by decide) (by decide)))
  have f18 := f9.same W14
  have N19 := Fr.snoc X14 N11 g_a1
  have K20 : Keep h0 h14 [a1] := K12.wr W14 (Or.inl (List.mem_of_getElem? (i := 0) rfl))
  have pre21 : ∀ t, own_S p e below T14 m 50 #[sR a1, sI p2, sI p3] [] t → R0 t := fun t k => pre13 t (by
    refine st14 _ ?_
    exact k)
  obtain ⟨fs, hr, hrun, hended, hW, hsame⟩ := X14.leave (v := none) (fun _ => rfl)
  refine ⟨_, _, cast (congrFun hR0 _) (pre21 _ (X14.returnOut hx Bd.returns (hb hby own_d3_50) hr)), hrun, hended, _, _, rfl, ?_, ⟨_, rfl⟩, hW, hsame.mono (by decide) (by decide)⟩
  show own_Q3 Z _ _ _ _ _ h0 n0 _ T14.heap _
  rw [e14]
  exact ⟨rfl, N19, K20, f16, f17, f18⟩
theorem own_d6_0 : decode prog_21_method_2_code 0 = .ok (.aload_n 0, 1) := by decide +kernel
theorem own_d6_1 : decode prog_21_method_2_code 1 = .ok (.getfield 34, 3) := by decide +kernel
theorem own_d6_4 : decode prog_21_method_2_code 4 = .ok (.i2l, 1) := by decide +kernel
theorem own_d6_5 : decode prog_21_method_2_code 5 = .ok (.aload_n 0, 1) := by decide +kernel
theorem own_d6_6 : decode prog_21_method_2_code 6 = .ok (.getfield 28, 3) := by decide +kernel
theorem own_d6_9 : decode prog_21_method_2_code 9 = .ok (.i2l, 1) := by decide +kernel
theorem own_d6_10 : decode prog_21_method_2_code 10 = .ok (.lsub, 1) := by decide +kernel
theorem own_d6_11 : decode prog_21_method_2_code 11 = .ok (.lconst 1, 1) := by decide +kernel
theorem own_d6_12 : decode prog_21_method_2_code 12 = .ok (.ladd, 1) := by decide +kernel
theorem own_d6_13 : decode prog_21_method_2_code 13 = .ok (.lreturn, 1) := by decide +kernel
theorem own_ef_6 (m : MethodId) (x0 : Addr) : entryFrame m #[(.ref x0)] 1 = mkF m 0 #[sR x0] [] := by first | (simp [entryFrame, mkF, argsToLocals, Value.category]; done) | rfl
def own_Q6 (Z : State) (a1 : Addr) (w1 : Int32) (w2 : Int32) (h0 : Heap) (n0 : Nat) (v : Option Value) (h : Heap) (L : List Loc) : Prop := v = some (.long (own_len w1 w2)) ∧ Fr n0 L ∧ h = h0
abbrev own_y4 : MethodName := ⟨"com/example/tendersense/tendersense/Interval", "length", "()J"⟩
set_option maxRecDepth 65536 in
set_option maxHeartbeats 40000000 in
theorem own_rm6 (l : Launch) (Z : State) (a0 : Array Value) (hw : ∀ d ∈ tables_1, d.before a0 Z = true) (ws : List Jvm.Cond) (a1 : Addr) (w1 : Int32) (w2 : Int32) (h0 : Heap) (n0 : Nat) (Z0 : n0 ≤ h0.size) (F_start_a1 : Fld Z h0 a1 "com/example/tendersense/tendersense/Interval" "start" "I" (.int w1)) (F_end_a1 : Fld Z h0 a1 "com/example/tendersense/tendersense/Interval" "end" "I" (.int w2)) :
    MetFree l own_y4 (head1 (Jvm.Cond.code own_y4 prog_21_method_2_code 1 (some .long) :: ws) ({ frames := 0, cells := 0, slots := 0, locals := 0 } : Room)) (fun a U => a = #[(.ref a1)] ∧ Z.Warmed39 U.vm ∧ U.heap = h0) (fun _ _ _ _ _ => True) (fun _ U o U' => ∃ v L, o = .returned v ∧ own_Q6 Z a1 w1 w2 h0 n0 v U'.heap L ∧ FrameEnd U o U' L ({ frames := 0, cells := 0, slots := 0, locals := 0 } : Room).cells ({ frames := 0, cells := 0, slots := 0, locals := 0 } : Room).slots) := by
  refine MetFree.of_bodySF (plainFor_of_name own_pn_1) hisR ?_
  intro p e s m args below meth c s₁ Bd hml0 hP hK
  obtain ⟨rfl, hZ, hh⟩ := hP
  have hw21 := hw _ (List.mem_of_getElem? (i := 21) rfl)
  have hw23 := hw _ (List.mem_of_getElem? (i := 23) rfl)
  have hx := Bd.exec
  have hby := Bd.bytes
  have hml : c.maxLocals = 1 := hml0
  have hown : s.vm.findClass "com/example/tendersense/tendersense/Interval" = some m.cls := findClass_of_methodNamed Bd.named
  have hnm := (name_of_methodNamed Bd.named Bd.method).1
  have X0 : Stand p l e ({ frames := 0, cells := 0, slots := 0, locals := 0 } : Room) s m #[(.ref a1)] below meth c s₁ [] 0 0 := Stand.of_body Bd
  have e0 : s₁.heap = h0 := by rw [← hh, Bd.state]; rfl
  have N0 := Fr.nil n0
  obtain ⟨R0, hR0⟩ : ∃ R : State → Prop, R = fun t => Steps p.tables e below (s₁.setTop (entryFrame m #[(.ref a1)] 1)) t := ⟨_, rfl⟩
  have pre0 : ∀ t, Steps p.tables e below (s₁.setTop (mkF m 0 #[sR a1] [])) t → R0 t := fun t k => by rw [hR0]; exact castTop (own_ef_6 m a1) k
  have pre1 : ∀ t, own_S p e below s₁ m 1 #[sR a1] [(.ref a1)] t → R0 t := fun t k => pre0 t (by
    refine XS.aloadN X0.here hx rfl (hb hby own_d6_0) rfl rfl ?_
    exact k)
  obtain ⟨T2, X2, e2, st2⟩ := getF X0 hx hZ hown (host := "") (Or.inl hw23) Via.refl e0 F_end_a1 (g := (mkF m 1 #[sR a1] [(.ref a1)])) rfl rfl (hb hby own_d6_1)
  have pre3 : ∀ t, own_S p e below T2 m 6 #[sR a1] [(.ref a1), (.long (w2.toInt64))] t → R0 t := fun t k => pre1 t (by
    refine st2 _ ?_
    show own_S p e below T2 m 4 #[sR a1] [(.int w2)] _
    refine XS.i2l X2.here hx rfl (hb hby own_d6_4) rfl ?_
    show own_S p e below T2 m 5 #[sR a1] [(.long (w2.toInt64))] _
    refine XS.aloadN X2.here hx rfl (hb hby own_d6_5) rfl rfl ?_
    exact k)
  obtain ⟨T4, X4, e4, st4⟩ := getF X2 hx hZ hown (host := "") (Or.inl hw21) Via.refl e2 F_start_a1 (g := (mkF m 6 #[sR a1] [(.ref a1), (.long (w2.toInt64))])) rfl rfl (hb hby own_d6_6)
  have pre5 : ∀ t, own_S p e below T4 m 13 #[sR a1] [(.long (((w2.toInt64) - (w1.toInt64)) + (1 : Int64)))] t → R0 t := fun t k => pre3 t (by
    refine st4 _ ?_
    show own_S p e below T4 m 9 #[sR a1] [(.int w1), (.long (w2.toInt64))] _
    refine XS.i2l X4.here hx rfl (hb hby own_d6_9) rfl ?_
    show own_S p e below T4 m 10 #[sR a1] [(.long (w1.toInt64)), (.long (w2.toInt64))] _
    refine XS.lsub X4.here hx rfl (hb hby own_d6_10) rfl ?_
    show own_S p e below T4 m 11 #[sR a1] [(.long ((w2.toInt64) - (w1.toInt64)))] _
    refine XS.lconst X4.here hx rfl (hb hby own_d6_11) ?_
    show own_S p e below T4 m 12 #[sR a1] [(.long 1), (.long ((w2.toInt64) - (w1.toInt64)))] _
    refine XS.ladd X4.here hx rfl (hb hby own_d6_12) rfl ?_
    exact k)
  obtain ⟨fs, hr, hrun, hended, hW, hsame⟩ := X4.leave (v := some (.long (((w2.toInt64) - (w1.toInt64)) + (1 : Int64)))) (fun h => by rw [Bd.returns] at h; cases h)
  refine ⟨_, _, cast (congrFun hR0 _) (pre5 _ (retOut X4 hx Bd.returns rfl (Or.inr (Or.inl ⟨rfl, rfl, _, rfl⟩)) (hb hby own_d6_13) hr)), hrun, hended, _, _, rfl, ?_, ⟨_, rfl⟩, hW, hsame.mono (by decide) (by decide)⟩
  show own_Q6 Z _ _ _ h0 n0 _ T4.heap _
  rw [e4]
  exact ⟨rfl, N0, rfl⟩
theorem own_pd_1 : parseMethodDescriptor "(II)I" = some ⟨[.int, .int], some .int⟩ := by decide +kernel
theorem own_pd_2 : parseMethodDescriptor "(II)V" = some ⟨[.int, .int], none⟩ := by decide +kernel
theorem own_pd_3 : parseMethodDescriptor "()J" = some ⟨[], some .long⟩ := by decide +kernel
theorem own_pn_2 : plainName "com/example/tendersense/tendersense/IntervalLengthPinLaw" = true := by first | (simp [plainName, overriddenIn]; done) | decide +kernel
theorem own_ef_0 (m : MethodId) (x0 : Int32) (x1 : Int32) (x2 : Int32) : entryFrame m #[(.int x0), (.int x1), (.int x2)] maxLocals = mkF m 0 #[sI x0, sI x1, sI x2, .unset, .unset, .unset, .unset, .unset, .unset, .unset, .unset, .unset, .unset] [] := by first | (simp [entryFrame, mkF, argsToLocals, Value.category, maxLocals]; done) | rfl
def own_Q0 (Z : State) (p1 : Int32) (p2 : Int32) (p3 : Int32) (h0 : Heap) (n0 : Nat) (v : Option Value) (h : Heap) (L : List Loc) : Prop := v = some (.int 1) ∧ Fr n0 L
set_option maxRecDepth 65536 in
set_option maxHeartbeats 40000000 in
theorem own_rm0 (l : Launch) (Z : State) (a0 : Array Value) (hw : ∀ d ∈ tables_1, d.before a0 Z = true) (ws : List Jvm.Cond) (p1 : Int32) (p2 : Int32) (p3 : Int32) (h0 : Heap) (n0 : Nat) (Z0 : n0 ≤ h0.size)  :
    MetFree l x (head1 (Jvm.Cond.code x code maxLocals ret :: ws) room_1) (fun a U => a = #[(.int p1), (.int p2), (.int p3)] ∧ Z.Warmed39 U.vm ∧ U.heap = h0) (fun _ _ _ _ _ => True) (fun _ U o U' => ∃ v L, o = .returned v ∧ own_Q0 Z p1 p2 p3 h0 n0 v U'.heap L ∧ FrameEnd U o U' L room_1.cells room_1.slots) := by
  refine MetFree.of_bodySF (plainFor_of_name own_pn_2) hisR ?_
  intro p e s m args below meth c s₁ Bd hml0 hP hK
  obtain ⟨rfl, hZ, hh⟩ := hP
  have hw0 := hw _ (List.mem_of_getElem? (i := 0) rfl)
  have hw1 := hw _ (List.mem_of_getElem? (i := 1) rfl)
  have hw2 := hw _ (List.mem_of_getElem? (i := 2) rfl)
  have hw3 := hw _ (List.mem_of_getElem? (i := 3) rfl)
  have hw4 := hw _ (List.mem_of_getElem? (i := 4) rfl)
  have hw5 := hw _ (List.mem_of_getElem? (i := 5) rfl)
  have hw6 := hw _ (List.mem_of_getElem? (i := 6) rfl)
  have hw7 := hw _ (List.mem_of_getElem? (i := 7) rfl)
  have hw8 := hw _ (List.mem_of_getElem? (i := 8) rfl)
  have hw9 := hw _ (List.mem_of_getElem? (i := 9) rfl)
  have hw10 := hw _ (List.mem_of_getElem? (i := 10) rfl)
  have hw11 := hw _ (List.mem_of_getElem? (i := 11) rfl)
  have hw12 := hw _ (List.mem_of_getElem? (i := 12) rfl)
  have hw22 := hw _ (List.mem_of_getElem? (i := 22) rfl)
  have hw24 := hw _ (List.mem_of_getElem? (i := 24) rfl)
  have hw25 := hw _ (List.mem_of_getElem? (i := 25) rfl)
  have hw26 := hw _ (List.mem_of_getElem? (i := 26) rfl)
  have hw27 := hw _ (List.mem_of_getElem? (i := 27) rfl)
  have hw28 := hw _ (List.mem_of_getElem? (i := 28) rfl)
  have hw29 := hw _ (List.mem_of_getElem? (i := 29) rfl)
  have hx := Bd.exec
  have hby := Bd.bytes
  have hml : c.maxLocals = 13 := hml0
  have hown : s.vm.findClass "com/example/tendersense/tendersense/IntervalLengthPinLaw" = some m.cls := findClass_of_methodNamed Bd.named
  have hnm := (name_of_methodNamed Bd.named Bd.method).1
  have X0 : Stand p l e room_1 s m #[(.int p1), (.int p2), (.int p3)] below meth c s₁ [] 0 0 := Stand.of_body Bd
  have e0 : s₁.heap = h0 := by rw [← hh, Bd.state]; rfl
  have N0 := Fr.nil n0
  obtain ⟨R0, hR0⟩ : ∃ R : State → Prop, R = fun t => Steps p.tables e below (s₁.setTop (entryFrame m #[(.int p1), (.int p2), (.int p3)] maxLocals)) t := ⟨_, rfl⟩
  have pre0 : ∀ t, Steps p.tables e below (s₁.setTop (mkF m 0 #[sI p1, sI p2, sI p3, sU, sU, sU, sU, sU, sU, sU, sU, sU, sU] [])) t → R0 t := fun t k => by rw [hR0]; exact castTop (own_ef_0 m p1 p2 p3) k
  have pre1 : ∀ t, own_S p e below s₁ m 3 #[sI p1, sI p2, sI p3, sU, sU, sU, sU, sU, sU, sU, sU, sU, sU] [(.int p3), (.int p2), (.int p1)] t → R0 t := fun t k => pre0 t (by
    refine XS.iloadN X0.here hx rfl (hb hby at_0) rfl ?_
    show own_S p e below s₁ m 1 #[sI p1, sI p2, sI p3, sU, sU, sU, sU, sU, sU, sU, sU, sU, sU] [(.int p1)] _
    refine XS.iloadN X0.here hx rfl (hb hby at_1) rfl ?_
    show own_S p e below s₁ m 2 #[sI p1, sI p2, sI p3, sU, sU, sU, sU, sU, sU, sU, sU, sU, sU] [(.int p2), (.int p1)] _
    refine XS.iloadN X0.here hx rfl (hb hby at_2) rfl ?_
    exact k)
  obtain ⟨_, _, ⟨T2, L2, k2, n2⟩, -, X2, ⟨Lc2, hQ2, l2, y2, z2⟩, st2⟩ := Jvm.LawKit.callS X0 hx (y := own_y0) hown (mvT hZ hw0) (mvT hZ hw1) (mvT hZ hw2) (mvT hZ hw3) (by decide) (backOf (W := 1) (own_rm1 l Z a0 hw [] p2 p3 h0 n0 Z0 ) hZ hw3 hw2 (by decide) (by decide)) (g := (mkF m 3 #[sI p1, sI p2, sI p3, sU, sU, sU, sU, sU, sU, sU, sU, sU, sU] [(.int p3), (.int p2), (.int p1)])) rfl (by rw [hml]; rfl) (argsL := [(.int p2), (.int p3)]) (rest := [(.int p1)]) (lenOf own_pd_1 rfl) rfl (by show 2 * 0 + _ ≤ _; exact Nat.le_of_eq rfl) (hb hby at_3) (fun _ _ => ⟨rfl, e0, (by decide : 0 + 0 ≤ _), (by decide : 0 + 0 ≤ _)⟩)
  dsimp only [Pt.U, Pt.locs, Pt.cells, Pt.slots] at X2 l2 y2 z2 st2 hQ2
  subst l2 y2 z2
  obtain ⟨rfl, N2q, eh2⟩ := hQ2
  have N2 := Fr.app N0 N2q
  have pre3 : ∀ t, own_S p e below T2 m 6 #[sI p1, sI p2, sI p3, sU, sU, sU, sU, sU, sU, sU, sU, sU, sU] [(.int (own_min p2 p3)), (.int p1)] t → R0 t := fun t k => pre1 t (by
    refine st2 _ ?_
    exact k)
  obtain ⟨_, _, ⟨T4, L4, k4, n4⟩, -, X4, ⟨Lc4, hQ4, l4, y4, z4⟩, st4⟩ := Jvm.LawKit.callS X2 hx (y := own_y0) hown (mvT hZ hw0) (mvT hZ hw1) (mvT hZ hw2) (mvT hZ hw3) (by decide) (backOf (W := 0) (own_rm1 l Z a0 hw [] p1 (own_min p2 p3) h0 n0 Z0 ) hZ hw3 hw2 (by decide) (by decide)) (g := (mkF m 6 #[sI p1, sI p2, sI p3, sU, sU, sU, sU, sU, sU, sU, sU, sU, sU] [(.int (own_min p2 p3)), (.int p1)])) rfl (by rw [hml]; rfl) (argsL := [(.int p1), (.int (own_min p2 p3))]) (rest := []) (lenOf own_pd_1 rfl) rfl (by show 2 * 0 + _ ≤ _; exact Nat.le_of_eq rfl) (hb hby at_6) (fun _ _ => ⟨rfl, eh2, (by decide : 0 + 0 ≤ _), (by decide : 0 + 0 ≤ _)⟩)
  dsimp only [Pt.U, Pt.locs, Pt.cells, Pt.slots] at X4 l4 y4 z4 st4 hQ4
  subst l4 y4 z4
  obtain ⟨rfl, N4q, eh4⟩ := hQ4
  have N4 := Fr.app N2 N4q
  have pre5 : ∀ t, own_S p e below T4 m 9 #[sI p1, sI p2, sI p3, sU, sU, sU, sU, sU, sU, sU, sU, sU, sU] [(.int (own_min p1 (own_min p2 p3)))] t → R0 t := fun t k => pre3 t (by
    refine st4 _ ?_
    exact k)
  obtain ⟨v3, hv3⟩ : ∃ z : Int32, z = (own_min p1 (own_min p2 p3)) := ⟨_, rfl⟩
  have pre6 : ∀ t, own_S p e below T4 m 9 #[sI p1, sI p2, sI p3, sU, sU, sU, sU, sU, sU, sU, sU, sU, sU] [(.int v3)] t → R0 t := fun t k => pre5 t (by subst hv3; exact k)
  have pre7 : ∀ t, own_S p e below T4 m 13 #[sI p1, sI p2, sI p3, sI v3, sU, sU, sU, sU, sU, sU, sU, sU, sU] [(.int p3), (.int p2), (.int p1)] t → R0 t := fun t k => pre6 t (by
    refine XS.istoreN X4.here hx rfl (hb hby at_9) rfl (l' := #[sI p1, sI p2, sI p3, sI v3, sU, sU, sU, sU, sU, sU, sU, sU, sU]) rfl ?_
    show own_S p e below T4 m 10 #[sI p1, sI p2, sI p3, sI v3, sU, sU, sU, sU, sU, sU, sU, sU, sU] [] _
    refine XS.iloadN X4.here hx rfl (hb hby at_10) rfl ?_
    show own_S p e below T4 m 11 #[sI p1, sI p2, sI p3, sI v3, sU, sU, sU, sU, sU, sU, sU, sU, sU] [(.int p1)] _
    refine XS.iloadN X4.here hx rfl (hb hby at_11) rfl ?_
    show own_S p e below T4 m 12 #[sI p1, sI p2, sI p3, sI v3, sU, sU, sU, sU, sU, sU, sU, sU, sU] [(.int p2), (.int p1)] _
    refine XS.iloadN X4.here hx rfl (hb hby at_12) rfl ?_
    exact k)
  obtain ⟨_, _, ⟨T8, L8, k8, n8⟩, -, X8, ⟨Lc8, hQ8, l8, y8, z8⟩, st8⟩ := Jvm.LawKit.callS X4 hx (y := own_y1) hown (mvT hZ hw4) (mvT hZ hw5) (mvT hZ hw2) (mvT hZ hw6) (by decide) (backOf (W := 1) (own_rm2 l Z a0 hw [] p2 p3 h0 n0 Z0 ) hZ hw6 hw2 (by decide) (by decide)) (g := (mkF m 13 #[sI p1, sI p2, sI p3, sI v3, sU, sU, sU, sU, sU, sU, sU, sU, sU] [(.int p3), (.int p2), (.int p1)])) rfl (by rw [hml]; rfl) (argsL := [(.int p2), (.int p3)]) (rest := [(.int p1)]) (lenOf own_pd_1 rfl) rfl (by show 2 * 0 + _ ≤ _; exact Nat.le_of_eq rfl) (hb hby at_13) (fun _ _ => ⟨rfl, eh4, (by decide : 0 + 0 ≤ _), (by decide : 0 + 0 ≤ _)⟩)
  dsimp only [Pt.U, Pt.locs, Pt.cells, Pt.slots] at X8 l8 y8 z8 st8 hQ8
  subst l8 y8 z8
  obtain ⟨rfl, N8q, eh8⟩ := hQ8
  have N8 := Fr.app N4 N8q
  have pre9 : ∀ t, own_S p e below T8 m 16 #[sI p1, sI p2, sI p3, sI v3, sU, sU, sU, sU, sU, sU, sU, sU, sU] [(.int (own_max p2 p3)), (.int p1)] t → R0 t := fun t k => pre7 t (by
    refine st8 _ ?_
    exact k)
  obtain ⟨_, _, ⟨T10, L10, k10, n10⟩, -, X10, ⟨Lc10, hQ10, l10, y10, z10⟩, st10⟩ := Jvm.LawKit.callS X8 hx (y := own_y1) hown (mvT hZ hw4) (mvT hZ hw5) (mvT hZ hw2) (mvT hZ hw6) (by decide) (backOf (W := 0) (own_rm2 l Z a0 hw [] p1 (own_max p2 p3) h0 n0 Z0 ) hZ hw6 hw2 (by decide) (by decide)) (g := (mkF m 16 #[sI p1, sI p2, sI p3, sI v3, sU, sU, sU, sU, sU, sU, sU, sU, sU] [(.int (own_max p2 p3)), (.int p1)])) rfl (by rw [hml]; rfl) (argsL := [(.int p1), (.int (own_max p2 p3))]) (rest := []) (lenOf own_pd_1 rfl) rfl (by show 2 * 0 + _ ≤ _; exact Nat.le_of_eq rfl) (hb hby at_16) (fun _ _ => ⟨rfl, eh8, (by decide : 0 + 0 ≤ _), (by decide : 0 + 0 ≤ _)⟩)
  dsimp only [Pt.U, Pt.locs, Pt.cells, Pt.slots] at X10 l10 y10 z10 st10 hQ10
  subst l10 y10 z10
  obtain ⟨rfl, N10q, eh10⟩ := hQ10
  have N10 := Fr.app N8 N10q
  have pre11 : ∀ t, own_S p e below T10 m 19 #[sI p1, sI p2, sI p3, sI v3, sU, sU, sU, sU, sU, sU, sU, sU, sU] [(.int (own_max p1 (own_max p2 p3)))] t → R0 t := fun t k => pre9 t (by
    refine st10 _ ?_
    exact k)
  obtain ⟨v4, hv4⟩ : ∃ z : Int32, z = (own_max p1 (own_max p2 p3)) := ⟨_, rfl⟩
  have pre12 : ∀ t, own_S p e below T10 m 19 #[sI p1, sI p2, sI p3, sI v3, sU, sU, sU, sU, sU, sU, sU, sU, sU] [(.int v4)] t → R0 t := fun t k => pre11 t (by subst hv4; exact k)
  have pre13 : ∀ t, own_S p e below T10 m 37 #[sI p1, sI p2, sI p3, sI v3, sI v4, sU, sU, sU, sU, sU, sU, sU, sU] [(.int ((((((p1.toInt64) + (p2.toInt64)) + (p3.toInt64)) - (v3.toInt64)) - (v4.toInt64)).toInt32))] t → R0 t := fun t k => pre12 t (by
    refine XS.istore X10.here hx rfl (hb hby at_19) rfl (l' := #[sI p1, sI p2, sI p3, sI v3, sI v4, sU, sU, sU, sU, sU, sU, sU, sU]) rfl ?_
    show own_S p e below T10 m 21 #[sI p1, sI p2, sI p3, sI v3, sI v4, sU, sU, sU, sU, sU, sU, sU, sU] [] _
    refine XS.iloadN X10.here hx rfl (hb hby at_21) rfl ?_
    show own_S p e below T10 m 22 #[sI p1, sI p2, sI p3, sI v3, sI v4, sU, sU, sU, sU, sU, sU, sU, sU] [(.int p1)] _
    refine XS.i2l X10.here hx rfl (hb hby at_22) rfl ?_
    show own_S p e below T10 m 23 #[sI p1, sI p2, sI p3, sI v3, sI v4, sU, sU, sU, sU, sU, sU, sU, sU] [(.long (p1.toInt64))] _
    refine XS.iloadN X10.here hx rfl (hb hby at_23) rfl ?_
    show own_S p e below T10 m 24 #[sI p1, sI p2, sI p3, sI v3, sI v4, sU, sU, sU, sU, sU, sU, sU, sU] [(.int p2), (.long (p1.toInt64))] _
    refine XS.i2l X10.here hx rfl (hb hby at_24) rfl ?_
    show own_S p e below T10 m 25 #[sI p1, sI p2, sI p3, sI v3, sI v4, sU, sU, sU, sU, sU, sU, sU, sU] [(.long (p2.toInt64)), (.long (p1.toInt64))] _
    refine XS.ladd X10.here hx rfl (hb hby at_25) rfl ?_
    show own_S p e below T10 m 26 #[sI p1, sI p2, sI p3, sI v3, sI v4, sU, sU, sU, sU, sU, sU, sU, sU] [(.long ((p1.toInt64) + (p2.toInt64)))] _
    refine XS.iloadN X10.here hx rfl (hb hby at_26) rfl ?_
    show own_S p e below T10 m 27 #[sI p1, sI p2, sI p3, sI v3, sI v4, sU, sU, sU, sU, sU, sU, sU, sU] [(.int p3), (.long ((p1.toInt64) + (p2.toInt64)))] _
    refine XS.i2l X10.here hx rfl (hb hby at_27) rfl ?_
    show own_S p e below T10 m 28 #[sI p1, sI p2, sI p3, sI v3, sI v4, sU, sU, sU, sU, sU, sU, sU, sU] [(.long (p3.toInt64)), (.long ((p1.toInt64) + (p2.toInt64)))] _
    refine XS.ladd X10.here hx rfl (hb hby at_28) rfl ?_
    show own_S p e below T10 m 29 #[sI p1, sI p2, sI p3, sI v3, sI v4, sU, sU, sU, sU, sU, sU, sU, sU] [(.long (((p1.toInt64) + (p2.toInt64)) + (p3.toInt64)))] _
    refine XS.iloadN X10.here hx rfl (hb hby at_29) rfl ?_
    show own_S p e below T10 m 30 #[sI p1, sI p2, sI p3, sI v3, sI v4, sU, sU, sU, sU, sU, sU, sU, sU] [(.int v3), (.long (((p1.toInt64) + (p2.toInt64)) + (p3.toInt64)))] _
    refine XS.i2l X10.here hx rfl (hb hby at_30) rfl ?_
    show own_S p e below T10 m 31 #[sI p1, sI p2, sI p3, sI v3, sI v4, sU, sU, sU, sU, sU, sU, sU, sU] [(.long (v3.toInt64)), (.long (((p1.toInt64) + (p2.toInt64)) + (p3.toInt64)))] _
    refine XS.lsub X10.here hx rfl (hb hby at_31) rfl ?_
    show own_S p e below T10 m 32 #[sI p1, sI p2, sI p3, sI v3, sI v4, sU, sU, sU, sU, sU, sU, sU, sU] [(.long ((((p1.toInt64) + (p2.toInt64)) + (p3.toInt64)) - (v3.toInt64)))] _
    refine XS.iload X10.here hx rfl (hb hby at_32) rfl ?_
    show own_S p e below T10 m 34 #[sI p1, sI p2, sI p3, sI v3, sI v4, sU, sU, sU, sU, sU, sU, sU, sU] [(.int v4), (.long ((((p1.toInt64) + (p2.toInt64)) + (p3.toInt64)) - (v3.toInt64)))] _
    refine XS.i2l X10.here hx rfl (hb hby at_34) rfl ?_
    show own_S p e below T10 m 35 #[sI p1, sI p2, sI p3, sI v3, sI v4, sU, sU, sU, sU, sU, sU, sU, sU] [(.long (v4.toInt64)), (.long ((((p1.toInt64) + (p2.toInt64)) + (p3.toInt64)) - (v3.toInt64)))] _
    refine XS.lsub X10.here hx rfl (hb hby at_35) rfl ?_
    show own_S p e below T10 m 36 #[sI p1, sI p2, sI p3, sI v3, sI v4, sU, sU, sU, sU, sU, sU, sU, sU] [(.long (((((p1.toInt64) + (p2.toInt64)) + (p3.toInt64)) - (v3.toInt64)) - (v4.toInt64)))] _
    refine XS.l2i X10.here hx rfl (hb hby at_36) rfl ?_
    exact k)
  obtain ⟨v5, hv5⟩ : ∃ z : Int32, z = ((((((p1.toInt64) + (p2.toInt64)) + (p3.toInt64)) - (v3.toInt64)) - (v4.toInt64)).toInt32) := ⟨_, rfl⟩
  have pre14 : ∀ t, own_S p e below T10 m 37 #[sI p1, sI p2, sI p3, sI v3, sI v4, sU, sU, sU, sU, sU, sU, sU, sU] [(.int v5)] t → R0 t := fun t k => pre13 t (by subst hv5; exact k)
  have b5 := own_mid p1 p2 p3 v3 v4 hv3 hv4
  rw [← hv5] at b5
  have r4 := rng32 v4
  have pre15 : ∀ t, own_S p e below T10 m 39 #[sI p1, sI p2, sI p3, sI v3, sI v4, sI v5, sU, sU, sU, sU, sU, sU, sU] [] t → R0 t := fun t k => pre14 t (by
    refine XS.istore X10.here hx rfl (hb hby at_37) rfl (l' := #[sI p1, sI p2, sI p3, sI v3, sI v4, sI v5, sU, sU, sU, sU, sU, sU, sU]) rfl ?_
    exact k)
  obtain ⟨T16, h16, X16, e16, E16, A16, D16, -, st16⟩ := newO X10 hx hZ hown hw7 hw8 hw9 eh10 (g := (mkF m 39 #[sI p1, sI p2, sI p3, sI v3, sI v4, sI v5, sU, sU, sU, sU, sU, sU, sU] [])) rfl (hb hby at_39) (by decide) (by decide)
  obtain ⟨b16, g16⟩ : ∃ z, z = h0.size := ⟨_, rfl⟩
  rw [← g16] at A16 D16 st16
  have g_b16 : n0 ≤ b16 := Nat.le_trans Z0 (Nat.le_of_eq g16.symm)
  have f17 := Nat.le_trans Z0 E16.1
  have f18 : Fld Z h16 b16 "com/example/tendersense/tendersense/Interval" "start" "I" (.int 0) := D16 (Or.inr hw22) (ty := .int) (by decide)
  have f19 : Fld Z h16 b16 "com/example/tendersense/tendersense/Interval" "end" "I" (.int 0) := D16 (Or.inr hw24) (ty := .int) (by decide)
  have pre20 : ∀ t, own_S p e below T16 m 45 #[sI p1, sI p2, sI p3, sI v3, sI v4, sI v5, sU, sU, sU, sU, sU, sU, sU] [(.int p1), (.int p1), (.ref b16), (.ref b16)] t → R0 t := fun t k => pre15 t (by
    refine st16 _ ?_
    show own_S p e below T16 m 42 #[sI p1, sI p2, sI p3, sI v3, sI v4, sI v5, sU, sU, sU, sU, sU, sU, sU] [(.ref b16)] _
    refine XS.dup X16.here hx rfl (hb hby at_42) rfl rfl ?_
    show own_S p e below T16 m 43 #[sI p1, sI p2, sI p3, sI v3, sI v4, sI v5, sU, sU, sU, sU, sU, sU, sU] [(.ref b16), (.ref b16)] _
    refine XS.iloadN X16.here hx rfl (hb hby at_43) rfl ?_
    show own_S p e below T16 m 44 #[sI p1, sI p2, sI p3, sI v3, sI v4, sI v5, sU, sU, sU, sU, sU, sU, sU] [(.int p1), (.ref b16), (.ref b16)] _
    refine XS.iloadN X16.here hx rfl (hb hby at_44) rfl ?_
    exact k)
  have hp21 : ¬ (p1 < p1) := Int32.lt_irrefl
  obtain ⟨_, _, ⟨T22, L22, k22, n22⟩, -, X22, ⟨Lc22, hQ22, l22, y22, z22⟩, st22⟩ := X16.specialBack hx (y := own_y3) rfl hown (mvT hZ hw10) (mvT hZ hw11) (mvT hZ hw12) (by decide) (backOf (W := 1) (own_rm3 l Z a0 hw [] b16 p1 p1 (.int 0) (.int 0) h16 n0 f17 A16 f18 f19 g_b16 hp21) hZ hw12 hw9 (by decide) (by decide)) (g := (mkF m 45 #[sI p1, sI p2, sI p3, sI v3, sI v4, sI v5, sU, sU, sU, sU, sU, sU, sU] [(.int p1), (.int p1), (.ref b16), (.ref b16)])) rfl (by rw [hml]; rfl) (Steps.refl _) (a := b16) (argsL := [(.int p1), (.int p1)]) (rest := [(.ref b16)]) (lenOf own_pd_2 rfl) rfl (by show 2 * 0 + _ ≤ _; exact Nat.le_of_eq rfl) (hb hby at_45) (fun _ _ => ⟨rfl, e16, (by decide : 1 + 0 ≤ _), (by decide : 2 + 0 ≤ _)⟩)
  dsimp only [Pt.U, Pt.locs, Pt.cells, Pt.slots] at X22 l22 y22 z22 st22 hQ22
  subst l22 y22 z22
  obtain ⟨rfl, N22q, K22, ex22, fx22_0, fx22_1⟩ := hQ22
  have f23 := Nat.le_trans f17 K22.1
  have f24 := A16.keep K22
  have N22 := Fr.app N10 N22q
  have pre25 : ∀ t, own_S p e below T22 m 50 #[sI p1, sI p2, sI p3, sI v3, sI v4, sI v5, sR b16, sU, sU, sU, sU, sU, sU] [] t → R0 t := fun t k => pre20 t (by
    refine st22.trans ?_
    show own_S p e below T22 m 48 #[sI p1, sI p2, sI p3, sI v3, sI v4, sI v5, sU, sU, sU, sU, sU, sU, sU] [(.ref b16)] _
    refine XS.astore X22.here hx rfl (hb hby at_48) rfl rfl (l' := #[sI p1, sI p2, sI p3, sI v3, sI v4, sI v5, sR b16, sU, sU, sU, sU, sU, sU]) rfl ?_
    exact k)
  obtain ⟨T26, h26, X26, e26, E26, A26, D26, -, st26⟩ := newO X22 hx hZ hown hw7 hw8 hw9 rfl (g := (mkF m 50 #[sI p1, sI p2, sI p3, sI v3, sI v4, sI v5, sR b16, sU, sU, sU, sU, sU, sU] [])) rfl (hb hby at_50) (by decide) (by decide)
  obtain ⟨b26, g26⟩ : ∃ z, z = T22.heap.size := ⟨_, rfl⟩
  rw [← g26] at A26 D26 st26
  have lne27 : b16 < b26 := Nat.lt_of_lt_of_le ex22.lt (Nat.le_of_eq g26.symm)
  have ne27 : b16 ≠ b26 := Nat.ne_of_lt lne27
  have g_b26 : n0 ≤ b26 := Nat.le_trans f23 (Nat.le_of_eq g26.symm)
  have f28 := Nat.le_trans f23 E26.1
  have f29 := ex22.ext E26
  have f30 := fx22_0.ext E26
  have f31 := fx22_1.ext E26
  have f32 : Fld Z h26 b26 "com/example/tendersense/tendersense/Interval" "start" "I" (.int 0) := D26 (Or.inr hw22) (ty := .int) (by decide)
  have f33 : Fld Z h26 b26 "com/example/tendersense/tendersense/Interval" "end" "I" (.int 0) := D26 (Or.inr hw24) (ty := .int) (by decide)
  have pre34 : ∀ t, own_S p e below T26 m 57 #[sI p1, sI p2, sI p3, sI v3, sI v4, sI v5, sR b16, sU, sU, sU, sU, sU, sU] [(.int v4), (.int v3), (.ref b26), (.ref b26)] t → R0 t := fun t k => pre25 t (by
    refine st26 _ ?_
    show own_S p e below T26 m 53 #[sI p1, sI p2, sI p3, sI v3, sI v4, sI v5, sR b16, sU, sU, sU, sU, sU, sU] [(.ref b26)] _
    refine XS.dup X26.here hx rfl (hb hby at_53) rfl rfl ?_
    show own_S p e below T26 m 54 #[sI p1, sI p2, sI p3, sI v3, sI v4, sI v5, sR b16, sU, sU, sU, sU, sU, sU] [(.ref b26), (.ref b26)] _
    refine XS.iloadN X26.here hx rfl (hb hby at_54) rfl ?_
    show own_S p e below T26 m 55 #[sI p1, sI p2, sI p3, sI v3, sI v4, sI v5, sR b16, sU, sU, sU, sU, sU, sU] [(.int v3), (.ref b26), (.ref b26)] _
    refine XS.iload X26.here hx rfl (hb hby at_55) rfl ?_
    exact k)
  have hp35 : ¬ (v4 < v3) := by simp only [Int32.lt_iff_toInt_lt]; omega
  obtain ⟨_, _, ⟨T36, L36, k36, n36⟩, -, X36, ⟨Lc36, hQ36, l36, y36, z36⟩, st36⟩ := X26.specialBack hx (y := own_y3) rfl hown (mvT hZ hw10) (mvT hZ hw11) (mvT hZ hw12) (by decide) (backOf (W := 1) (own_rm3 l Z a0 hw [] b26 v3 v4 (.int 0) (.int 0) h26 n0 f28 A26 f32 f33 g_b26 hp35) hZ hw12 hw9 (by decide) (by decide)) (g := (mkF m 57 #[sI p1, sI p2, sI p3, sI v3, sI v4, sI v5, sR b16, sU, sU, sU, sU, sU, sU] [(.int v4), (.int v3), (.ref b26), (.ref b26)])) rfl (by rw [hml]; rfl) (Steps.refl _) (a := b26) (argsL := [(.int v3), (.int v4)]) (rest := [(.ref b26)]) (lenOf own_pd_2 rfl) rfl (by show 2 * 0 + _ ≤ _; exact Nat.le_of_eq rfl) (hb hby at_57) (fun _ _ => ⟨rfl, e26, (by decide : 2 + 0 ≤ _), (by decide : 4 + 0 ≤ _)⟩)
  dsimp only [Pt.U, Pt.locs, Pt.cells, Pt.slots] at X36 l36 y36 z36 st36 hQ36
  subst l36 y36 z36
  obtain ⟨rfl, N36q, K36, ex36, fx36_0, fx36_1⟩ := hQ36
  have f37 := Nat.le_trans f28 K36.1
  have f38 := f29.keep K36
  have f39 := f30.keep K36 (ninS ne27 nin0)
  have f40 := f31.keep K36 (ninS ne27 nin0)
  have f41 := A26.keep K36
  have N36 := Fr.app N22 N36q
  have pre42 : ∀ t, own_S p e below T36 m 64 #[sI p1, sI p2, sI p3, sI v3, sI v4, sI v5, sR b16, sR b26, sU, sU, sU, sU, sU] [(.ref b26)] t → R0 t := fun t k => pre34 t (by
    refine st36.trans ?_
    show own_S p e below T36 m 60 #[sI p1, sI p2, sI p3, sI v3, sI v4, sI v5, sR b16, sU, sU, sU, sU, sU, sU] [(.ref b26)] _
    refine XS.astore X36.here hx rfl (hb hby at_60) rfl rfl (l' := #[sI p1, sI p2, sI p3, sI v3, sI v4, sI v5, sR b16, sR b26, sU, sU, sU, sU, sU]) rfl ?_
    show own_S p e below T36 m 62 #[sI p1, sI p2, sI p3, sI v3, sI v4, sI v5, sR b16, sR b26, sU, sU, sU, sU, sU] [] _
    refine XS.aload X36.here hx rfl (hb hby at_62) rfl rfl ?_
    exact k)
  obtain ⟨cq43, kq43, q43a, q43b, q43c⟩ := isOf hZ rfl ex36
  obtain ⟨_, _, ⟨T43, L43, k43, n43⟩, -, X43, ⟨Lc43, hQ43, l43, y43, z43⟩, st43⟩ := X36.virtualBack hx (y := own_y4) (z := own_y4) hown (mvT hZ hw25) (mvT hZ hw26) (notFace_of_selects (args := #[]) (mvT hZ hw28)) (mvT hZ hw28) (mvT hZ hw27) (by decide) (backOf (W := 0) (own_rm6 l Z a0 hw [] b26 v3 v4 T36.heap n0 f37 fx36_0 fx36_1) hZ hw29 hw9 (by decide) (by decide)) q43a q43c (g := (mkF m 64 #[sI p1, sI p2, sI p3, sI v3, sI v4, sI v5, sR b16, sR b26, sU, sU, sU, sU, sU] [(.ref b26)])) rfl (by rw [hml]; rfl) (Steps.refl _) (argsL := []) (rest := []) (lenOf own_pd_3 rfl) rfl (by show 2 * 0 + _ ≤ _; exact Nat.le_of_eq rfl) (hb hby at_64) (fun _ _ => ⟨rfl, rfl, (by decide : 2 + 0 ≤ _), (by decide : 4 + 0 ≤ _)⟩)
  dsimp only [Pt.U, Pt.locs, Pt.cells, Pt.slots] at X43 l43 y43 z43 st43 hQ43
  subst l43 y43 z43
  obtain ⟨rfl, N43q, eh43⟩ := hQ43
  have N43 := Fr.app N36 N43q
  have pre44 : ∀ t, own_S p e below T43 m 71 #[sI p1, sI p2, sI p3, sI v3, sI v4, sI v5, sR b16, sR b26, sJ (own_len v3 v4), sW, sU, sU, sU] [(.ref b16)] t → R0 t := fun t k => pre42 t (by
    refine st43.trans ?_
    show own_S p e below T43 m 67 #[sI p1, sI p2, sI p3, sI v3, sI v4, sI v5, sR b16, sR b26, sU, sU, sU, sU, sU] [(.long (own_len v3 v4))] _
    refine XS.lstore X43.here hx rfl (hb hby at_67) rfl (l' := #[sI p1, sI p2, sI p3, sI v3, sI v4, sI v5, sR b16, sR b26, sJ (own_len v3 v4), sW, sU, sU, sU]) rfl ?_
    show own_S p e below T43 m 69 #[sI p1, sI p2, sI p3, sI v3, sI v4, sI v5, sR b16, sR b26, sJ (own_len v3 v4), sW, sU, sU, sU] [] _
    refine XS.aload X43.here hx rfl (hb hby at_69) rfl rfl ?_
    exact k)
  obtain ⟨cq45, kq45, q45a, q45b, q45c⟩ := isOf hZ eh43 f38
  obtain ⟨_, _, ⟨T45, L45, k45, n45⟩, -, X45, ⟨Lc45, hQ45, l45, y45, z45⟩, st45⟩ := X43.virtualBack hx (y := own_y4) (z := own_y4) hown (mvT hZ hw25) (mvT hZ hw26) (notFace_of_selects (args := #[]) (mvT hZ hw28)) (mvT hZ hw28) (mvT hZ hw27) (by decide) (backOf (W := 0) (own_rm6 l Z a0 hw [] b16 p1 p1 T36.heap n0 f37 f39 f40) hZ hw29 hw9 (by decide) (by decide)) q45a q45c (g := (mkF m 71 #[sI p1, sI p2, sI p3, sI v3, sI v4, sI v5, sR b16, sR b26, sJ (own_len v3 v4), sW, sU, sU, sU] [(.ref b16)])) rfl (by rw [hml]; rfl) (Steps.refl _) (argsL := []) (rest := []) (lenOf own_pd_3 rfl) rfl (by show 2 * 0 + _ ≤ _; exact Nat.le_of_eq rfl) (hb hby at_71) (fun _ _ => ⟨rfl, eh43, (by decide : 2 + 0 ≤ _), (by decide : 4 + 0 ≤ _)⟩)
  dsimp only [Pt.U, Pt.locs, Pt.cells, Pt.slots] at X45 l45 y45 z45 st45 hQ45
  subst l45 y45 z45
  obtain ⟨rfl, N45q, eh45⟩ := hQ45
  have N45 := Fr.app N43 N45q
  have pre46 : ∀ t, own_S p e below T45 m 76 #[sI p1, sI p2, sI p3, sI v3, sI v4, sI v5, sR b16, sR b26, sJ (own_len v3 v4), sW, sU, sU, sU] [(.int (lcmpW (own_len p1 p1) (1 : Int64)))] t → R0 t := fun t k => pre44 t (by
    refine st45.trans ?_
    show own_S p e below T45 m 74 #[sI p1, sI p2, sI p3, sI v3, sI v4, sI v5, sR b16, sR b26, sJ (own_len v3 v4), sW, sU, sU, sU] [(.long (own_len p1 p1))] _
    refine XS.lconst X45.here hx rfl (hb hby at_74) ?_
    show own_S p e below T45 m 75 #[sI p1, sI p2, sI p3, sI v3, sI v4, sI v5, sR b16, sR b26, sJ (own_len v3 v4), sW, sU, sU, sU] [(.long 1), (.long (own_len p1 p1))] _
    refine XS.lcmp X45.here hx rfl (hb hby at_75) rfl ?_
    exact k)
  have hc47 : (own_len p1 p1) = (1 : Int64) := by apply Int64.toInt_inj.mp; rw [own_len_int, own_one]; omega
  have pre48 : ∀ t, own_S p e below T45 m 83 #[sI p1, sI p2, sI p3, sI v3, sI v4, sI v5, sR b16, sR b26, sJ (own_len v3 v4), sW, sU, sU, sU] [(.int (lcmpW (own_len v3 v4) (1 : Int64)))] t → R0 t := fun t k => pre46 t (by
    refine XS.ifNo X45.here hx rfl (hb hby at_76) rfl ((if0 _ _).trans (teq ((lw_eq _ _).mpr hc47)).2) ?_
    show own_S p e below T45 m 79 #[sI p1, sI p2, sI p3, sI v3, sI v4, sI v5, sR b16, sR b26, sJ (own_len v3 v4), sW, sU, sU, sU] [] _
    refine XS.lload X45.here hx rfl (hb hby at_79) rfl ?_
    show own_S p e below T45 m 81 #[sI p1, sI p2, sI p3, sI v3, sI v4, sI v5, sR b16, sR b26, sJ (own_len v3 v4), sW, sU, sU, sU] [(.long (own_len v3 v4))] _
    refine XS.lconst X45.here hx rfl (hb hby at_81) ?_
    show own_S p e below T45 m 82 #[sI p1, sI p2, sI p3, sI v3, sI v4, sI v5, sR b16, sR b26, sJ (own_len v3 v4), sW, sU, sU, sU] [(.long 1), (.long (own_len v3 v4))] _
    refine XS.lcmp X45.here hx rfl (hb hby at_82) rfl ?_
    exact k)
  have hc49 : ¬ ((own_len v3 v4) < (1 : Int64)) := by simp only [Int64.lt_iff_toInt_lt]; rw [own_len_int, own_one]; omega
  have pre50 : ∀ t, own_S p e below T45 m 97 #[sI p1, sI p2, sI p3, sI v3, sI v4, sI v5, sR b16, sR b26, sJ (own_len v3 v4), sW, sI 1, sU, sU] [(.int v4), (.int v5)] t → R0 t := fun t k => pre48 t (by
    refine XS.ifNo X45.here hx rfl (hb hby at_83) rfl ((if0 _ _).trans (flt (mt (lw_lt _ _).mp hc49)).1) ?_
    show own_S p e below T45 m 86 #[sI p1, sI p2, sI p3, sI v3, sI v4, sI v5, sR b16, sR b26, sJ (own_len v3 v4), sW, sU, sU, sU] [] _
    refine XS.iconst X45.here hx rfl (hb hby at_86) ?_
    show own_S p e below T45 m 87 #[sI p1, sI p2, sI p3, sI v3, sI v4, sI v5, sR b16, sR b26, sJ (own_len v3 v4), sW, sU, sU, sU] [(.int 1)] _
    refine XS.goto X45.here hx rfl (pc0 := 87) (pc' := 91) rfl (hb hby at_87) (by decide) (by decide) ?_
    show own_S p e below T45 m 91 #[sI p1, sI p2, sI p3, sI v3, sI v4, sI v5, sR b16, sR b26, sJ (own_len v3 v4), sW, sU, sU, sU] [(.int 1)] _
    refine XS.istore X45.here hx rfl (hb hby at_91) rfl (l' := #[sI p1, sI p2, sI p3, sI v3, sI v4, sI v5, sR b16, sR b26, sJ (own_len v3 v4), sW, sI 1, sU, sU]) rfl ?_
    show own_S p e below T45 m 93 #[sI p1, sI p2, sI p3, sI v3, sI v4, sI v5, sR b16, sR b26, sJ (own_len v3 v4), sW, sI 1, sU, sU] [] _
    refine XS.iload X45.here hx rfl (hb hby at_93) rfl ?_
    show own_S p e below T45 m 95 #[sI p1, sI p2, sI p3, sI v3, sI v4, sI v5, sR b16, sR b26, sJ (own_len v3 v4), sW, sI 1, sU, sU] [(.int v5)] _
    refine XS.iload X45.here hx rfl (hb hby at_95) rfl ?_
    exact k)
  by_cases hc97 : v5 < v4
  · have pre51 : ∀ t, own_S p e below T45 m 100 #[sI p1, sI p2, sI p3, sI v3, sI v4, sI v5, sR b16, sR b26, sJ (own_len v3 v4), sW, sI 1, sU, sU] [] t → R0 t := fun t k => pre50 t (by
      refine XS.icmpNo X45.here hx rfl (hb hby at_97) rfl (tlt hc97).2.1 ?_
      exact k)
    obtain ⟨T52, h52, X52, e52, E52, A52, D52, -, st52⟩ := newO X45 hx hZ hown hw7 hw8 hw9 eh45 (g := (mkF m 100 #[sI p1, sI p2, sI p3, sI v3, sI v4, sI v5, sR b16, sR b26, sJ (own_len v3 v4), sW, sI 1, sU, sU] [])) rfl (hb hby at_100) (by decide) (by decide)
    obtain ⟨b52, g52⟩ : ∃ z, z = T36.heap.size := ⟨_, rfl⟩
    rw [← g52] at A52 D52 st52
    have lne53 : b16 < b52 := Nat.lt_of_lt_of_le f38.lt (Nat.le_of_eq g52.symm)
    have ne53 : b16 ≠ b52 := Nat.ne_of_lt lne53
    have lne54 : b26 < b52 := Nat.lt_of_lt_of_le ex36.lt (Nat.le_of_eq g52.symm)
    have ne54 : b26 ≠ b52 := Nat.ne_of_lt lne54
    have g_b52 : n0 ≤ b52 := Nat.le_trans f37 (Nat.le_of_eq g52.symm)
    have f55 := Nat.le_trans f37 E52.1
    have f56 := f38.ext E52
    have f57 := f39.ext E52
    have f58 := f40.ext E52
    have f59 := ex36.ext E52
    have f60 := fx36_0.ext E52
    have f61 := fx36_1.ext E52
    have f62 : Fld Z h52 b52 "com/example/tendersense/tendersense/Interval" "start" "I" (.int 0) := D52 (Or.inr hw22) (ty := .int) (by decide)
    have f63 : Fld Z h52 b52 "com/example/tendersense/tendersense/Interval" "end" "I" (.int 0) := D52 (Or.inr hw24) (ty := .int) (by decide)
    have pre64 : ∀ t, own_S p e below T52 m 107 #[sI p1, sI p2, sI p3, sI v3, sI v4, sI v5, sR b16, sR b26, sJ (own_len v3 v4), sW, sI 1, sU, sU] [(.int v5), (.int v3), (.ref b52), (.ref b52)] t → R0 t := fun t k => pre51 t (by
      refine st52 _ ?_
      show own_S p e below T52 m 103 #[sI p1, sI p2, sI p3, sI v3, sI v4, sI v5, sR b16, sR b26, sJ (own_len v3 v4), sW, sI 1, sU, sU] [(.ref b52)] _
      refine XS.dup X52.here hx rfl (hb hby at_103) rfl rfl ?_
      show own_S p e below T52 m 104 #[sI p1, sI p2, sI p3, sI v3, sI v4, sI v5, sR b16, sR b26, sJ (own_len v3 v4), sW, sI 1, sU, sU] [(.ref b52), (.ref b52)] _
      refine XS.iloadN X52.here hx rfl (hb hby at_104) rfl ?_
      show own_S p e below T52 m 105 #[sI p1, sI p2, sI p3, sI v3, sI v4, sI v5, sR b16, sR b26, sJ (own_len v3 v4), sW, sI 1, sU, sU] [(.int v3), (.ref b52), (.ref b52)] _
      refine XS.iload X52.here hx rfl (hb hby at_105) rfl ?_
      exact k)
    have hp65 : ¬ (v5 < v3) := by simp only [Int32.lt_iff_toInt_lt]; omega
    obtain ⟨_, _, ⟨T66, L66, k66, n66⟩, -, X66, ⟨Lc66, hQ66, l66, y66, z66⟩, st66⟩ := X52.specialBack hx (y := own_y3) rfl hown (mvT hZ hw10) (mvT hZ hw11) (mvT hZ hw12) (by decide) (backOf (W := 1) (own_rm3 l Z a0 hw [] b52 v3 v5 (.int 0) (.int 0) h52 n0 f55 A52 f62 f63 g_b52 hp65) hZ hw12 hw9 (by decide) (by decide)) (g := (mkF m 107 #[sI p1, sI p2, sI p3, sI v3, sI v4, sI v5, sR b16, sR b26, sJ (own_len v3 v4), sW, sI 1, sU, sU] [(.int v5), (.int v3), (.ref b52), (.ref b52)])) rfl (by rw [hml]; rfl) (Steps.refl _) (a := b52) (argsL := [(.int v3), (.int v5)]) (rest := [(.ref b52)]) (lenOf own_pd_2 rfl) rfl (by show 2 * 0 + _ ≤ _; exact Nat.le_of_eq rfl) (hb hby at_107) (fun _ _ => ⟨rfl, e52, (by decide : 3 + 0 ≤ _), (by decide : 6 + 0 ≤ _)⟩)
    dsimp only [Pt.U, Pt.locs, Pt.cells, Pt.slots] at X66 l66 y66 z66 st66 hQ66
    subst l66 y66 z66
    obtain ⟨rfl, N66q, K66, ex66, fx66_0, fx66_1⟩ := hQ66
    have f67 := Nat.le_trans f55 K66.1
    have f68 := f56.keep K66
    have f69 := f57.keep K66 (ninS ne53 nin0)
    have f70 := f58.keep K66 (ninS ne53 nin0)
    have f71 := f59.keep K66
    have f72 := f60.keep K66 (ninS ne54 nin0)
    have f73 := f61.keep K66 (ninS ne54 nin0)
    have f74 := A52.keep K66
    have N66 := Fr.app N45 N66q
    have pre75 : ∀ t, own_S p e below T66 m 112 #[sI p1, sI p2, sI p3, sI v3, sI v4, sI v5, sR b16, sR b26, sJ (own_len v3 v4), sW, sI 1, sR b52, sU] [] t → R0 t := fun t k => pre64 t (by
      refine st66.trans ?_
      show own_S p e below T66 m 110 #[sI p1, sI p2, sI p3, sI v3, sI v4, sI v5, sR b16, sR b26, sJ (own_len v3 v4), sW, sI 1, sU, sU] [(.ref b52)] _
      refine XS.astore X66.here hx rfl (hb hby at_110) rfl rfl (l' := #[sI p1, sI p2, sI p3, sI v3, sI v4, sI v5, sR b16, sR b26, sJ (own_len v3 v4), sW, sI 1, sR b52, sU]) rfl ?_
      exact k)
    obtain ⟨T76, h76, X76, e76, E76, A76, D76, -, st76⟩ := newO X66 hx hZ hown hw7 hw8 hw9 rfl (g := (mkF m 112 #[sI p1, sI p2, sI p3, sI v3, sI v4, sI v5, sR b16, sR b26, sJ (own_len v3 v4), sW, sI 1, sR b52, sU] [])) rfl (hb hby at_112) (by decide) (by decide)
    obtain ⟨b76, g76⟩ : ∃ z, z = T66.heap.size := ⟨_, rfl⟩
    rw [← g76] at A76 D76 st76
    have lne77 : b16 < b76 := Nat.lt_of_lt_of_le f68.lt (Nat.le_of_eq g76.symm)
    have ne77 : b16 ≠ b76 := Nat.ne_of_lt lne77
    have lne78 : b26 < b76 := Nat.lt_of_lt_of_le f71.lt (Nat.le_of_eq g76.symm)
    have ne78 : b26 ≠ b76 := Nat.ne_of_lt lne78
    have lne79 : b52 < b76 := Nat.lt_of_lt_of_le ex66.lt (Nat.le_of_eq g76.symm)
    have ne79 : b52 ≠ b76 := Nat.ne_of_lt lne79
    have g_b76 : n0 ≤ b76 := Nat.le_trans f67 (Nat.le_of_eq g76.symm)
    have f80 := Nat.le_trans f67 E76.1
    have f81 := f68.ext E76
    have f82 := f69.ext E76
    have f83 := f70.ext E76
    have f84 := f71.ext E76
    have f85 := f72.ext E76
    have f86 := f73.ext E76
    have f87 := ex66.ext E76
    have f88 := fx66_0.ext E76
    have f89 := fx66_1.ext E76
    have f90 : Fld Z h76 b76 "com/example/tendersense/tendersense/Interval" "start" "I" (.int 0) := D76 (Or.inr hw22) (ty := .int) (by decide)
    have f91 : Fld Z h76 b76 "com/example/tendersense/tendersense/Interval" "end" "I" (.int 0) := D76 (Or.inr hw24) (ty := .int) (by decide)
    have pre92 : ∀ t, own_S p e below T76 m 122 #[sI p1, sI p2, sI p3, sI v3, sI v4, sI v5, sR b16, sR b26, sJ (own_len v3 v4), sW, sI 1, sR b52, sU] [(.int v4), (.int (v5 + (1 : Int32))), (.ref b76), (.ref b76)] t → R0 t := fun t k => pre75 t (by
      refine st76 _ ?_
      show own_S p e below T76 m 115 #[sI p1, sI p2, sI p3, sI v3, sI v4, sI v5, sR b16, sR b26, sJ (own_len v3 v4), sW, sI 1, sR b52, sU] [(.ref b76)] _
      refine XS.dup X76.here hx rfl (hb hby at_115) rfl rfl ?_
      show own_S p e below T76 m 116 #[sI p1, sI p2, sI p3, sI v3, sI v4, sI v5, sR b16, sR b26, sJ (own_len v3 v4), sW, sI 1, sR b52, sU] [(.ref b76), (.ref b76)] _
      refine XS.iload X76.here hx rfl (hb hby at_116) rfl ?_
      show own_S p e below T76 m 118 #[sI p1, sI p2, sI p3, sI v3, sI v4, sI v5, sR b16, sR b26, sJ (own_len v3 v4), sW, sI 1, sR b52, sU] [(.int v5), (.ref b76), (.ref b76)] _
      refine XS.iconst X76.here hx rfl (hb hby at_118) ?_
      show own_S p e below T76 m 119 #[sI p1, sI p2, sI p3, sI v3, sI v4, sI v5, sR b16, sR b26, sJ (own_len v3 v4), sW, sI 1, sR b52, sU] [(.int 1), (.int v5), (.ref b76), (.ref b76)] _
      refine XS.iadd X76.here hx rfl (hb hby at_119) rfl ?_
      show own_S p e below T76 m 120 #[sI p1, sI p2, sI p3, sI v3, sI v4, sI v5, sR b16, sR b26, sJ (own_len v3 v4), sW, sI 1, sR b52, sU] [(.int (v5 + (1 : Int32))), (.ref b76), (.ref b76)] _
      refine XS.iload X76.here hx rfl (hb hby at_120) rfl ?_
      exact k)
    have hp93 : ¬ (v4 < (v5 + (1 : Int32))) := own_up v5 v4 hc97
    obtain ⟨_, _, ⟨T94, L94, k94, n94⟩, -, X94, ⟨Lc94, hQ94, l94, y94, z94⟩, st94⟩ := X76.specialBack hx (y := own_y3) rfl hown (mvT hZ hw10) (mvT hZ hw11) (mvT hZ hw12) (by decide) (backOf (W := 1) (own_rm3 l Z a0 hw [] b76 (v5 + (1 : Int32)) v4 (.int 0) (.int 0) h76 n0 f80 A76 f90 f91 g_b76 hp93) hZ hw12 hw9 (by decide) (by decide)) (g := (mkF m 122 #[sI p1, sI p2, sI p3, sI v3, sI v4, sI v5, sR b16, sR b26, sJ (own_len v3 v4), sW, sI 1, sR b52, sU] [(.int v4), (.int (v5 + (1 : Int32))), (.ref b76), (.ref b76)])) rfl (by rw [hml]; rfl) (Steps.refl _) (a := b76) (argsL := [(.int (v5 + (1 : Int32))), (.int v4)]) (rest := [(.ref b76)]) (lenOf own_pd_2 rfl) rfl (by show 2 * 0 + _ ≤ _; exact Nat.le_of_eq rfl) (hb hby at_122) (fun _ _ => ⟨rfl, e76, (by decide : 4 + 0 ≤ _), (by decide : 8 + 0 ≤ _)⟩)
    dsimp only [Pt.U, Pt.locs, Pt.cells, Pt.slots] at X94 l94 y94 z94 st94 hQ94
    subst l94 y94 z94
    obtain ⟨rfl, N94q, K94, ex94, fx94_0, fx94_1⟩ := hQ94
    have f95 := Nat.le_trans f80 K94.1
    have f96 := f81.keep K94
    have f97 := f82.keep K94 (ninS ne77 nin0)
    have f98 := f83.keep K94 (ninS ne77 nin0)
    have f99 := f84.keep K94
    have f100 := f85.keep K94 (ninS ne78 nin0)
    have f101 := f86.keep K94 (ninS ne78 nin0)
    have f102 := f87.keep K94
    have f103 := f88.keep K94 (ninS ne79 nin0)
    have f104 := f89.keep K94 (ninS ne79 nin0)
    have f105 := A76.keep K94
    have N94 := Fr.app N66 N94q
    have pre106 : ∀ t, own_S p e below T94 m 134 #[sI p1, sI p2, sI p3, sI v3, sI v4, sI v5, sR b16, sR b26, sJ (own_len v3 v4), sW, sI 1, sR b52, sR b76] [(.ref b52)] t → R0 t := fun t k => pre92 t (by
      refine st94.trans ?_
      show own_S p e below T94 m 125 #[sI p1, sI p2, sI p3, sI v3, sI v4, sI v5, sR b16, sR b26, sJ (own_len v3 v4), sW, sI 1, sR b52, sU] [(.ref b76)] _
      refine XS.astore X94.here hx rfl (hb hby at_125) rfl rfl (l' := #[sI p1, sI p2, sI p3, sI v3, sI v4, sI v5, sR b16, sR b26, sJ (own_len v3 v4), sW, sI 1, sR b52, sR b76]) rfl ?_
      show own_S p e below T94 m 127 #[sI p1, sI p2, sI p3, sI v3, sI v4, sI v5, sR b16, sR b26, sJ (own_len v3 v4), sW, sI 1, sR b52, sR b76] [] _
      refine XS.iload X94.here hx rfl (hb hby at_127) rfl ?_
      show own_S p e below T94 m 129 #[sI p1, sI p2, sI p3, sI v3, sI v4, sI v5, sR b16, sR b26, sJ (own_len v3 v4), sW, sI 1, sR b52, sR b76] [(.int 1)] _
      refine XS.ifNo X94.here hx rfl (hb hby at_129) rfl ((if0 _ _).trans (feq (by decide : ¬ ((1 : Int32) = (0 : Int32)))).1) ?_
      show own_S p e below T94 m 132 #[sI p1, sI p2, sI p3, sI v3, sI v4, sI v5, sR b16, sR b26, sJ (own_len v3 v4), sW, sI 1, sR b52, sR b76] [] _
      refine XS.aload X94.here hx rfl (hb hby at_132) rfl rfl ?_
      exact k)
    obtain ⟨cq107, kq107, q107a, q107b, q107c⟩ := isOf hZ rfl f102
    obtain ⟨_, _, ⟨T107, L107, k107, n107⟩, -, X107, ⟨Lc107, hQ107, l107, y107, z107⟩, st107⟩ := X94.virtualBack hx (y := own_y4) (z := own_y4) hown (mvT hZ hw25) (mvT hZ hw26) (notFace_of_selects (args := #[]) (mvT hZ hw28)) (mvT hZ hw28) (mvT hZ hw27) (by decide) (backOf (W := 0) (own_rm6 l Z a0 hw [] b52 v3 v5 T94.heap n0 f95 f103 f104) hZ hw29 hw9 (by decide) (by decide)) q107a q107c (g := (mkF m 134 #[sI p1, sI p2, sI p3, sI v3, sI v4, sI v5, sR b16, sR b26, sJ (own_len v3 v4), sW, sI 1, sR b52, sR b76] [(.ref b52)])) rfl (by rw [hml]; rfl) (Steps.refl _) (argsL := []) (rest := []) (lenOf own_pd_3 rfl) rfl (by show 2 * 0 + _ ≤ _; exact Nat.le_of_eq rfl) (hb hby at_134) (fun _ _ => ⟨rfl, rfl, (by decide : 4 + 0 ≤ _), (by decide : 8 + 0 ≤ _)⟩)
    dsimp only [Pt.U, Pt.locs, Pt.cells, Pt.slots] at X107 l107 y107 z107 st107 hQ107
    subst l107 y107 z107
    obtain ⟨rfl, N107q, eh107⟩ := hQ107
    have N107 := Fr.app N94 N107q
    have pre108 : ∀ t, own_S p e below T107 m 139 #[sI p1, sI p2, sI p3, sI v3, sI v4, sI v5, sR b16, sR b26, sJ (own_len v3 v4), sW, sI 1, sR b52, sR b76] [(.ref b76), (.long (own_len v3 v5))] t → R0 t := fun t k => pre106 t (by
      refine st107.trans ?_
      show own_S p e below T107 m 137 #[sI p1, sI p2, sI p3, sI v3, sI v4, sI v5, sR b16, sR b26, sJ (own_len v3 v4), sW, sI 1, sR b52, sR b76] [(.long (own_len v3 v5))] _
      refine XS.aload X107.here hx rfl (hb hby at_137) rfl rfl ?_
      exact k)
    obtain ⟨cq109, kq109, q109a, q109b, q109c⟩ := isOf hZ eh107 ex94
    obtain ⟨_, _, ⟨T109, L109, k109, n109⟩, -, X109, ⟨Lc109, hQ109, l109, y109, z109⟩, st109⟩ := X107.virtualBack hx (y := own_y4) (z := own_y4) hown (mvT hZ hw25) (mvT hZ hw26) (notFace_of_selects (args := #[]) (mvT hZ hw28)) (mvT hZ hw28) (mvT hZ hw27) (by decide) (backOf (W := 2) (own_rm6 l Z a0 hw [] b76 (v5 + (1 : Int32)) v4 T94.heap n0 f95 fx94_0 fx94_1) hZ hw29 hw9 (by decide) (by decide)) q109a q109c (g := (mkF m 139 #[sI p1, sI p2, sI p3, sI v3, sI v4, sI v5, sR b16, sR b26, sJ (own_len v3 v4), sW, sI 1, sR b52, sR b76] [(.ref b76), (.long (own_len v3 v5))])) rfl (by rw [hml]; rfl) (Steps.refl _) (argsL := []) (rest := [(.long (own_len v3 v5))]) (lenOf own_pd_3 rfl) rfl (by show 2 * 0 + _ ≤ _; exact Nat.le_of_eq rfl) (hb hby at_139) (fun _ _ => ⟨rfl, eh107, (by decide : 4 + 0 ≤ _), (by decide : 8 + 0 ≤ _)⟩)
    dsimp only [Pt.U, Pt.locs, Pt.cells, Pt.slots] at X109 l109 y109 z109 st109 hQ109
    subst l109 y109 z109
    obtain ⟨rfl, N109q, eh109⟩ := hQ109
    have N109 := Fr.app N107 N109q
    have pre110 : ∀ t, own_S p e below T109 m 146 #[sI p1, sI p2, sI p3, sI v3, sI v4, sI v5, sR b16, sR b26, sJ (own_len v3 v4), sW, sI 1, sR b52, sR b76] [(.int (lcmpW ((own_len v3 v5) + (own_len (v5 + (1 : Int32)) v4)) (own_len v3 v4)))] t → R0 t := fun t k => pre108 t (by
      refine st109.trans ?_
      show own_S p e below T109 m 142 #[sI p1, sI p2, sI p3, sI v3, sI v4, sI v5, sR b16, sR b26, sJ (own_len v3 v4), sW, sI 1, sR b52, sR b76] [(.long (own_len (v5 + (1 : Int32)) v4)), (.long (own_len v3 v5))] _
      refine XS.ladd X109.here hx rfl (hb hby at_142) rfl ?_
      show own_S p e below T109 m 143 #[sI p1, sI p2, sI p3, sI v3, sI v4, sI v5, sR b16, sR b26, sJ (own_len v3 v4), sW, sI 1, sR b52, sR b76] [(.long ((own_len v3 v5) + (own_len (v5 + (1 : Int32)) v4)))] _
      refine XS.lload X109.here hx rfl (hb hby at_143) rfl ?_
      show own_S p e below T109 m 145 #[sI p1, sI p2, sI p3, sI v3, sI v4, sI v5, sR b16, sR b26, sJ (own_len v3 v4), sW, sI 1, sR b52, sR b76] [(.long (own_len v3 v4)), (.long ((own_len v3 v5) + (own_len (v5 + (1 : Int32)) v4)))] _
      refine XS.lcmp X109.here hx rfl (hb hby at_145) rfl ?_
      exact k)
    have hc111 : ((own_len v3 v5) + (own_len (v5 + (1 : Int32)) v4)) = (own_len v3 v4) := own_sum v3 v5 v4 (Int32.lt_iff_toInt_lt.mp hc97)
    have pre112 : ∀ t, own_S p e below T109 m 158 #[sI p1, sI p2, sI p3, sI v3, sI v4, sI v5, sR b16, sR b26, sJ (own_len v3 v4), sW, sI 1, sR b52, sR b76] [(.int 1)] t → R0 t := fun t k => pre110 t (by
      refine XS.ifNo X109.here hx rfl (hb hby at_146) rfl ((if0 _ _).trans (teq ((lw_eq _ _).mpr hc111)).2) ?_
      show own_S p e below T109 m 149 #[sI p1, sI p2, sI p3, sI v3, sI v4, sI v5, sR b16, sR b26, sJ (own_len v3 v4), sW, sI 1, sR b52, sR b76] [] _
      refine XS.iconst X109.here hx rfl (hb hby at_149) ?_
      show own_S p e below T109 m 150 #[sI p1, sI p2, sI p3, sI v3, sI v4, sI v5, sR b16, sR b26, sJ (own_len v3 v4), sW, sI 1, sR b52, sR b76] [(.int 1)] _
      refine XS.goto X109.here hx rfl (pc0 := 150) (pc' := 154) rfl (hb hby at_150) (by decide) (by decide) ?_
      show own_S p e below T109 m 154 #[sI p1, sI p2, sI p3, sI v3, sI v4, sI v5, sR b16, sR b26, sJ (own_len v3 v4), sW, sI 1, sR b52, sR b76] [(.int 1)] _
      refine XS.istore X109.here hx rfl (hb hby at_154) rfl (l' := #[sI p1, sI p2, sI p3, sI v3, sI v4, sI v5, sR b16, sR b26, sJ (own_len v3 v4), sW, sI 1, sR b52, sR b76]) rfl ?_
      show own_S p e below T109 m 156 #[sI p1, sI p2, sI p3, sI v3, sI v4, sI v5, sR b16, sR b26, sJ (own_len v3 v4), sW, sI 1, sR b52, sR b76] [] _
      refine XS.iload X109.here hx rfl (hb hby at_156) rfl ?_
      exact k)
    obtain ⟨fs, hr, hrun, hended, hW, hsame⟩ := X109.leave (v := some (.int 1)) (fun h => by rw [Bd.returns] at h; cases h)
    refine ⟨_, _, cast (congrFun hR0 _) (pre112 _ (retN X109 hx (t := .boolean) Bd.returns (by simp) (hb hby at_158) hr)), hrun, hended, _, _, rfl, ?_, ⟨_, rfl⟩, hW, hsame.mono (by decide) (by decide)⟩
    show own_Q0 Z _ _ _ h0 n0 _ T109.heap _
    rw [eh109]
    exact ⟨rfl, N109⟩
  · have pre113 : ∀ t, own_S p e below T45 m 158 #[sI p1, sI p2, sI p3, sI v3, sI v4, sI v5, sR b16, sR b26, sJ (own_len v3 v4), sW, sI 1, sU, sU] [(.int 1)] t → R0 t := fun t k => pre50 t (by
      refine XS.icmpYes X45.here hx rfl (pc0 := 97) (pc' := 156) rfl (hb hby at_97) rfl (flt hc97).2.1 (by decide) (by decide) ?_
      show own_S p e below T45 m 156 #[sI p1, sI p2, sI p3, sI v3, sI v4, sI v5, sR b16, sR b26, sJ (own_len v3 v4), sW, sI 1, sU, sU] [] _
      refine XS.iload X45.here hx rfl (hb hby at_156) rfl ?_
      exact k)
    obtain ⟨fs, hr, hrun, hended, hW, hsame⟩ := X45.leave (v := some (.int 1)) (fun h => by rw [Bd.returns] at h; cases h)
    refine ⟨_, _, cast (congrFun hR0 _) (pre113 _ (retN X45 hx (t := .boolean) Bd.returns (by simp) (hb hby at_158) hr)), hrun, hended, _, _, rfl, ?_, ⟨_, rfl⟩, hW, hsame.mono (by decide) (by decide)⟩
    show own_Q0 Z _ _ _ h0 n0 _ T45.heap _
    rw [eh45]
    exact ⟨rfl, N45⟩
set_option maxRecDepth 65536 in
set_option maxHeartbeats 40000000 in
theorem own_comes {Post : Tables → Env → Array Value → State → Outcome → State → Prop} (hpost : ∀ tb e args s v u, (limb_1_1.after args s (.returned v) u = true ∧ limb_1_2.after args s (.returned v) u = true ∧ True) → FrameEnd s (.returned v) u (Jvm.fieldLocs frame_1_writes args s ++ Jvm.arrayLocs frame_1_arrays args s ++ Jvm.staticLocs frame_1_statics s) 16 128 → Post tb e args s (.returned v) u) :
    ArmFor flags0 classFile x code maxLocals ret World_1 tables_1 room_1 Calls_1 rest_1 Pre_1 Post := by
  intro l hfl _ _ p e ha hc hk s m args below hf hA hF happ hP
  obtain ⟨hcalls, hrest, hpre⟩ := hP
  obtain ⟨-, -, -, hnamed, -, -, -, hat⟩ := (Spec.applies_iff hf).mp happ
  obtain ⟨hg, hn⟩ := and_e (Cond.before_iff.mp (show (Jvm.Cond.and given_1 narrow_1).before args s = true from hpre))
  obtain ⟨hcount, hg0⟩ := and_e hg
  obtain ⟨ha0, hg1⟩ := and_e hg0
  obtain ⟨ha1, hg2⟩ := and_e hg1
  have ha2 := hg2
  obtain ⟨w0, w1, w2, rfl⟩ : ∃ w0 w1 w2 : Value, args = #[w0, w1, w2] := by
    have hs : args.size = 3 := by simpa [Cond.value, given_1] using hcount
    obtain ⟨L⟩ := args
    match L, hs with
    | [w0, w1, w2], _ => exact ⟨w0, w1, w2, rfl⟩
  have hw := fun d (hd : d ∈ tables_1) => atoms_spec (ws := Jvm.Cond.code x code maxLocals ret :: tables_1) hat d (List.mem_cons_of_mem _ hd)
  have hfit : Fit s := fun {y c} hc i hi => by
    obtain ⟨ha, rfl⟩ := Array.getElem?_eq_some_iff.mp hc
    have q := List.all_eq_true.mp ((Array.all_eq_true_iff_forall_mem.mp hF) _ (Array.getElem_mem ha)) i (List.mem_range.mpr hi)
    simpa [Array.getElem?_eq_getElem hi] using q
  obtain ⟨i0, ei0⟩ := is_v ha0
  obtain rfl : w0 = (.int i0) := Option.some.inj ei0
  obtain ⟨i1, ei1⟩ := is_v ha1
  obtain rfl : w1 = (.int i1) := Option.some.inj ei1
  obtain ⟨i2, ei2⟩ := is_v ha2
  obtain rfl : w2 = (.int i2) := Option.some.inj ei2
  obtain ⟨n, o, h1, h2, h3, _, L, rfl, ⟨rfl, N⟩, hq⟩ := own_rm0 l s _ hw tables_1 i0 i1 i2  s.heap s.heap.size (Nat.le_refl _)  p e ha hc hk s m _ below hf ((Spec.applies_iff_loose hf).mp happ).1 ⟨rfl, State.Warmed39.refl s, rfl⟩ trivial
  refine ⟨n, _, h1, h2, h3, hpost _ _ _ _ _ _ ⟨Cond.after_iff.mpr rfl, Cond.after_iff.mpr (eq_i res_at (Term.int_eval (1)) rfl), trivial⟩ ⟨hq.1, hq.2.1, (hq.2.2.sift fun y hy => Or.inr (N y hy)).mono (by decide) (by decide)⟩⟩
theorem main_1_1 : Claimed_1_1 := own_comes fun _ _ _ _ _ _ h hF => ⟨h.1, hF⟩
theorem main_1_2 : Claimed_1_2 := own_comes fun _ _ _ _ _ _ h hF => ⟨h.2.1, hF⟩
end Jvm.Pilot.@@N@@
namespace Jvm.Pilot.@@N@@
open Jvm Jvm.ClassFile Sem Op Lib Jvm.Free Jvm.Stand Jvm.Pilot.@@N@@.Jvm.D
/-! MADE BY PROGRAM (witnessworld.py) out of the Statement's table words and the real class files: 11 classes; the members and pool entries that the words name. The judged class is class 1, her method 1. -/
namespace start1
open Jvm.ClassFile
def u (s : String) : CpInfo := .utf8 (stringToUtf16 s)
/-- a pool by its gaps: so many unusable entries, then the entry; so many at the end -/
def gap : Nat → List CpInfo → List CpInfo
  | 0, r => r
  | n + 1, r => .unusable :: gap n r
def poolList (es : List (Nat × CpInfo)) (last : Nat) : List CpInfo := es.foldr (fun e r => gap e.1 (e.2 :: r)) (gap last [])
def pool (es : List (Nat × CpInfo)) (last : Nat) : Array CpInfo := ⟨poolList es last⟩
def fileOf (pool : Array CpInfo) (this : Nat) (attrs : Array Attribute := #[]) (ms : Array MethodInfo := #[]) (fl : Nat := 33) (sup : Nat := 0) (ifs : Array Nat := #[]) (fds : Array FieldInfo := #[]) : ClassFile where
  minorVersion := 0
  majorVersion := 65
  constantPool := pool
  accessFlags := fl
  thisClass := this
  superClass := sup
  interfaces := ifs
  fields := fds
  methods := ms
  attributes := attrs
def plain (name : String) (sup : Option ClassId) : Class where
  name := name
  kind := .ordinary
  loader := none
  accessFlags := 33
  super := sup
  interfaces := #[]
  cf := none
  fields := #[]
  methods := #[]
  instanceTypes := #[]
  staticTypes := #[]
  resolved := #[]
  callSites := []
  init := .initialized
  statics := none
  mirror := none

def pool0 : Array CpInfo := pool [(5, u "<init>"), (0, u "()V"), (1, .class_ 10), (1, u "java/lang/Object")] 113

def k0c0 : Code := { maxStack := 0, maxLocals := 1, code := object_method_1_code, exceptionTable := #[], attributes := #[] }
def k0m0 : Method := { name := "<init>", desc := "()V", sig := { parameters := [], returnType := none }, accessFlags := 1, code := some k0c0 }
/-- java/lang/Object -/
def k0 : Class := { plain "java/lang/Object" none with
  accessFlags := 33
  interfaces := #[]
  cf := some (fileOf pool0 8 #[] #[{ accessFlags := 1, nameIndex := 5, descriptorIndex := 6, attributes := #[] }] 33 0 #[] #[])
  fields := #[]
  methods := #[k0m0]
  instanceTypes := #[]
  staticTypes := #[]
  resolved := Array.replicate 124 none
  statics := none }

def pool1 : Array CpInfo := pool [(2, .class_ 4), (1, u "java/lang/Object"), (0, u "<init>"), (0, u "()V"), (0, .methodref 8 9), (0, .class_ 10), (0, .nameAndType 11 12), (0, u "java/lang/Math"), (0, u "min"), (0, u "(II)I"), (0, .methodref 8 14), (0, .nameAndType 15 12), (0, u "max"), (0, .class_ 17), (0, u "com/example/tendersense/tendersense/Interval"), (0, .methodref 16 19), (0, .nameAndType 5 20), (0, u "(II)V"), (0, .methodref 16 22), (0, .nameAndType 23 24), (0, u "length"), (0, u "()J"), (0, .class_ 26), (0, u "com/example/tendersense/tendersense/IntervalLengthPinLaw"), (2, u "law"), (0, u "(III)Z")] 3

def k1m0 : Method := { name := "<init>", desc := "()V", sig := { parameters := [], returnType := none }, accessFlags := 1, code := none }
def k1c1 : Code := { maxStack := 4, maxLocals := 13, code := code, exceptionTable := #[], attributes := #[] }
def k1m1 : Method := { name := "law", desc := "(III)Z", sig := { parameters := [.int, .int, .int], returnType := some .boolean }, accessFlags := 9, code := some k1c1 }
/-- com/example/tendersense/tendersense/IntervalLengthPinLaw -/
def k1 : Class := { plain "com/example/tendersense/tendersense/IntervalLengthPinLaw" (some 0) with
  accessFlags := 49
  interfaces := #[]
  cf := some (fileOf pool1 25 #[] #[{ accessFlags := 1, nameIndex := 5, descriptorIndex := 6, attributes := #[] }, { accessFlags := 9, nameIndex := 29, descriptorIndex := 30, attributes := #[] }] 49 2 #[] #[])
  fields := #[]
  methods := #[k1m0, k1m1]
  instanceTypes := #[]
  staticTypes := #[]
  resolved := Array.replicate 34 none
  statics := none }

def pool2 : Array CpInfo := pool [(1, .class_ 2), (0, u "java/lang/Math"), (1, .class_ 6), (1, u "java/lang/Object"), (0, u "<init>"), (0, u "()V"), (89, .class_ 100), (1, u "java/lang/Math$RandomNumberGeneratorHolder"), (71, u "negativeZeroFloatBits"), (0, u "J"), (2, u "negativeZeroDoubleBits"), (21, u "max"), (2, u "min"), (43, u "$assertionsDisabled"), (0, u "Z"), (88, u "(II)I"), (2, u "twoToTheDoubleScaleDown"), (0, u "D"), (4, u "twoToTheDoubleScaleUp"), (9, u "E"), (3, u "PI"), (2, u "TAU"), (2, u "DEGREES_TO_RADIANS"), (0, u "RADIANS_TO_DEGREES")] 94

def k2m0 : Method := { name := "<init>", desc := "()V", sig := { parameters := [], returnType := none }, accessFlags := 2, code := none }
def k2c1 : Code := { maxStack := 2, maxLocals := 2, code := jdk_29_method_65_code, exceptionTable := #[], attributes := #[] }
def k2m1 : Method := { name := "max", desc := "(II)I", sig := { parameters := [.int, .int], returnType := some .int }, accessFlags := 9, code := some k2c1 }
def k2c2 : Code := { maxStack := 2, maxLocals := 2, code := jdk_29_method_69_code, exceptionTable := #[], attributes := #[] }
def k2m2 : Method := { name := "min", desc := "(II)I", sig := { parameters := [.int, .int], returnType := some .int }, accessFlags := 9, code := some k2c2 }
/-- java/lang/Math -/
def k2 : Class := { plain "java/lang/Math" (some 0) with
  accessFlags := 49
  interfaces := #[]
  cf := some (fileOf pool2 1 #[.nestMembers #[98]] #[{ accessFlags := 2, nameIndex := 7, descriptorIndex := 8, attributes := #[] }, { accessFlags := 9, nameIndex := 198, descriptorIndex := 335, attributes := #[] }, { accessFlags := 9, nameIndex := 201, descriptorIndex := 335, attributes := #[] }] 49 4 #[] #[{ accessFlags := 25, nameIndex := 354, descriptorIndex := 339, attributes := #[] }, { accessFlags := 25, nameIndex := 358, descriptorIndex := 339, attributes := #[] }, { accessFlags := 25, nameIndex := 361, descriptorIndex := 339, attributes := #[] }, { accessFlags := 26, nameIndex := 364, descriptorIndex := 339, attributes := #[] }, { accessFlags := 26, nameIndex := 365, descriptorIndex := 339, attributes := #[] }, { accessFlags := 26, nameIndex := 172, descriptorIndex := 173, attributes := #[] }, { accessFlags := 26, nameIndex := 176, descriptorIndex := 173, attributes := #[] }, { accessFlags := 8, nameIndex := 344, descriptorIndex := 339, attributes := #[] }, { accessFlags := 8, nameIndex := 338, descriptorIndex := 339, attributes := #[] }, { accessFlags := 4120, nameIndex := 245, descriptorIndex := 246, attributes := #[] }])
  fields := #[{ name := "E", type := .double, accessFlags := 25, slot := 0, constantValue := 0 }, { name := "PI", type := .double, accessFlags := 25, slot := 1, constantValue := 0 }, { name := "TAU", type := .double, accessFlags := 25, slot := 2, constantValue := 0 }, { name := "DEGREES_TO_RADIANS", type := .double, accessFlags := 26, slot := 3, constantValue := 0 }, { name := "RADIANS_TO_DEGREES", type := .double, accessFlags := 26, slot := 4, constantValue := 0 }, { name := "negativeZeroFloatBits", type := .long, accessFlags := 26, slot := 5, constantValue := 0 }, { name := "negativeZeroDoubleBits", type := .long, accessFlags := 26, slot := 6, constantValue := 0 }, { name := "twoToTheDoubleScaleUp", type := .double, accessFlags := 8, slot := 7, constantValue := 0 }, { name := "twoToTheDoubleScaleDown", type := .double, accessFlags := 8, slot := 8, constantValue := 0 }, { name := "$assertionsDisabled", type := .boolean, accessFlags := 4120, slot := 9, constantValue := 0 }]
  methods := #[k2m0, k2m1, k2m2]
  instanceTypes := #[]
  staticTypes := #[.double, .double, .double, .double, .double, .long, .long, .double, .double, .boolean]
  resolved := Array.replicate 460 none
  statics := none }

def pool3 : Array CpInfo := pool [(1, .methodref 2 3), (0, .class_ 4), (0, .nameAndType 5 6), (0, u "java/lang/Object"), (0, u "<init>"), (0, u "()V"), (0, .class_ 8), (0, u "java/lang/Record")] 13

def k3c0 : Code := { maxStack := 1, maxLocals := 1, code := jdk_30_method_1_code, exceptionTable := #[], attributes := #[] }
def k3m0 : Method := { name := "<init>", desc := "()V", sig := { parameters := [], returnType := none }, accessFlags := 4, code := some k3c0 }
/-- java/lang/Record -/
def k3 : Class := { plain "java/lang/Record" (some 0) with
  accessFlags := 1057
  interfaces := #[]
  cf := some (fileOf pool3 7 #[] #[{ accessFlags := 4, nameIndex := 5, descriptorIndex := 6, attributes := #[] }] 1057 2 #[] #[])
  fields := #[]
  methods := #[k3m0]
  instanceTypes := #[]
  staticTypes := #[]
  resolved := Array.replicate 22 none
  statics := none }

def pool4 : Array CpInfo := pool [(1, .methodref 2 3), (0, .class_ 4), (0, .nameAndType 5 6), (0, u "java/lang/Record"), (0, u "<init>"), (0, u "()V"), (21, .fieldref 29 30), (0, .class_ 31), (0, .nameAndType 32 33), (0, u "com/example/tendersense/tendersense/Interval"), (0, u "start"), (0, u "I"), (0, .fieldref 29 35), (0, .nameAndType 36 33), (0, u "end"), (11, u "(II)V"), (26, u "length"), (0, u "()J")] 30

def k4c0 : Code := { maxStack := 7, maxLocals := 3, code := prog_21_method_1_code, exceptionTable := #[], attributes := #[] }
def k4m0 : Method := { name := "<init>", desc := "(II)V", sig := { parameters := [.int, .int], returnType := none }, accessFlags := 1, code := some k4c0 }
def k4c1 : Code := { maxStack := 4, maxLocals := 1, code := prog_21_method_2_code, exceptionTable := #[], attributes := #[] }
def k4m1 : Method := { name := "length", desc := "()J", sig := { parameters := [], returnType := some .long }, accessFlags := 1, code := some k4c1 }
/-- com/example/tendersense/tendersense/Interval -/
def k4 : Class := { plain "com/example/tendersense/tendersense/Interval" (some 3) with
  accessFlags := 49
  interfaces := #[]
  cf := some (fileOf pool4 29 #[] #[{ accessFlags := 1, nameIndex := 5, descriptorIndex := 48, attributes := #[] }, { accessFlags := 1, nameIndex := 75, descriptorIndex := 76, attributes := #[] }] 49 2 #[] #[{ accessFlags := 18, nameIndex := 32, descriptorIndex := 33, attributes := #[] }, { accessFlags := 18, nameIndex := 36, descriptorIndex := 33, attributes := #[] }])
  fields := #[{ name := "start", type := .int, accessFlags := 18, slot := 0, constantValue := 0 }, { name := "end", type := .int, accessFlags := 18, slot := 1, constantValue := 0 }]
  methods := #[k4m0, k4m1]
  instanceTypes := #[.int, .int]
  staticTypes := #[]
  resolved := Array.replicate 107 none
  statics := none }

def pool5 : Array CpInfo := pool [(1, u "java/lang/Cloneable"), (0, .class_ 1), (0, u "java/lang/Object"), (0, .class_ 3)] 3

/-- java/lang/Cloneable -/
def k5 : Class := { plain "java/lang/Cloneable" (some 0) with
  accessFlags := 1537
  interfaces := #[]
  cf := some (fileOf pool5 2 #[] #[] 1537 4 #[] #[])
  fields := #[]
  methods := #[]
  instanceTypes := #[]
  staticTypes := #[]
  resolved := Array.replicate 8 none
  statics := none }

def pool6 : Array CpInfo := pool [(1, u "java/io/Serializable"), (0, .class_ 1), (0, u "java/lang/Object"), (0, .class_ 3)] 3

/-- java/io/Serializable -/
def k6 : Class := { plain "java/io/Serializable" (some 0) with
  accessFlags := 1537
  interfaces := #[]
  cf := some (fileOf pool6 2 #[] #[] 1537 4 #[] #[])
  fields := #[]
  methods := #[]
  instanceTypes := #[]
  staticTypes := #[]
  resolved := Array.replicate 8 none
  statics := none }

/-- the primitive byte -/
def k7 : Class := { plain "byte" none with kind := .primitive 'B', accessFlags := 0x411 }
/-- [B -/
def k8 : Class := { plain "[B" (some 0) with kind := .array 7 .byte, interfaces := #[5, 6], accessFlags := 1041 }

/-- the primitive int -/
def k9 : Class := { plain "int" none with kind := .primitive 'I', accessFlags := 0x411 }
/-- [I -/
def k10 : Class := { plain "[I" (some 0) with kind := .array 9 .int, interfaces := #[5, 6], accessFlags := 1041 }

def heap : Heap := #[]
def classes : Array Class := #[k0, k1, k2, k3, k4, k5, k6, k7, k8, k9, k10]
def interned : List (Array UInt16 × Addr) := []
def slotsUsed : Nat := 0
def theMethod : MethodId := ⟨1, 1⟩
def args0 : Array Value := #[.int 5, .int 9, .int 7]
def aboutOver (below : List Frame) : State where
  vm := { classes := classes, interned := interned.toArray }
  heap := heap
  slotsUsed := slotsUsed
  threads := #[{ frames := .invoking theMethod args0 :: below }]
def below0 : List Frame := [.native { method := ⟨0, 0⟩, args := #[] }]
def about1 : State := aboutOver below0
def p0 : Program := .bare "" "" ""
def e0 : Env := launch0.env 0 0 0
theorem w_frames : about1.frames = Frame.invoking theMethod args0 :: below0 := rfl
set_option maxRecDepth 65536 in
theorem w_args : argsFit about1.vm theMethod args0 = true := by decide +kernel
set_option maxRecDepth 65536 in
theorem w_heap : heapFits about1 = true := by decide +kernel
set_option maxRecDepth 65536 in
theorem w_runnable : about1.curStatus? = some .runnable := by decide +kernel
set_option maxRecDepth 65536 in
theorem w_alone : about1.alone = true := by decide +kernel
set_option maxRecDepth 65536 in
theorem w_named : about1.methodNamed? x = some theMethod := by decide +kernel
set_option maxRecDepth 65536 in
theorem w_hears : about1.hears theMethod below0 = true := by decide +kernel
set_option maxRecDepth 65536 in
theorem w_ripe : about1.ripe theMethod args0 below0 = true := by decide +kernel
theorem w_running : about1.status = .running := rfl
set_option maxRecDepth 65536 in
theorem w_room : about1.hasRoom e0.platform room_1 = true :=
  launch0.hasRoom_least _ room_1 (by decide +kernel) (by decide +kernel) (by decide +kernel) (by decide +kernel) (by decide +kernel) (by decide +kernel)
theorem allAtoms_all (ts : List Jvm.Cond) (a : Array Jvm.Value) (st : Jvm.State) : (allAtoms ts).before a st = ts.all (fun c => c.before a st) := by
  induction ts with
  | nil => rfl
  | cons c t ih =>
    show (Jvm.Cond.and c (allAtoms t)).before a st = _
    rw [Jvm.Cond.before_and, ih, List.all_cons]
def words1 : List Jvm.Cond := Jvm.Cond.code x code maxLocals ret :: tables_1
/-- a 'code' word, met by the world's own term for the bytes: nothing is compared byte by byte -/
theorem code_word {y : MethodName} {bytes : ByteArray} {mx : Nat} {rt : Option FieldType} {a : Array Value} {s : State} {m : MethodId} {meth : Method} {c : Code} (h1 : s.methodNamed? y = some m) (h2 : s.vm.method? m = some meth) (h3 : meth.code = some c) (h4 : c.code = bytes)
    (h5 : (c.maxLocals == mx && c.exceptionTable.isEmpty && decide (c.maxStack ≤ mostOperands) && decide (meth.sig.returnType = rt) && !meth.locks && decide (parseMethodDescriptor y.desc = some meth.sig)) = true) : (Jvm.Cond.code y bytes mx rt).before a s = true := by
  simp only [Bool.and_eq_true, beq_iff_eq, Bool.not_eq_true', decide_eq_true_eq] at h5
  obtain ⟨⟨⟨⟨⟨g1, g2⟩, g3⟩, g4⟩, g5⟩, g6⟩ := h5
  simp [Cond.before, Cond.holds, Cond.value, h1, h2, h3, h4, g1, g2, g3, g4, g5, g6]
def isCode : Jvm.Cond → Bool
  | .code _ _ _ _ => true
  | _ => false
theorem all_split {L : List Jvm.Cond} {P : Jvm.Cond → Bool} (h1 : L.all (fun c => isCode c || P c) = true) (h2 : ∀ c ∈ L.filter isCode, P c = true) : L.all P = true := by
  refine List.all_eq_true.mpr fun c hc => ?_
  have h := List.all_eq_true.mp h1 c hc
  rcases Bool.eq_false_or_eq_true (isCode c) with hi | hi
  · exact h2 c (List.mem_filter.mpr ⟨hc, hi⟩)
  · simpa [hi] using h
set_option maxRecDepth 65536 in
theorem w_c0 : (Jvm.Cond.code x code maxLocals ret).before args0 about1 = true := code_word (m := ⟨1, 1⟩) (meth := k1m1) (c := k1c1) (by decide +kernel) rfl rfl rfl (by decide +kernel)
set_option maxRecDepth 65536 in
theorem w_c1 : (Jvm.Cond.code ({ cls := "java/lang/Math", name := "min", desc := "(II)I" } : Jvm.MethodName) jdk_29_method_69_code (2 : Nat) (Option.some Jvm.ClassFile.FieldType.int)).before args0 about1 = true := code_word (m := ⟨2, 2⟩) (meth := k2m2) (c := k2c2) (by decide +kernel) rfl rfl rfl (by decide +kernel)
set_option maxRecDepth 65536 in
theorem w_c2 : (Jvm.Cond.code ({ cls := "java/lang/Math", name := "max", desc := "(II)I" } : Jvm.MethodName) jdk_29_method_65_code (2 : Nat) (Option.some Jvm.ClassFile.FieldType.int)).before args0 about1 = true := code_word (m := ⟨2, 1⟩) (meth := k2m1) (c := k2c1) (by decide +kernel) rfl rfl rfl (by decide +kernel)
set_option maxRecDepth 65536 in
theorem w_c3 : (Jvm.Cond.code ({ cls := "com/example/tendersense/tendersense/Interval", name := "<init>", desc := "(II)V" } : Jvm.MethodName) prog_21_method_1_code (3 : Nat) (Option.none : Option Jvm.ClassFile.FieldType)).before args0 about1 = true := code_word (m := ⟨4, 0⟩) (meth := k4m0) (c := k4c0) (by decide +kernel) rfl rfl rfl (by decide +kernel)
set_option maxRecDepth 65536 in
theorem w_c4 : (Jvm.Cond.code ({ cls := "java/lang/Record", name := "<init>", desc := "()V" } : Jvm.MethodName) jdk_30_method_1_code (1 : Nat) (Option.none : Option Jvm.ClassFile.FieldType)).before args0 about1 = true := code_word (m := ⟨3, 0⟩) (meth := k3m0) (c := k3c0) (by decide +kernel) rfl rfl rfl (by decide +kernel)
set_option maxRecDepth 65536 in
theorem w_c5 : (Jvm.Cond.code ({ cls := "java/lang/Object", name := "<init>", desc := "()V" } : Jvm.MethodName) object_method_1_code (1 : Nat) (Option.none : Option Jvm.ClassFile.FieldType)).before args0 about1 = true := code_word (m := ⟨0, 0⟩) (meth := k0m0) (c := k0c0) (by decide +kernel) rfl rfl rfl (by decide +kernel)
set_option maxRecDepth 65536 in
theorem w_c6 : (Jvm.Cond.code ({ cls := "com/example/tendersense/tendersense/Interval", name := "length", desc := "()J" } : Jvm.MethodName) prog_21_method_2_code (1 : Nat) (Option.some Jvm.ClassFile.FieldType.long)).before args0 about1 = true := code_word (m := ⟨4, 1⟩) (meth := k4m1) (c := k4c1) (by decide +kernel) rfl rfl rfl (by decide +kernel)
def codes1 : List Jvm.Cond := [Jvm.Cond.code x code maxLocals ret, Jvm.Cond.code ({ cls := "java/lang/Math", name := "min", desc := "(II)I" } : Jvm.MethodName) jdk_29_method_69_code (2 : Nat) (Option.some Jvm.ClassFile.FieldType.int), Jvm.Cond.code ({ cls := "java/lang/Math", name := "max", desc := "(II)I" } : Jvm.MethodName) jdk_29_method_65_code (2 : Nat) (Option.some Jvm.ClassFile.FieldType.int), Jvm.Cond.code ({ cls := "com/example/tendersense/tendersense/Interval", name := "<init>", desc := "(II)V" } : Jvm.MethodName) prog_21_method_1_code (3 : Nat) (Option.none : Option Jvm.ClassFile.FieldType), Jvm.Cond.code ({ cls := "java/lang/Record", name := "<init>", desc := "()V" } : Jvm.MethodName) jdk_30_method_1_code (1 : Nat) (Option.none : Option Jvm.ClassFile.FieldType), Jvm.Cond.code ({ cls := "java/lang/Object", name := "<init>", desc := "()V" } : Jvm.MethodName) object_method_1_code (1 : Nat) (Option.none : Option Jvm.ClassFile.FieldType), Jvm.Cond.code ({ cls := "com/example/tendersense/tendersense/Interval", name := "length", desc := "()J" } : Jvm.MethodName) prog_21_method_2_code (1 : Nat) (Option.some Jvm.ClassFile.FieldType.long)]
set_option maxRecDepth 65536 in
theorem codes_eq : words1.filter isCode = codes1 := rfl
theorem w_codes : ∀ c ∈ words1.filter isCode, c.before args0 about1 = true := by
  rw [codes_eq]
  intro c hc
  simp only [codes1, List.mem_cons, List.not_mem_nil, or_false] at hc
  rcases hc with rfl | rfl | rfl | rfl | rfl | rfl | rfl
  · exact w_c0
  · exact w_c1
  · exact w_c2
  · exact w_c3
  · exact w_c4
  · exact w_c5
  · exact w_c6
set_option maxRecDepth 65536 in
theorem w_t1 : (words1.take 24).all (fun c => isCode c || c.before args0 about1) = true := by decide +kernel
set_option maxRecDepth 65536 in
theorem w_t2 : (words1.drop 24).all (fun c => isCode c || c.before args0 about1) = true := by decide +kernel
theorem w_tables : (allAtoms (Jvm.Cond.code x code maxLocals ret :: tables_1)).before args0 about1 = true := by
  rw [allAtoms_all]
  show words1.all (fun c => c.before args0 about1) = true
  refine all_split ?_ w_codes
  rw [← List.take_append_drop 24 words1, List.all_append, w_t1, w_t2]
  rfl
set_option maxRecDepth 65536 in
theorem w_case : (Jvm.Cond.and given_1 narrow_1).before args0 about1 = true := by decide +kernel
theorem w_applies : (headSpec (Jvm.Cond.code x code maxLocals ret :: tables_1) room_1).applies x e0.platform about1 = true :=
  (Spec.applies_iff w_frames).mpr ⟨w_running, w_runnable, w_alone, w_named, w_hears, w_ripe, w_room, w_tables⟩
theorem atStart : AtStart classFile x code maxLocals ret World_1 tables_1 room_1 Calls_1 rest_1 Pre_1 launch0 p0 e0 about1 theMethod args0 below0 :=
  ⟨lists_1, trivial, launch0.admits_env _ _ _, launch0.least_env, fairChoices_fair.cas, fairChoices_fair.clock, w_frames, w_args, w_heap, w_applies, trivial, trivial, w_case⟩
end start1
theorem witness_1 : WitnessClaimed_1 := ⟨start1.p0, start1.e0, start1.about1, start1.theMethod, start1.args0, start1.below0, start1.atStart⟩
end Jvm.Pilot.@@N@@
