import JvmDerived
import JvmDerived.Pilot.@@N@@Statement
import JvmDerived.Pilot.@@N@@Code
set_option linter.unusedVariables false
set_option linter.unusedSimpArgs false
namespace Jvm.Pilot.@@N@@
open Jvm Jvm.ClassFile Sem Op Lib Jvm.Free Jvm.Stand Jvm.LawKit Jvm.RoadKit Bundle Jvm.Pilot.@@N@@.Jvm.D
abbrev sI (x : Int32) : Slot := .val (.int x)
abbrev sJ (x : Int64) : Slot := .val (.long x)
abbrev sR (a : Addr) : Slot := .val (.ref a)
abbrev sN : Slot := .val .null
abbrev sU : Slot := .unset
abbrev sW : Slot := .second
abbrev own_S (p : Program) (e : Env) (below : List Frame) (T : State) (m : MethodId) (pc : Nat) (L : Array Slot) (S : List Value) (t : State) : Prop := Steps p.tables e below (T.setTop (mkF m pc L S)) t
theorem own_d2_0 : decode jdk_37_method_2_code 0 = .ok (.aload_n 0, 1) := by decide +kernel
theorem own_d2_1 : decode jdk_37_method_2_code 1 = .ok (.getfield 7, 3) := by decide +kernel
theorem own_d2_4 : decode jdk_37_method_2_code 4 = .ok (.ireturn, 1) := by decide +kernel
theorem own_pn_0 : plainName "java/lang/Enum" = true := by first | (simp [plainName, overriddenIn]; done) | decide +kernel
theorem own_ef_2 (m : MethodId) (x0 : Addr) : entryFrame m #[(.ref x0)] 1 = mkF m 0 #[sR x0] [] := by first | (simp [entryFrame, mkF, argsToLocals, Value.category]; done) | rfl
def own_Q2 (Z : State) (a1 : Addr) (w1 : Int32) (h0 : Heap) (n0 : Nat) (v : Option Value) (h : Heap) (L : List Loc) : Prop := v = some (.int w1) ∧ Fr n0 L ∧ h = h0
abbrev own_y0 : MethodName := ⟨"java/lang/Enum", "ordinal", "()I"⟩
set_option maxRecDepth 65536 in
set_option maxHeartbeats 40000000 in
theorem own_rm2 (l : Launch) (Z : State) (a0 : Array Value) (hw : ∀ d ∈ tables_1, d.before a0 Z = true) (ws : List Jvm.Cond) (a1 : Addr) (w1 : Int32) (h0 : Heap) (n0 : Nat) (Z0 : n0 ≤ h0.size) (F_ordinal_a1 : Fld Z h0 a1 "java/lang/Enum" "ordinal" "I" (.int w1)) :
    MetFree l own_y0 (head1 (Jvm.Cond.code own_y0 jdk_37_method_2_code 1 (some .int) :: ws) ({ frames := 0, cells := 0, slots := 0, locals := 0 } : Room)) (fun a U => a = #[(.ref a1)] ∧ Z.Warmed39 U.vm ∧ U.heap = h0) (fun _ _ _ _ _ => True) (fun _ U o U' => ∃ v L, o = .returned v ∧ own_Q2 Z a1 w1 h0 n0 v U'.heap L ∧ FrameEnd U o U' L ({ frames := 0, cells := 0, slots := 0, locals := 0 } : Room).cells ({ frames := 0, cells := 0, slots := 0, locals := 0 } : Room).slots) := by
  refine MetFree.of_bodySF (plainFor_of_name own_pn_0) hisR ?_
  intro p e s m args below meth c s₁ Bd hml0 hP hK
  obtain ⟨rfl, hZ, hh⟩ := hP
  have hw15 := hw _ (List.mem_of_getElem? (i := 15) rfl)
  have hx := Bd.exec
  have hby := Bd.bytes
  have hml : c.maxLocals = 1 := hml0
  have hown : s.vm.findClass "java/lang/Enum" = some m.cls := findClass_of_methodNamed Bd.named
  have hnm := (name_of_methodNamed Bd.named Bd.method).1
  have X0 : Stand p l e ({ frames := 0, cells := 0, slots := 0, locals := 0 } : Room) s m #[(.ref a1)] below meth c s₁ [] 0 0 := Stand.of_body Bd
  have e0 : s₁.heap = h0 := by rw [← hh, Bd.state]; rfl
  have N0 := Fr.nil n0
  obtain ⟨R0, hR0⟩ : ∃ R : State → Prop, R = fun t => Steps p.tables e below (s₁.setTop (entryFrame m #[(.ref a1)] 1)) t := ⟨_, rfl⟩
  have pre0 : ∀ t, Steps p.tables e below (s₁.setTop (mkF m 0 #[sR a1] [])) t → R0 t := fun t k => by rw [hR0]; exact castTop (own_ef_2 m a1) k
  have pre1 : ∀ t, own_S p e below s₁ m 1 #[sR a1] [(.ref a1)] t → R0 t := fun t k => pre0 t (by
    refine XS.aloadN X0.here hx rfl (hb hby own_d2_0) rfl rfl ?_
    exact k)
  obtain ⟨T2, X2, e2, st2⟩ := getF X0 hx hZ hown (host := "") (Or.inl hw15) Via.refl e0 F_ordinal_a1 (g := (mkF m 1 #[sR a1] [(.ref a1)])) rfl rfl (hb hby own_d2_1)
  have pre3 : ∀ t, own_S p e below T2 m 4 #[sR a1] [(.int w1)] t → R0 t := fun t k => pre1 t (by
    refine st2 _ ?_
    exact k)
  obtain ⟨fs, hr, hrun, hended, hW, hsame⟩ := X2.leave (v := some (.int w1)) (fun h => by rw [Bd.returns] at h; cases h)
  refine ⟨_, _, cast (congrFun hR0 _) (pre3 _ (retOut X2 hx Bd.returns rfl (Or.inl ⟨rfl, Or.inl rfl, _, rfl⟩) (hb hby own_d2_4) hr)), hrun, hended, _, _, rfl, ?_, ⟨_, rfl⟩, hW, hsame.mono (by decide) (by decide)⟩
  show own_Q2 Z _ _ h0 n0 _ T2.heap _
  rw [e2]
  exact ⟨rfl, N0, rfl⟩
theorem own_pd_0 : parseMethodDescriptor "()I" = some ⟨[], some .int⟩ := by decide +kernel
abbrev own_y1 : MethodName := ⟨"com/example/murmuration/murmuration/bench/ArrayBench$Layout", "ordinal", "()I"⟩
theorem own_d1_0 : decode prog_6_method_4_code 0 = .ok (.aload_n 0, 1) := by decide +kernel
theorem own_d1_1 : decode prog_6_method_4_code 1 = .ok (.invokevirtual 29, 3) := by decide +kernel
theorem own_d1_4 : decode prog_6_method_4_code 4 = .ok (.lookupswitch 28 #[(0, 38), (1, 43)], 28) := by decide +kernel
theorem own_d1_42 : decode prog_6_method_4_code 42 = .ok (.iload_n 1, 1) := by decide +kernel
theorem own_d1_43 : decode prog_6_method_4_code 43 = .ok (.i2l, 1) := by decide +kernel
theorem own_d1_44 : decode prog_6_method_4_code 44 = .ok (.goto 8, 3) := by decide +kernel
theorem own_d1_52 : decode prog_6_method_4_code 52 = .ok (.lreturn, 1) := by decide +kernel
theorem own_pn_1 : plainName "com/example/murmuration/murmuration/bench/ArrayBench$Layout" = true := by first | (simp [plainName, overriddenIn]; done) | decide +kernel
theorem own_ef_1e (m : MethodId) (x0 : Addr) (x1 : Int32) (x2 : Int32) : entryFrame m #[(.ref x0), (.int x1), (.int x2)] 3 = mkF m 0 #[sR x0, sI x1, sI x2] [] := by first | (simp [entryFrame, mkF, argsToLocals, Value.category]; done) | rfl
def own_Q1e (Z : State) (a1 : Addr) (p2 : Int32) (p3 : Int32) (h0 : Heap) (n0 : Nat) (v : Option Value) (h : Heap) (L : List Loc) : Prop := v = some (.long (p2.toInt64)) ∧ Fr n0 L ∧ h = h0
abbrev own_y2 : MethodName := ⟨"com/example/murmuration/murmuration/bench/ArrayBench$Layout", "length", "(II)J"⟩
set_option maxRecDepth 65536 in
set_option maxHeartbeats 40000000 in
theorem own_rm1e (l : Launch) (Z : State) (a0 : Array Value) (hw : ∀ d ∈ tables_1, d.before a0 Z = true) (ws : List Jvm.Cond) (a1 : Addr) (p2 : Int32) (p3 : Int32) (h0 : Heap) (n0 : Nat) (Z0 : n0 ≤ h0.size) (E_a1 : Exa Z h0 a1 "com/example/murmuration/murmuration/bench/ArrayBench$Layout") (F_ordinal_a1 : Fld Z h0 a1 "java/lang/Enum" "ordinal" "I" (.int 0)) :
    MetFree l own_y2 (head1 (Jvm.Cond.code own_y2 prog_6_method_4_code 3 (some .long) :: ws) ({ frames := 1, cells := 0, slots := 0, locals := 12 } : Room)) (fun a U => a = #[(.ref a1), (.int p2), (.int p3)] ∧ Z.Warmed39 U.vm ∧ U.heap = h0) (fun _ _ _ _ _ => True) (fun _ U o U' => ∃ v L, o = .returned v ∧ own_Q1e Z a1 p2 p3 h0 n0 v U'.heap L ∧ FrameEnd U o U' L ({ frames := 1, cells := 0, slots := 0, locals := 12 } : Room).cells ({ frames := 1, cells := 0, slots := 0, locals := 12 } : Room).slots) := by
  refine MetFree.of_bodySF (plainFor_of_name own_pn_1) hisR ?_
  intro p e s m args below meth c s₁ Bd hml0 hP hK
  obtain ⟨rfl, hZ, hh⟩ := hP
  have hw8 := hw _ (List.mem_of_getElem? (i := 8) rfl)
  have hw9 := hw _ (List.mem_of_getElem? (i := 9) rfl)
  have hw10 := hw _ (List.mem_of_getElem? (i := 10) rfl)
  have hw11 := hw _ (List.mem_of_getElem? (i := 11) rfl)
  have hw12 := hw _ (List.mem_of_getElem? (i := 12) rfl)
  have hw13 := hw _ (List.mem_of_getElem? (i := 13) rfl)
  have hw14 := hw _ (List.mem_of_getElem? (i := 14) rfl)
  have hx := Bd.exec
  have hby := Bd.bytes
  have hml : c.maxLocals = 3 := hml0
  have hown : s.vm.findClass "com/example/murmuration/murmuration/bench/ArrayBench$Layout" = some m.cls := findClass_of_methodNamed Bd.named
  have hnm := (name_of_methodNamed Bd.named Bd.method).1
  have X0 : Stand p l e ({ frames := 1, cells := 0, slots := 0, locals := 12 } : Room) s m #[(.ref a1), (.int p2), (.int p3)] below meth c s₁ [] 0 0 := Stand.of_body Bd
  have e0 : s₁.heap = h0 := by rw [← hh, Bd.state]; rfl
  have N0 := Fr.nil n0
  obtain ⟨R0, hR0⟩ : ∃ R : State → Prop, R = fun t => Steps p.tables e below (s₁.setTop (entryFrame m #[(.ref a1), (.int p2), (.int p3)] 3)) t := ⟨_, rfl⟩
  have pre0 : ∀ t, Steps p.tables e below (s₁.setTop (mkF m 0 #[sR a1, sI p2, sI p3] [])) t → R0 t := fun t k => by rw [hR0]; exact castTop (own_ef_1e m a1 p2 p3) k
  have pre1 : ∀ t, own_S p e below s₁ m 1 #[sR a1, sI p2, sI p3] [(.ref a1)] t → R0 t := fun t k => pre0 t (by
    refine XS.aloadN X0.here hx rfl (hb hby own_d1_0) rfl rfl ?_
    exact k)
  obtain ⟨cq2, kq2, q2a, q2b, q2c⟩ := isOf hZ e0 E_a1
  obtain ⟨_, _, ⟨T2, L2, k2, n2⟩, -, X2, ⟨Lc2, hQ2, l2, y2, z2⟩, st2⟩ := X0.virtualBackUp hx (x := own_y1) (y := own_y0) (owner := "java/lang/Enum") hown (mvT hZ hw8) (mvT hZ hw9) (mvT hZ hw10) (by decide) (mvT hZ hw12) (mvT hZ hw11) (backOf (W := 0) (own_rm2 l Z a0 hw [] a1 (0 : Int32) h0 n0 Z0 F_ordinal_a1) hZ hw14 hw13 (by decide) (by decide)) q2a q2c (g := (mkF m 1 #[sR a1, sI p2, sI p3] [(.ref a1)])) rfl (by rw [hml]; rfl) (Steps.refl _) (argsL := []) (rest := []) (lenOf own_pd_0 rfl) rfl (by show 2 * 0 + _ ≤ _; exact Nat.le_of_eq rfl) (hb hby own_d1_1) (fun _ _ => ⟨rfl, e0, (by decide : 0 + 0 ≤ _), (by decide : 0 + 0 ≤ _)⟩)
  dsimp only [Pt.U, Pt.locs, Pt.cells, Pt.slots] at X2 l2 y2 z2 st2 hQ2
  subst l2 y2 z2
  obtain ⟨rfl, N2q, eh2⟩ := hQ2
  have N2 := Fr.app N0 N2q
  have pre3 : ∀ t, own_S p e below T2 m 52 #[sR a1, sI p2, sI p3] [(.long (p2.toInt64))] t → R0 t := fun t k => pre1 t (by
    refine st2.trans ?_
    show own_S p e below T2 m 4 #[sR a1, sI p2, sI p3] [(.int 0)] _
    refine X2.lookupswitchHit hx (g := (mkF m 4 #[sR a1, sI p2, sI p3] [(.int 0)])) rfl rfl (hb hby own_d1_4) (by decide) (a := 0) (off := 38) (by decide) (by show (0 : Int) ≤ ((4 : Nat) : Int) + 38; decide) _ ?_
    show own_S p e below T2 m 42 #[sR a1, sI p2, sI p3] [] _
    refine XS.iloadN X2.here hx rfl (hb hby own_d1_42) rfl ?_
    show own_S p e below T2 m 43 #[sR a1, sI p2, sI p3] [(.int p2)] _
    refine XS.i2l X2.here hx rfl (hb hby own_d1_43) rfl ?_
    show own_S p e below T2 m 44 #[sR a1, sI p2, sI p3] [(.long (p2.toInt64))] _
    refine XS.goto X2.here hx rfl (pc0 := 44) (pc' := 52) rfl (hb hby own_d1_44) (by decide) (by decide) ?_
    exact k)
  obtain ⟨fs, hr, hrun, hended, hW, hsame⟩ := X2.leave (v := some (.long (p2.toInt64))) (fun h => by rw [Bd.returns] at h; cases h)
  refine ⟨_, _, cast (congrFun hR0 _) (pre3 _ (retOut X2 hx Bd.returns rfl (Or.inr (Or.inl ⟨rfl, rfl, _, rfl⟩)) (hb hby own_d1_52) hr)), hrun, hended, _, _, rfl, ?_, ⟨_, rfl⟩, hW, hsame.mono (by decide) (by decide)⟩
  show own_Q1e Z _ _ _ h0 n0 _ T2.heap _
  rw [eh2]
  exact ⟨rfl, N2, rfl⟩
theorem own_d1_47 : decode prog_6_method_4_code 47 = .ok (.iload_n 1, 1) := by decide +kernel
theorem own_d1_48 : decode prog_6_method_4_code 48 = .ok (.i2l, 1) := by decide +kernel
theorem own_d1_49 : decode prog_6_method_4_code 49 = .ok (.iload_n 2, 1) := by decide +kernel
theorem own_d1_50 : decode prog_6_method_4_code 50 = .ok (.i2l, 1) := by decide +kernel
theorem own_d1_51 : decode prog_6_method_4_code 51 = .ok (.lmul, 1) := by decide +kernel
theorem own_ef_1b (m : MethodId) (x0 : Addr) (x1 : Int32) (x2 : Int32) : entryFrame m #[(.ref x0), (.int x1), (.int x2)] 3 = mkF m 0 #[sR x0, sI x1, sI x2] [] := by first | (simp [entryFrame, mkF, argsToLocals, Value.category]; done) | rfl
def own_Q1b (Z : State) (a1 : Addr) (p2 : Int32) (p3 : Int32) (h0 : Heap) (n0 : Nat) (v : Option Value) (h : Heap) (L : List Loc) : Prop := v = some (.long ((p2.toInt64) * (p3.toInt64))) ∧ Fr n0 L ∧ h = h0
set_option maxRecDepth 65536 in
set_option maxHeartbeats 40000000 in
theorem own_rm1b (l : Launch) (Z : State) (a0 : Array Value) (hw : ∀ d ∈ tables_1, d.before a0 Z = true) (ws : List Jvm.Cond) (a1 : Addr) (p2 : Int32) (p3 : Int32) (h0 : Heap) (n0 : Nat) (Z0 : n0 ≤ h0.size) (E_a1 : Exa Z h0 a1 "com/example/murmuration/murmuration/bench/ArrayBench$Layout") (F_ordinal_a1 : Fld Z h0 a1 "java/lang/Enum" "ordinal" "I" (.int 1)) :
    MetFree l own_y2 (head1 (Jvm.Cond.code own_y2 prog_6_method_4_code 3 (some .long) :: ws) ({ frames := 1, cells := 0, slots := 0, locals := 12 } : Room)) (fun a U => a = #[(.ref a1), (.int p2), (.int p3)] ∧ Z.Warmed39 U.vm ∧ U.heap = h0) (fun _ _ _ _ _ => True) (fun _ U o U' => ∃ v L, o = .returned v ∧ own_Q1b Z a1 p2 p3 h0 n0 v U'.heap L ∧ FrameEnd U o U' L ({ frames := 1, cells := 0, slots := 0, locals := 12 } : Room).cells ({ frames := 1, cells := 0, slots := 0, locals := 12 } : Room).slots) := by
  refine MetFree.of_bodySF (plainFor_of_name own_pn_1) hisR ?_
  intro p e s m args below meth c s₁ Bd hml0 hP hK
  obtain ⟨rfl, hZ, hh⟩ := hP
  have hw8 := hw _ (List.mem_of_getElem? (i := 8) rfl)
  have hw9 := hw _ (List.mem_of_getElem? (i := 9) rfl)
  have hw10 := hw _ (List.mem_of_getElem? (i := 10) rfl)
  have hw11 := hw _ (List.mem_of_getElem? (i := 11) rfl)
  have hw12 := hw _ (List.mem_of_getElem? (i := 12) rfl)
  have hw13 := hw _ (List.mem_of_getElem? (i := 13) rfl)
  have hw14 := hw _ (List.mem_of_getElem? (i := 14) rfl)
  have hx := Bd.exec
  have hby := Bd.bytes
  have hml : c.maxLocals = 3 := hml0
  have hown : s.vm.findClass "com/example/murmuration/murmuration/bench/ArrayBench$Layout" = some m.cls := findClass_of_methodNamed Bd.named
  have hnm := (name_of_methodNamed Bd.named Bd.method).1
  have X0 : Stand p l e ({ frames := 1, cells := 0, slots := 0, locals := 12 } : Room) s m #[(.ref a1), (.int p2), (.int p3)] below meth c s₁ [] 0 0 := Stand.of_body Bd
  have e0 : s₁.heap = h0 := by rw [← hh, Bd.state]; rfl
  have N0 := Fr.nil n0
  obtain ⟨R0, hR0⟩ : ∃ R : State → Prop, R = fun t => Steps p.tables e below (s₁.setTop (entryFrame m #[(.ref a1), (.int p2), (.int p3)] 3)) t := ⟨_, rfl⟩
  have pre0 : ∀ t, Steps p.tables e below (s₁.setTop (mkF m 0 #[sR a1, sI p2, sI p3] [])) t → R0 t := fun t k => by rw [hR0]; exact castTop (own_ef_1b m a1 p2 p3) k
  have pre1 : ∀ t, own_S p e below s₁ m 1 #[sR a1, sI p2, sI p3] [(.ref a1)] t → R0 t := fun t k => pre0 t (by
    refine XS.aloadN X0.here hx rfl (hb hby own_d1_0) rfl rfl ?_
    exact k)
  obtain ⟨cq2, kq2, q2a, q2b, q2c⟩ := isOf hZ e0 E_a1
  obtain ⟨_, _, ⟨T2, L2, k2, n2⟩, -, X2, ⟨Lc2, hQ2, l2, y2, z2⟩, st2⟩ := X0.virtualBackUp hx (x := own_y1) (y := own_y0) (owner := "java/lang/Enum") hown (mvT hZ hw8) (mvT hZ hw9) (mvT hZ hw10) (by decide) (mvT hZ hw12) (mvT hZ hw11) (backOf (W := 0) (own_rm2 l Z a0 hw [] a1 (1 : Int32) h0 n0 Z0 F_ordinal_a1) hZ hw14 hw13 (by decide) (by decide)) q2a q2c (g := (mkF m 1 #[sR a1, sI p2, sI p3] [(.ref a1)])) rfl (by rw [hml]; rfl) (Steps.refl _) (argsL := []) (rest := []) (lenOf own_pd_0 rfl) rfl (by show 2 * 0 + _ ≤ _; exact Nat.le_of_eq rfl) (hb hby own_d1_1) (fun _ _ => ⟨rfl, e0, (by decide : 0 + 0 ≤ _), (by decide : 0 + 0 ≤ _)⟩)
  dsimp only [Pt.U, Pt.locs, Pt.cells, Pt.slots] at X2 l2 y2 z2 st2 hQ2
  subst l2 y2 z2
  obtain ⟨rfl, N2q, eh2⟩ := hQ2
  have N2 := Fr.app N0 N2q
  have pre3 : ∀ t, own_S p e below T2 m 52 #[sR a1, sI p2, sI p3] [(.long ((p2.toInt64) * (p3.toInt64)))] t → R0 t := fun t k => pre1 t (by
    refine st2.trans ?_
    show own_S p e below T2 m 4 #[sR a1, sI p2, sI p3] [(.int 1)] _
    refine X2.lookupswitchHit hx (g := (mkF m 4 #[sR a1, sI p2, sI p3] [(.int 1)])) rfl rfl (hb hby own_d1_4) (by decide) (a := 1) (off := 43) (by decide) (by show (0 : Int) ≤ ((4 : Nat) : Int) + 43; decide) _ ?_
    show own_S p e below T2 m 47 #[sR a1, sI p2, sI p3] [] _
    refine XS.iloadN X2.here hx rfl (hb hby own_d1_47) rfl ?_
    show own_S p e below T2 m 48 #[sR a1, sI p2, sI p3] [(.int p2)] _
    refine XS.i2l X2.here hx rfl (hb hby own_d1_48) rfl ?_
    show own_S p e below T2 m 49 #[sR a1, sI p2, sI p3] [(.long (p2.toInt64))] _
    refine XS.iloadN X2.here hx rfl (hb hby own_d1_49) rfl ?_
    show own_S p e below T2 m 50 #[sR a1, sI p2, sI p3] [(.int p3), (.long (p2.toInt64))] _
    refine XS.i2l X2.here hx rfl (hb hby own_d1_50) rfl ?_
    show own_S p e below T2 m 51 #[sR a1, sI p2, sI p3] [(.long (p3.toInt64)), (.long (p2.toInt64))] _
    refine XS.lmul X2.here hx rfl (hb hby own_d1_51) rfl ?_
    exact k)
  obtain ⟨fs, hr, hrun, hended, hW, hsame⟩ := X2.leave (v := some (.long ((p2.toInt64) * (p3.toInt64)))) (fun h => by rw [Bd.returns] at h; cases h)
  refine ⟨_, _, cast (congrFun hR0 _) (pre3 _ (retOut X2 hx Bd.returns rfl (Or.inr (Or.inl ⟨rfl, rfl, _, rfl⟩)) (hb hby own_d1_52) hr)), hrun, hended, _, _, rfl, ?_, ⟨_, rfl⟩, hW, hsame.mono (by decide) (by decide)⟩
  show own_Q1b Z _ _ _ h0 n0 _ T2.heap _
  rw [eh2]
  exact ⟨rfl, N2, rfl⟩
theorem own_pd_1 : parseMethodDescriptor "(II)J" = some ⟨[.int, .int], some .long⟩ := by decide +kernel
theorem own_pn_2 : plainName "com/example/murmuration/murmuration/bench/LayoutLengthPinLaw" = true := by first | (simp [plainName, overriddenIn]; done) | decide +kernel
theorem own_ef_0 (m : MethodId) (x0 : Int32) (x1 : Int32) : entryFrame m #[(.int x0), (.int x1)] maxLocals = mkF m 0 #[sI x0, sI x1, .unset, .unset, .unset, .unset, .unset, .unset, .unset, .unset, .unset] [] := by first | (simp [entryFrame, mkF, argsToLocals, Value.category, maxLocals]; done) | rfl
def own_Q0 (Z : State) (p1 : Int32) (p2 : Int32) (aE : Addr) (aB : Addr) (h0 : Heap) (n0 : Nat) (v : Option Value) (h : Heap) (L : List Loc) : Prop := v = some (.int 1) ∧ Fr n0 L
set_option maxRecDepth 65536 in
set_option maxHeartbeats 40000000 in
theorem own_rm0 (l : Launch) (Z : State) (a0 : Array Value) (hw : ∀ d ∈ tables_1, d.before a0 Z = true) (ws : List Jvm.Cond) (p1 : Int32) (p2 : Int32) (aE : Addr) (aB : Addr) (h0 : Heap) (n0 : Nat) (Z0 : n0 ≤ h0.size) (E_aE : Exa Z h0 aE "com/example/murmuration/murmuration/bench/ArrayBench$Layout") (E_aB : Exa Z h0 aB "com/example/murmuration/murmuration/bench/ArrayBench$Layout") (F_ordinal_aE : Fld Z h0 aE "java/lang/Enum" "ordinal" "I" (.int 0)) (F_ordinal_aB : Fld Z h0 aB "java/lang/Enum" "ordinal" "I" (.int 1)) (S_ELEMENTS : Sta Z h0 "com/example/murmuration/murmuration/bench/ArrayBench$Layout" "ELEMENTS" "Lcom/example/murmuration/murmuration/bench/ArrayBench$Layout;" (.ref aE)) (S_BLOCKS : Sta Z h0 "com/example/murmuration/murmuration/bench/ArrayBench$Layout" "BLOCKS" "Lcom/example/murmuration/murmuration/bench/ArrayBench$Layout;" (.ref aB)) :
    MetFree l x (head1 (Jvm.Cond.code x code maxLocals ret :: ws) room_1) (fun a U => a = #[(.int p1), (.int p2)] ∧ Z.Warmed39 U.vm ∧ U.heap = h0) (fun _ _ _ _ _ => True) (fun _ U o U' => ∃ v L, o = .returned v ∧ own_Q0 Z p1 p2 aE aB h0 n0 v U'.heap L ∧ FrameEnd U o U' L room_1.cells room_1.slots) := by
  refine MetFree.of_bodySF (plainFor_of_name own_pn_2) hisR ?_
  intro p e s m args below meth c s₁ Bd hml0 hP hK
  obtain ⟨rfl, hZ, hh⟩ := hP
  have hw0 := hw _ (List.mem_of_getElem? (i := 0) rfl)
  have hw1 := hw _ (List.mem_of_getElem? (i := 1) rfl)
  have hw3 := hw _ (List.mem_of_getElem? (i := 3) rfl)
  have hw4 := hw _ (List.mem_of_getElem? (i := 4) rfl)
  have hw5 := hw _ (List.mem_of_getElem? (i := 5) rfl)
  have hw6 := hw _ (List.mem_of_getElem? (i := 6) rfl)
  have hw7 := hw _ (List.mem_of_getElem? (i := 7) rfl)
  have hw17 := hw _ (List.mem_of_getElem? (i := 17) rfl)
  have hx := Bd.exec
  have hby := Bd.bytes
  have hml : c.maxLocals = 11 := hml0
  have hown : s.vm.findClass "com/example/murmuration/murmuration/bench/LayoutLengthPinLaw" = some m.cls := findClass_of_methodNamed Bd.named
  have hnm := (name_of_methodNamed Bd.named Bd.method).1
  have X0 : Stand p l e room_1 s m #[(.int p1), (.int p2)] below meth c s₁ [] 0 0 := Stand.of_body Bd
  have e0 : s₁.heap = h0 := by rw [← hh, Bd.state]; rfl
  have N0 := Fr.nil n0
  obtain ⟨R0, hR0⟩ : ∃ R : State → Prop, R = fun t => Steps p.tables e below (s₁.setTop (entryFrame m #[(.int p1), (.int p2)] maxLocals)) t := ⟨_, rfl⟩
  have pre0 : ∀ t, Steps p.tables e below (s₁.setTop (mkF m 0 #[sI p1, sI p2, sU, sU, sU, sU, sU, sU, sU, sU, sU] [])) t → R0 t := fun t k => by rw [hR0]; exact castTop (own_ef_0 m p1 p2) k
  obtain ⟨T1, X1, e1, st1⟩ := getS2 X0 hx hZ hown (host := "") (Or.inl hw0) Via.refl e0 S_ELEMENTS (g := (mkF m 0 #[sI p1, sI p2, sU, sU, sU, sU, sU, sU, sU, sU, sU] [])) rfl (hb hby at_0)
  have pre2 : ∀ t, own_S p e below T1 m 5 #[sI p1, sI p2, sU, sU, sU, sU, sU, sU, sU, sU, sU] [(.int p2), (.int p1), (.ref aE)] t → R0 t := fun t k => pre0 t (by
    refine st1 _ ?_
    show own_S p e below T1 m 3 #[sI p1, sI p2, sU, sU, sU, sU, sU, sU, sU, sU, sU] [(.ref aE)] _
    refine XS.iloadN X1.here hx rfl (hb hby at_3) rfl ?_
    show own_S p e below T1 m 4 #[sI p1, sI p2, sU, sU, sU, sU, sU, sU, sU, sU, sU] [(.int p1), (.ref aE)] _
    refine XS.iloadN X1.here hx rfl (hb hby at_4) rfl ?_
    exact k)
  obtain ⟨cq3, kq3, q3a, q3b, q3c⟩ := isOf hZ e1 E_aE
  obtain ⟨_, _, ⟨T3, L3, k3, n3⟩, -, X3, ⟨Lc3, hQ3, l3, y3, z3⟩, st3⟩ := X1.virtualBack hx (y := own_y2) (z := own_y2) hown (mvT hZ hw3) (mvT hZ hw4) (notFace_of_selects (args := #[]) (mvT hZ hw6)) (mvT hZ hw6) (mvT hZ hw5) (by decide) (backOf (W := 0) (own_rm1e l Z a0 hw [] aE p1 p2 h0 n0 Z0 E_aE F_ordinal_aE) hZ hw7 hw1 (by decide) (by decide)) q3a q3c (g := (mkF m 5 #[sI p1, sI p2, sU, sU, sU, sU, sU, sU, sU, sU, sU] [(.int p2), (.int p1), (.ref aE)])) rfl (by rw [hml]; rfl) (Steps.refl _) (argsL := [(.int p1), (.int p2)]) (rest := []) (lenOf own_pd_1 rfl) rfl (by show 2 * 0 + _ ≤ _; exact Nat.le_of_eq rfl) (hb hby at_5) (fun _ _ => ⟨rfl, e1, (by decide : 0 + 0 ≤ _), (by decide : 0 + 0 ≤ _)⟩)
  dsimp only [Pt.U, Pt.locs, Pt.cells, Pt.slots] at X3 l3 y3 z3 st3 hQ3
  subst l3 y3 z3
  obtain ⟨rfl, N3q, eh3⟩ := hQ3
  have N3 := Fr.app N0 N3q
  have pre4 : ∀ t, own_S p e below T3 m 9 #[sI p1, sI p2, sJ (p1.toInt64), sW, sU, sU, sU, sU, sU, sU, sU] [] t → R0 t := fun t k => pre2 t (by
    refine st3.trans ?_
    show own_S p e below T3 m 8 #[sI p1, sI p2, sU, sU, sU, sU, sU, sU, sU, sU, sU] [(.long (p1.toInt64))] _
    refine XS.lstoreN X3.here hx rfl (hb hby at_8) rfl (l' := #[sI p1, sI p2, sJ (p1.toInt64), sW, sU, sU, sU, sU, sU, sU, sU]) rfl ?_
    exact k)
  obtain ⟨T5, X5, e5, st5⟩ := getS2 X3 hx hZ hown (host := "") (Or.inl hw17) Via.refl eh3 S_BLOCKS (g := (mkF m 9 #[sI p1, sI p2, sJ (p1.toInt64), sW, sU, sU, sU, sU, sU, sU, sU] [])) rfl (hb hby at_9)
  have pre6 : ∀ t, own_S p e below T5 m 14 #[sI p1, sI p2, sJ (p1.toInt64), sW, sU, sU, sU, sU, sU, sU, sU] [(.int p2), (.int p1), (.ref aB)] t → R0 t := fun t k => pre4 t (by
    refine st5 _ ?_
    show own_S p e below T5 m 12 #[sI p1, sI p2, sJ (p1.toInt64), sW, sU, sU, sU, sU, sU, sU, sU] [(.ref aB)] _
    refine XS.iloadN X5.here hx rfl (hb hby at_12) rfl ?_
    show own_S p e below T5 m 13 #[sI p1, sI p2, sJ (p1.toInt64), sW, sU, sU, sU, sU, sU, sU, sU] [(.int p1), (.ref aB)] _
    refine XS.iloadN X5.here hx rfl (hb hby at_13) rfl ?_
    exact k)
  obtain ⟨cq7, kq7, q7a, q7b, q7c⟩ := isOf hZ e5 E_aB
  obtain ⟨_, _, ⟨T7, L7, k7, n7⟩, -, X7, ⟨Lc7, hQ7, l7, y7, z7⟩, st7⟩ := X5.virtualBack hx (y := own_y2) (z := own_y2) hown (mvT hZ hw3) (mvT hZ hw4) (notFace_of_selects (args := #[]) (mvT hZ hw6)) (mvT hZ hw6) (mvT hZ hw5) (by decide) (backOf (W := 0) (own_rm1b l Z a0 hw [] aB p1 p2 h0 n0 Z0 E_aB F_ordinal_aB) hZ hw7 hw1 (by decide) (by decide)) q7a q7c (g := (mkF m 14 #[sI p1, sI p2, sJ (p1.toInt64), sW, sU, sU, sU, sU, sU, sU, sU] [(.int p2), (.int p1), (.ref aB)])) rfl (by rw [hml]; rfl) (Steps.refl _) (argsL := [(.int p1), (.int p2)]) (rest := []) (lenOf own_pd_1 rfl) rfl (by show 2 * 0 + _ ≤ _; exact Nat.le_of_eq rfl) (hb hby at_14) (fun _ _ => ⟨rfl, e5, (by decide : 0 + 0 ≤ _), (by decide : 0 + 0 ≤ _)⟩)
  dsimp only [Pt.U, Pt.locs, Pt.cells, Pt.slots] at X7 l7 y7 z7 st7 hQ7
  subst l7 y7 z7
  obtain ⟨rfl, N7q, eh7⟩ := hQ7
  have N7 := Fr.app N3 N7q
  have pre8 : ∀ t, own_S p e below T7 m 30 #[sI p1, sI p2, sJ (p1.toInt64), sW, sJ ((p1.toInt64) * (p2.toInt64)), sW, sJ ((p1.toInt64) * (p2.toInt64)), sW, sU, sU, sU] [(.int (lcmpW (p1.toInt64) (p1.toInt64)))] t → R0 t := fun t k => pre6 t (by
    refine st7.trans ?_
    show own_S p e below T7 m 17 #[sI p1, sI p2, sJ (p1.toInt64), sW, sU, sU, sU, sU, sU, sU, sU] [(.long ((p1.toInt64) * (p2.toInt64)))] _
    refine XS.lstore X7.here hx rfl (hb hby at_17) rfl (l' := #[sI p1, sI p2, sJ (p1.toInt64), sW, sJ ((p1.toInt64) * (p2.toInt64)), sW, sU, sU, sU, sU, sU]) rfl ?_
    show own_S p e below T7 m 19 #[sI p1, sI p2, sJ (p1.toInt64), sW, sJ ((p1.toInt64) * (p2.toInt64)), sW, sU, sU, sU, sU, sU] [] _
    refine XS.iloadN X7.here hx rfl (hb hby at_19) rfl ?_
    show own_S p e below T7 m 20 #[sI p1, sI p2, sJ (p1.toInt64), sW, sJ ((p1.toInt64) * (p2.toInt64)), sW, sU, sU, sU, sU, sU] [(.int p1)] _
    refine XS.i2l X7.here hx rfl (hb hby at_20) rfl ?_
    show own_S p e below T7 m 21 #[sI p1, sI p2, sJ (p1.toInt64), sW, sJ ((p1.toInt64) * (p2.toInt64)), sW, sU, sU, sU, sU, sU] [(.long (p1.toInt64))] _
    refine XS.iloadN X7.here hx rfl (hb hby at_21) rfl ?_
    show own_S p e below T7 m 22 #[sI p1, sI p2, sJ (p1.toInt64), sW, sJ ((p1.toInt64) * (p2.toInt64)), sW, sU, sU, sU, sU, sU] [(.int p2), (.long (p1.toInt64))] _
    refine XS.i2l X7.here hx rfl (hb hby at_22) rfl ?_
    show own_S p e below T7 m 23 #[sI p1, sI p2, sJ (p1.toInt64), sW, sJ ((p1.toInt64) * (p2.toInt64)), sW, sU, sU, sU, sU, sU] [(.long (p2.toInt64)), (.long (p1.toInt64))] _
    refine XS.lmul X7.here hx rfl (hb hby at_23) rfl ?_
    show own_S p e below T7 m 24 #[sI p1, sI p2, sJ (p1.toInt64), sW, sJ ((p1.toInt64) * (p2.toInt64)), sW, sU, sU, sU, sU, sU] [(.long ((p1.toInt64) * (p2.toInt64)))] _
    refine XS.lstore X7.here hx rfl (hb hby at_24) rfl (l' := #[sI p1, sI p2, sJ (p1.toInt64), sW, sJ ((p1.toInt64) * (p2.toInt64)), sW, sJ ((p1.toInt64) * (p2.toInt64)), sW, sU, sU, sU]) rfl ?_
    show own_S p e below T7 m 26 #[sI p1, sI p2, sJ (p1.toInt64), sW, sJ ((p1.toInt64) * (p2.toInt64)), sW, sJ ((p1.toInt64) * (p2.toInt64)), sW, sU, sU, sU] [] _
    refine XS.lloadN X7.here hx rfl (hb hby at_26) rfl ?_
    show own_S p e below T7 m 27 #[sI p1, sI p2, sJ (p1.toInt64), sW, sJ ((p1.toInt64) * (p2.toInt64)), sW, sJ ((p1.toInt64) * (p2.toInt64)), sW, sU, sU, sU] [(.long (p1.toInt64))] _
    refine XS.iloadN X7.here hx rfl (hb hby at_27) rfl ?_
    show own_S p e below T7 m 28 #[sI p1, sI p2, sJ (p1.toInt64), sW, sJ ((p1.toInt64) * (p2.toInt64)), sW, sJ ((p1.toInt64) * (p2.toInt64)), sW, sU, sU, sU] [(.int p1), (.long (p1.toInt64))] _
    refine XS.i2l X7.here hx rfl (hb hby at_28) rfl ?_
    show own_S p e below T7 m 29 #[sI p1, sI p2, sJ (p1.toInt64), sW, sJ ((p1.toInt64) * (p2.toInt64)), sW, sJ ((p1.toInt64) * (p2.toInt64)), sW, sU, sU, sU] [(.long (p1.toInt64)), (.long (p1.toInt64))] _
    refine XS.lcmp X7.here hx rfl (hb hby at_29) rfl ?_
    exact k)
  have hc9 : (p1.toInt64) = (p1.toInt64) := rfl
  have pre10 : ∀ t, own_S p e below T7 m 45 #[sI p1, sI p2, sJ (p1.toInt64), sW, sJ ((p1.toInt64) * (p2.toInt64)), sW, sJ ((p1.toInt64) * (p2.toInt64)), sW, sI 1, sU, sU] [(.int (lcmpW ((p1.toInt64) * (p2.toInt64)) ((p1.toInt64) * (p2.toInt64))))] t → R0 t := fun t k => pre8 t (by
    refine XS.ifNo X7.here hx rfl (hb hby at_30) rfl ((if0 _ _).trans (teq ((lw_eq _ _).mpr hc9)).2) ?_
    show own_S p e below T7 m 33 #[sI p1, sI p2, sJ (p1.toInt64), sW, sJ ((p1.toInt64) * (p2.toInt64)), sW, sJ ((p1.toInt64) * (p2.toInt64)), sW, sU, sU, sU] [] _
    refine XS.iconst X7.here hx rfl (hb hby at_33) ?_
    show own_S p e below T7 m 34 #[sI p1, sI p2, sJ (p1.toInt64), sW, sJ ((p1.toInt64) * (p2.toInt64)), sW, sJ ((p1.toInt64) * (p2.toInt64)), sW, sU, sU, sU] [(.int 1)] _
    refine XS.goto X7.here hx rfl (pc0 := 34) (pc' := 38) rfl (hb hby at_34) (by decide) (by decide) ?_
    show own_S p e below T7 m 38 #[sI p1, sI p2, sJ (p1.toInt64), sW, sJ ((p1.toInt64) * (p2.toInt64)), sW, sJ ((p1.toInt64) * (p2.toInt64)), sW, sU, sU, sU] [(.int 1)] _
    refine XS.istore X7.here hx rfl (hb hby at_38) rfl (l' := #[sI p1, sI p2, sJ (p1.toInt64), sW, sJ ((p1.toInt64) * (p2.toInt64)), sW, sJ ((p1.toInt64) * (p2.toInt64)), sW, sI 1, sU, sU]) rfl ?_
    show own_S p e below T7 m 40 #[sI p1, sI p2, sJ (p1.toInt64), sW, sJ ((p1.toInt64) * (p2.toInt64)), sW, sJ ((p1.toInt64) * (p2.toInt64)), sW, sI 1, sU, sU] [] _
    refine XS.lload X7.here hx rfl (hb hby at_40) rfl ?_
    show own_S p e below T7 m 42 #[sI p1, sI p2, sJ (p1.toInt64), sW, sJ ((p1.toInt64) * (p2.toInt64)), sW, sJ ((p1.toInt64) * (p2.toInt64)), sW, sI 1, sU, sU] [(.long ((p1.toInt64) * (p2.toInt64)))] _
    refine XS.lload X7.here hx rfl (hb hby at_42) rfl ?_
    show own_S p e below T7 m 44 #[sI p1, sI p2, sJ (p1.toInt64), sW, sJ ((p1.toInt64) * (p2.toInt64)), sW, sJ ((p1.toInt64) * (p2.toInt64)), sW, sI 1, sU, sU] [(.long ((p1.toInt64) * (p2.toInt64))), (.long ((p1.toInt64) * (p2.toInt64)))] _
    refine XS.lcmp X7.here hx rfl (hb hby at_44) rfl ?_
    exact k)
  have hc11 : ((p1.toInt64) * (p2.toInt64)) = ((p1.toInt64) * (p2.toInt64)) := rfl
  have pre12 : ∀ t, own_S p e below T7 m 62 #[sI p1, sI p2, sJ (p1.toInt64), sW, sJ ((p1.toInt64) * (p2.toInt64)), sW, sJ ((p1.toInt64) * (p2.toInt64)), sW, sI 1, sI 1, sU] [(.int (lcmpW ((p1.toInt64) * (p2.toInt64)) ((p2.toInt64) * (p1.toInt64))))] t → R0 t := fun t k => pre10 t (by
    refine XS.ifNo X7.here hx rfl (hb hby at_45) rfl ((if0 _ _).trans (teq ((lw_eq _ _).mpr hc11)).2) ?_
    show own_S p e below T7 m 48 #[sI p1, sI p2, sJ (p1.toInt64), sW, sJ ((p1.toInt64) * (p2.toInt64)), sW, sJ ((p1.toInt64) * (p2.toInt64)), sW, sI 1, sU, sU] [] _
    refine XS.iconst X7.here hx rfl (hb hby at_48) ?_
    show own_S p e below T7 m 49 #[sI p1, sI p2, sJ (p1.toInt64), sW, sJ ((p1.toInt64) * (p2.toInt64)), sW, sJ ((p1.toInt64) * (p2.toInt64)), sW, sI 1, sU, sU] [(.int 1)] _
    refine XS.goto X7.here hx rfl (pc0 := 49) (pc' := 53) rfl (hb hby at_49) (by decide) (by decide) ?_
    show own_S p e below T7 m 53 #[sI p1, sI p2, sJ (p1.toInt64), sW, sJ ((p1.toInt64) * (p2.toInt64)), sW, sJ ((p1.toInt64) * (p2.toInt64)), sW, sI 1, sU, sU] [(.int 1)] _
    refine XS.istore X7.here hx rfl (hb hby at_53) rfl (l' := #[sI p1, sI p2, sJ (p1.toInt64), sW, sJ ((p1.toInt64) * (p2.toInt64)), sW, sJ ((p1.toInt64) * (p2.toInt64)), sW, sI 1, sI 1, sU]) rfl ?_
    show own_S p e below T7 m 55 #[sI p1, sI p2, sJ (p1.toInt64), sW, sJ ((p1.toInt64) * (p2.toInt64)), sW, sJ ((p1.toInt64) * (p2.toInt64)), sW, sI 1, sI 1, sU] [] _
    refine XS.lload X7.here hx rfl (hb hby at_55) rfl ?_
    show own_S p e below T7 m 57 #[sI p1, sI p2, sJ (p1.toInt64), sW, sJ ((p1.toInt64) * (p2.toInt64)), sW, sJ ((p1.toInt64) * (p2.toInt64)), sW, sI 1, sI 1, sU] [(.long ((p1.toInt64) * (p2.toInt64)))] _
    refine XS.iloadN X7.here hx rfl (hb hby at_57) rfl ?_
    show own_S p e below T7 m 58 #[sI p1, sI p2, sJ (p1.toInt64), sW, sJ ((p1.toInt64) * (p2.toInt64)), sW, sJ ((p1.toInt64) * (p2.toInt64)), sW, sI 1, sI 1, sU] [(.int p2), (.long ((p1.toInt64) * (p2.toInt64)))] _
    refine XS.i2l X7.here hx rfl (hb hby at_58) rfl ?_
    show own_S p e below T7 m 59 #[sI p1, sI p2, sJ (p1.toInt64), sW, sJ ((p1.toInt64) * (p2.toInt64)), sW, sJ ((p1.toInt64) * (p2.toInt64)), sW, sI 1, sI 1, sU] [(.long (p2.toInt64)), (.long ((p1.toInt64) * (p2.toInt64)))] _
    refine XS.lloadN X7.here hx rfl (hb hby at_59) rfl ?_
    show own_S p e below T7 m 60 #[sI p1, sI p2, sJ (p1.toInt64), sW, sJ ((p1.toInt64) * (p2.toInt64)), sW, sJ ((p1.toInt64) * (p2.toInt64)), sW, sI 1, sI 1, sU] [(.long (p1.toInt64)), (.long (p2.toInt64)), (.long ((p1.toInt64) * (p2.toInt64)))] _
    refine XS.lmul X7.here hx rfl (hb hby at_60) rfl ?_
    show own_S p e below T7 m 61 #[sI p1, sI p2, sJ (p1.toInt64), sW, sJ ((p1.toInt64) * (p2.toInt64)), sW, sJ ((p1.toInt64) * (p2.toInt64)), sW, sI 1, sI 1, sU] [(.long ((p2.toInt64) * (p1.toInt64))), (.long ((p1.toInt64) * (p2.toInt64)))] _
    refine XS.lcmp X7.here hx rfl (hb hby at_61) rfl ?_
    exact k)
  have hc13 : ((p1.toInt64) * (p2.toInt64)) = ((p2.toInt64) * (p1.toInt64)) := Int64.mul_comm _ _
  have pre14 : ∀ t, own_S p e below T7 m 92 #[sI p1, sI p2, sJ (p1.toInt64), sW, sJ ((p1.toInt64) * (p2.toInt64)), sW, sJ ((p1.toInt64) * (p2.toInt64)), sW, sI 1, sI 1, sI 1] [(.int 1)] t → R0 t := fun t k => pre12 t (by
    refine XS.ifNo X7.here hx rfl (hb hby at_62) rfl ((if0 _ _).trans (teq ((lw_eq _ _).mpr hc13)).2) ?_
    show own_S p e below T7 m 65 #[sI p1, sI p2, sJ (p1.toInt64), sW, sJ ((p1.toInt64) * (p2.toInt64)), sW, sJ ((p1.toInt64) * (p2.toInt64)), sW, sI 1, sI 1, sU] [] _
    refine XS.iconst X7.here hx rfl (hb hby at_65) ?_
    show own_S p e below T7 m 66 #[sI p1, sI p2, sJ (p1.toInt64), sW, sJ ((p1.toInt64) * (p2.toInt64)), sW, sJ ((p1.toInt64) * (p2.toInt64)), sW, sI 1, sI 1, sU] [(.int 1)] _
    refine XS.goto X7.here hx rfl (pc0 := 66) (pc' := 70) rfl (hb hby at_66) (by decide) (by decide) ?_
    show own_S p e below T7 m 70 #[sI p1, sI p2, sJ (p1.toInt64), sW, sJ ((p1.toInt64) * (p2.toInt64)), sW, sJ ((p1.toInt64) * (p2.toInt64)), sW, sI 1, sI 1, sU] [(.int 1)] _
    refine XS.istore X7.here hx rfl (hb hby at_70) rfl (l' := #[sI p1, sI p2, sJ (p1.toInt64), sW, sJ ((p1.toInt64) * (p2.toInt64)), sW, sJ ((p1.toInt64) * (p2.toInt64)), sW, sI 1, sI 1, sI 1]) rfl ?_
    show own_S p e below T7 m 72 #[sI p1, sI p2, sJ (p1.toInt64), sW, sJ ((p1.toInt64) * (p2.toInt64)), sW, sJ ((p1.toInt64) * (p2.toInt64)), sW, sI 1, sI 1, sI 1] [] _
    refine XS.iload X7.here hx rfl (hb hby at_72) rfl ?_
    show own_S p e below T7 m 74 #[sI p1, sI p2, sJ (p1.toInt64), sW, sJ ((p1.toInt64) * (p2.toInt64)), sW, sJ ((p1.toInt64) * (p2.toInt64)), sW, sI 1, sI 1, sI 1] [(.int 1)] _
    refine XS.ifNo X7.here hx rfl (hb hby at_74) rfl ((if0 _ _).trans (feq (by decide : ¬ ((1 : Int32) = (0 : Int32)))).1) ?_
    show own_S p e below T7 m 77 #[sI p1, sI p2, sJ (p1.toInt64), sW, sJ ((p1.toInt64) * (p2.toInt64)), sW, sJ ((p1.toInt64) * (p2.toInt64)), sW, sI 1, sI 1, sI 1] [] _
    refine XS.iload X7.here hx rfl (hb hby at_77) rfl ?_
    show own_S p e below T7 m 79 #[sI p1, sI p2, sJ (p1.toInt64), sW, sJ ((p1.toInt64) * (p2.toInt64)), sW, sJ ((p1.toInt64) * (p2.toInt64)), sW, sI 1, sI 1, sI 1] [(.int 1)] _
    refine XS.ifNo X7.here hx rfl (hb hby at_79) rfl ((if0 _ _).trans (feq (by decide : ¬ ((1 : Int32) = (0 : Int32)))).1) ?_
    show own_S p e below T7 m 82 #[sI p1, sI p2, sJ (p1.toInt64), sW, sJ ((p1.toInt64) * (p2.toInt64)), sW, sJ ((p1.toInt64) * (p2.toInt64)), sW, sI 1, sI 1, sI 1] [] _
    refine XS.iload X7.here hx rfl (hb hby at_82) rfl ?_
    show own_S p e below T7 m 84 #[sI p1, sI p2, sJ (p1.toInt64), sW, sJ ((p1.toInt64) * (p2.toInt64)), sW, sJ ((p1.toInt64) * (p2.toInt64)), sW, sI 1, sI 1, sI 1] [(.int 1)] _
    refine XS.ifNo X7.here hx rfl (hb hby at_84) rfl ((if0 _ _).trans (feq (by decide : ¬ ((1 : Int32) = (0 : Int32)))).1) ?_
    show own_S p e below T7 m 87 #[sI p1, sI p2, sJ (p1.toInt64), sW, sJ ((p1.toInt64) * (p2.toInt64)), sW, sJ ((p1.toInt64) * (p2.toInt64)), sW, sI 1, sI 1, sI 1] [] _
    refine XS.iconst X7.here hx rfl (hb hby at_87) ?_
    show own_S p e below T7 m 88 #[sI p1, sI p2, sJ (p1.toInt64), sW, sJ ((p1.toInt64) * (p2.toInt64)), sW, sJ ((p1.toInt64) * (p2.toInt64)), sW, sI 1, sI 1, sI 1] [(.int 1)] _
    refine XS.goto X7.here hx rfl (pc0 := 88) (pc' := 92) rfl (hb hby at_88) (by decide) (by decide) ?_
    exact k)
  obtain ⟨fs, hr, hrun, hended, hW, hsame⟩ := X7.leave (v := some (.int 1)) (fun h => by rw [Bd.returns] at h; cases h)
  refine ⟨_, _, cast (congrFun hR0 _) (pre14 _ (retN X7 hx (t := .boolean) Bd.returns (by simp) (hb hby at_92) hr)), hrun, hended, _, _, rfl, ?_, ⟨_, rfl⟩, hW, hsame.mono (by decide) (by decide)⟩
  show own_Q0 Z _ _ _ _ h0 n0 _ T7.heap _
  rw [eh7]
  exact ⟨rfl, N7⟩
theorem own_eq_int {t : Term} {args : Array Value} {s : State} {n : Int32} (h : (Jvm.Cond.eq t (.int n)).value args s none s [] = some true) : t.eval args s none [] s = some (.int n) := Cond.eq_int (Cond.before_iff.mpr h) rfl
set_option maxRecDepth 65536 in
set_option maxHeartbeats 40000000 in
theorem own_comes {Post : Tables → Env → Array Value → State → Outcome → State → Prop} (hpost : ∀ tb e args s v u, (limb_1_1.after args s (.returned v) u = true ∧ limb_1_2.after args s (.returned v) u = true ∧ True) → FrameEnd s (.returned v) u (Jvm.fieldLocs frame_1_writes args s ++ Jvm.arrayLocs frame_1_arrays args s ++ Jvm.staticLocs frame_1_statics s) 0 0 → Post tb e args s (.returned v) u) :
    ArmFor flags0 classFile x code maxLocals ret World_1 tables_1 room_1 Calls_1 rest_1 Pre_1 Post := by
  intro l hfl _ _ p e ha hc hk s m args below hf hA hF happ hP
  obtain ⟨hcalls, hrest, hpre⟩ := hP
  obtain ⟨-, -, -, hnamed, -, -, -, hat⟩ := (Spec.applies_iff hf).mp happ
  obtain ⟨hg, hn⟩ := and_e (Cond.before_iff.mp (show (Jvm.Cond.and given_1 narrow_1).before args s = true from hpre))
  obtain ⟨hcount, hg0⟩ := and_e hg
  obtain ⟨ha0, hg1⟩ := and_e hg0
  have ha1 := hg1
  obtain ⟨w0, w1, rfl⟩ : ∃ w0 w1 : Value, args = #[w0, w1] := by
    have hs : args.size = 2 := by simpa [Cond.value, given_1] using hcount
    obtain ⟨L⟩ := args
    match L, hs with
    | [w0, w1], _ => exact ⟨w0, w1, rfl⟩
  have hw := fun d (hd : d ∈ tables_1) => atoms_spec (ws := Jvm.Cond.code x code maxLocals ret :: tables_1) hat d (List.mem_cons_of_mem _ hd)
  have hfit : Fit s := fun {y c} hc i hi => by
    obtain ⟨ha, rfl⟩ := Array.getElem?_eq_some_iff.mp hc
    have q := List.all_eq_true.mp ((Array.all_eq_true_iff_forall_mem.mp hF) _ (Array.getElem_mem ha)) i (List.mem_range.mpr hi)
    simpa [Array.getElem?_eq_getElem hi] using q
  obtain ⟨i0, ei0⟩ := is_v ha0
  obtain rfl : w0 = (.int i0) := Option.some.inj ei0
  obtain ⟨i1, ei1⟩ := is_v ha1
  obtain rfl : w1 = (.int i1) := Option.some.inj ei1
  obtain ⟨n1, n2⟩ := and_e hn
  obtain ⟨n3, n4⟩ := and_e n2
  obtain ⟨n5, n6⟩ := and_e n4
  obtain ⟨xE, eE⟩ := exa_v n1
  obtain ⟨xB, eB⟩ := exa_v n5
  have EE := Exa.start eE n1
  have EB := Exa.start eB n5
  have TE := Sta.start eE (Or.inr ⟨(hw _ (List.mem_of_getElem? (i := 1) rfl)), (hw _ (List.mem_of_getElem? (i := 2) rfl))⟩)
  have TB := Sta.start eB (Or.inr ⟨(hw _ (List.mem_of_getElem? (i := 1) rfl)), (hw _ (List.mem_of_getElem? (i := 18) rfl))⟩)
  have FE := Fld.start ((fld_at eE).symm.trans (own_eq_int n3))
  have FB := Fld.start ((fld_at eB).symm.trans (own_eq_int n6))
  obtain ⟨n, o, h1, h2, h3, _, L, rfl, ⟨rfl, N⟩, hq⟩ := own_rm0 l s _ hw tables_1 i0 i1 xE xB s.heap s.heap.size (Nat.le_refl _) EE EB FE FB TE TB p e ha hc hk s m _ below hf ((Spec.applies_iff_loose hf).mp happ).1 ⟨rfl, State.Warmed39.refl s, rfl⟩ trivial
  refine ⟨n, _, h1, h2, h3, hpost _ _ _ _ _ _ ⟨Cond.after_iff.mpr rfl, Cond.after_iff.mpr (eq_i res_at (Term.int_eval (1)) rfl), trivial⟩ ⟨hq.1, hq.2.1, (hq.2.2.sift fun y hy => Or.inr (N y hy)).mono (by decide) (by decide)⟩⟩
theorem main_1_1 : Claimed_1_1 := own_comes fun _ _ _ _ _ _ h hF => ⟨h.1, hF⟩
theorem main_1_2 : Claimed_1_2 := own_comes fun _ _ _ _ _ _ h hF => ⟨h.2.1, hF⟩
end Jvm.Pilot.@@N@@
namespace Jvm.Pilot.@@N@@
open Jvm Jvm.ClassFile Sem Op Lib Jvm.Free Jvm.Stand Jvm.Pilot.@@N@@.Jvm.D
/-! MADE BY PROGRAM (witnessworld.py) out of the Statement's table words and the real class files: 12 classes; the members and pool entries that the words name. The judged class is class 1, her method 1. -/
namespace start1
open Jvm.ClassFile
def u (s : String) : CpInfo := .utf8 (stringToUtf16 s)
/-- a pool by its gaps: so many unusable entries, then the entry; so many at the end -/
def gap : Nat → List CpInfo → List CpInfo
  | 0, r => r
  | n + 1, r => .unusable :: gap n r
def poolList (es : List (Nat × CpInfo)) (last : Nat) : List CpInfo := es.foldr (fun e r => gap e.1 (e.2 :: r)) (gap last [])
def pool (es : List (Nat × CpInfo)) (last : Nat) : Array CpInfo := ⟨poolList es last⟩
def fileOf (pool : Array CpInfo) (this : Nat) (attrs : Array Attribute := #[]) (ms : Array MethodInfo := #[]) (fl : Nat := 33) (sup : Nat := 0) (ifs : Array Nat := #[]) (fds : Array FieldInfo := #[]) : ClassFile where
  minorVersion := 0
  majorVersion := 65
  constantPool := pool
  accessFlags := fl
  thisClass := this
  superClass := sup
  interfaces := ifs
  fields := fds
  methods := ms
  attributes := attrs
def plain (name : String) (sup : Option ClassId) : Class where
  name := name
  kind := .ordinary
  loader := none
  accessFlags := 33
  super := sup
  interfaces := #[]
  cf := none
  fields := #[]
  methods := #[]
  instanceTypes := #[]
  staticTypes := #[]
  resolved := #[]
  callSites := []
  init := .initialized
  statics := none
  mirror := none

def pool0 : Array CpInfo := pool [(5, u "<init>"), (0, u "()V"), (1, .class_ 10), (1, u "java/lang/Object")] 113

def k0m0 : Method := { name := "<init>", desc := "()V", sig := { parameters := [], returnType := none }, accessFlags := 1, code := none }
/-- java/lang/Object -/
def k0 : Class := { plain "java/lang/Object" none with
  accessFlags := 33
  interfaces := #[]
  cf := some (fileOf pool0 8 #[] #[{ accessFlags := 1, nameIndex := 5, descriptorIndex := 6, attributes := #[] }] 33 0 #[] #[])
  fields := #[]
  methods := #[k0m0]
  instanceTypes := #[]
  staticTypes := #[]
  resolved := Array.replicate 124 none
  statics := none }

def pool1 : Array CpInfo := pool [(2, .class_ 4), (1, u "java/lang/Object"), (0, u "<init>"), (0, u "()V"), (0, .fieldref 8 9), (0, .class_ 10), (0, .nameAndType 11 12), (0, u "com/example/murmuration/murmuration/bench/ArrayBench$Layout"), (0, u "ELEMENTS"), (0, u "Lcom/example/murmuration/murmuration/bench/ArrayBench$Layout;"), (0, .methodref 8 14), (0, .nameAndType 15 16), (0, u "length"), (0, u "(II)J"), (0, .fieldref 8 18), (0, .nameAndType 19 12), (0, u "BLOCKS"), (0, .class_ 21), (0, u "com/example/murmuration/murmuration/bench/LayoutLengthPinLaw"), (2, u "law"), (0, u "(II)Z")] 7

def k1m0 : Method := { name := "<init>", desc := "()V", sig := { parameters := [], returnType := none }, accessFlags := 1, code := none }
def k1c1 : Code := { maxStack := 6, maxLocals := 11, code := code, exceptionTable := #[], attributes := #[] }
def k1m1 : Method := { name := "law", desc := "(II)Z", sig := { parameters := [.int, .int], returnType := some .boolean }, accessFlags := 9, code := some k1c1 }
/-- com/example/murmuration/murmuration/bench/LayoutLengthPinLaw -/
def k1 : Class := { plain "com/example/murmuration/murmuration/bench/LayoutLengthPinLaw" (some 0) with
  accessFlags := 49
  interfaces := #[]
  cf := some (fileOf pool1 20 #[] #[{ accessFlags := 1, nameIndex := 5, descriptorIndex := 6, attributes := #[] }, { accessFlags := 9, nameIndex := 24, descriptorIndex := 25, attributes := #[] }] 49 2 #[] #[])
  fields := #[]
  methods := #[k1m0, k1m1]
  instanceTypes := #[]
  staticTypes := #[]
  resolved := Array.replicate 33 none
  statics := none }

def pool2 : Array CpInfo := pool [(1, .class_ 2), (0, u "java/lang/constant/Constable"), (0, .class_ 4), (0, u "java/lang/Object")] 6

/-- java/lang/constant/Constable -/
def k2 : Class := { plain "java/lang/constant/Constable" (some 0) with
  accessFlags := 1537
  interfaces := #[]
  cf := some (fileOf pool2 1 #[] #[] 1537 3 #[] #[])
  fields := #[]
  methods := #[]
  instanceTypes := #[]
  staticTypes := #[]
  resolved := Array.replicate 11 none
  statics := none }

def pool3 : Array CpInfo := pool [(1, .class_ 2), (0, u "java/lang/Comparable"), (0, .class_ 4), (0, u "java/lang/Object")] 7

/-- java/lang/Comparable -/
def k3 : Class := { plain "java/lang/Comparable" (some 0) with
  accessFlags := 1537
  interfaces := #[]
  cf := some (fileOf pool3 1 #[] #[] 1537 3 #[] #[])
  fields := #[]
  methods := #[]
  instanceTypes := #[]
  staticTypes := #[]
  resolved := Array.replicate 12 none
  statics := none }

def pool4 : Array CpInfo := pool [(1, .class_ 2), (0, u "java/io/Serializable"), (0, .class_ 4), (0, u "java/lang/Object")] 2

/-- java/io/Serializable -/
def k4 : Class := { plain "java/io/Serializable" (some 0) with
  accessFlags := 1537
  interfaces := #[]
  cf := some (fileOf pool4 1 #[] #[] 1537 3 #[] #[])
  fields := #[]
  methods := #[]
  instanceTypes := #[]
  staticTypes := #[]
  resolved := Array.replicate 7 none
  statics := none }

def pool5 : Array CpInfo := pool [(2, .class_ 4), (1, u "java/lang/Enum"), (0, u "name"), (0, u "Ljava/lang/String;"), (0, .fieldref 2 8), (0, .nameAndType 9 10), (0, u "ordinal"), (0, u "I"), (1, .class_ 14), (1, u "java/lang/Object"), (4, u "hash"), (86, .class_ 108), (1, u "java/lang/Enum$EnumDesc"), (2, .class_ 112), (0, u "java/lang/constant/Constable"), (0, .class_ 114), (0, u "java/lang/Comparable"), (0, .class_ 116), (0, u "java/io/Serializable"), (9, u "()I")] 77

def k5c0 : Code := { maxStack := 1, maxLocals := 1, code := jdk_37_method_2_code, exceptionTable := #[], attributes := #[] }
def k5m0 : Method := { name := "ordinal", desc := "()I", sig := { parameters := [], returnType := some .int }, accessFlags := 17, code := some k5c0 }
/-- java/lang/Enum -/
def k5 : Class := { plain "java/lang/Enum" (some 0) with
  accessFlags := 1057
  interfaces := #[2, 3, 4]
  cf := some (fileOf pool5 2 #[.nestMembers #[106]] #[{ accessFlags := 17, nameIndex := 9, descriptorIndex := 126, attributes := #[] }] 1057 12 #[111, 113, 115] #[{ accessFlags := 18, nameIndex := 5, descriptorIndex := 6, attributes := #[] }, { accessFlags := 18, nameIndex := 9, descriptorIndex := 10, attributes := #[] }, { accessFlags := 2, nameIndex := 19, descriptorIndex := 10, attributes := #[] }])
  fields := #[{ name := "name", type := (.object "java/lang/String"), accessFlags := 18, slot := 0, constantValue := 0 }, { name := "ordinal", type := .int, accessFlags := 18, slot := 1, constantValue := 0 }, { name := "hash", type := .int, accessFlags := 2, slot := 2, constantValue := 0 }]
  methods := #[k5m0]
  instanceTypes := #[(.object "java/lang/String"), .int, .int]
  staticTypes := #[]
  resolved := Array.replicate 204 none
  statics := none }

def pool6 : Array CpInfo := pool [(1, .class_ 2), (0, u "com/example/murmuration/murmuration/bench/ArrayBench$Layout"), (2, u "ELEMENTS"), (0, u "Lcom/example/murmuration/murmuration/bench/ArrayBench$Layout;"), (2, u "BLOCKS"), (2, u "$VALUES"), (0, u "[Lcom/example/murmuration/murmuration/bench/ArrayBench$Layout;"), (6, .class_ 22), (1, u "java/lang/Enum"), (6, .methodref 1 30), (0, .nameAndType 31 32), (0, u "ordinal"), (0, u "()I"), (11, u "length"), (0, u "(II)J"), (22, .class_ 69), (0, u "com/example/murmuration/murmuration/bench/ArrayBench")] 2

def k6c0 : Code := { maxStack := 4, maxLocals := 3, code := prog_6_method_4_code, exceptionTable := #[], attributes := #[] }
def k6m0 : Method := { name := "length", desc := "(II)J", sig := { parameters := [.int, .int], returnType := some .long }, accessFlags := 0, code := some k6c0 }
/-- com/example/murmuration/murmuration/bench/ArrayBench$Layout -/
def k6 : Class := { plain "com/example/murmuration/murmuration/bench/ArrayBench$Layout" (some 5) with
  accessFlags := 16433
  interfaces := #[]
  cf := some (fileOf pool6 1 #[.nestHost 68] #[{ accessFlags := 0, nameIndex := 44, descriptorIndex := 45, attributes := #[] }] 16433 20 #[] #[{ accessFlags := 16409, nameIndex := 5, descriptorIndex := 6, attributes := #[] }, { accessFlags := 16409, nameIndex := 9, descriptorIndex := 6, attributes := #[] }, { accessFlags := 4122, nameIndex := 12, descriptorIndex := 13, attributes := #[] }])
  fields := #[{ name := "ELEMENTS", type := (.object "com/example/murmuration/murmuration/bench/ArrayBench$Layout"), accessFlags := 16409, slot := 0, constantValue := 0 }, { name := "BLOCKS", type := (.object "com/example/murmuration/murmuration/bench/ArrayBench$Layout"), accessFlags := 16409, slot := 1, constantValue := 0 }, { name := "$VALUES", type := (.array (.object "com/example/murmuration/murmuration/bench/ArrayBench$Layout")), accessFlags := 4122, slot := 2, constantValue := 0 }]
  methods := #[k6m0]
  instanceTypes := #[(.object "java/lang/String"), .int, .int]
  staticTypes := #[(.object "com/example/murmuration/murmuration/bench/ArrayBench$Layout"), (.object "com/example/murmuration/murmuration/bench/ArrayBench$Layout"), (.array (.object "com/example/murmuration/murmuration/bench/ArrayBench$Layout"))]
  resolved := Array.replicate 72 none
  statics := some 0 }

def pool7 : Array CpInfo := pool [(1, u "java/lang/Cloneable"), (0, .class_ 1), (0, u "java/lang/Object"), (0, .class_ 3)] 3

/-- java/lang/Cloneable -/
def k7 : Class := { plain "java/lang/Cloneable" (some 0) with
  accessFlags := 1537
  interfaces := #[]
  cf := some (fileOf pool7 2 #[] #[] 1537 4 #[] #[])
  fields := #[]
  methods := #[]
  instanceTypes := #[]
  staticTypes := #[]
  resolved := Array.replicate 8 none
  statics := none }

/-- the primitive byte -/
def k8 : Class := { plain "byte" none with kind := .primitive 'B', accessFlags := 0x411 }
/-- [B -/
def k9 : Class := { plain "[B" (some 0) with kind := .array 8 .byte, interfaces := #[7, 4], accessFlags := 1041 }

/-- the primitive int -/
def k10 : Class := { plain "int" none with kind := .primitive 'I', accessFlags := 0x411 }
/-- [I -/
def k11 : Class := { plain "[I" (some 0) with kind := .array 10 .int, interfaces := #[7, 4], accessFlags := 1041 }

def heap : Heap := #[{ cls := 6, slots := #[.ref 1, .ref 2, .null], vm := .statics 6 },
  { cls := 6, slots := #[.null, .int 0, .int 0], vm := .none },
  { cls := 6, slots := #[.null, .int 1, .int 0], vm := .none }]
def classes : Array Class := #[k0, k1, k2, k3, k4, k5, k6, k7, k8, k9, k10, k11]
def interned : List (Array UInt16 × Addr) := []
def slotsUsed : Nat := 9
def theMethod : MethodId := ⟨1, 1⟩
def args0 : Array Value := #[.int 5, .int 6]
def aboutOver (below : List Frame) : State where
  vm := { classes := classes, interned := interned.toArray }
  heap := heap
  slotsUsed := slotsUsed
  threads := #[{ frames := .invoking theMethod args0 :: below }]
def below0 : List Frame := [.native { method := ⟨0, 0⟩, args := #[] }]
def about1 : State := aboutOver below0
def p0 : Program := .bare "" "" ""
def e0 : Env := launch0.env 0 0 0
theorem w_frames : about1.frames = Frame.invoking theMethod args0 :: below0 := rfl
set_option maxRecDepth 65536 in
theorem w_args : argsFit about1.vm theMethod args0 = true := by decide +kernel
set_option maxRecDepth 65536 in
theorem w_heap : heapFits about1 = true := by decide +kernel
set_option maxRecDepth 65536 in
theorem w_runnable : about1.curStatus? = some .runnable := by decide +kernel
set_option maxRecDepth 65536 in
theorem w_alone : about1.alone = true := by decide +kernel
set_option maxRecDepth 65536 in
theorem w_named : about1.methodNamed? x = some theMethod := by decide +kernel
set_option maxRecDepth 65536 in
theorem w_hears : about1.hears theMethod below0 = true := by decide +kernel
set_option maxRecDepth 65536 in
theorem w_ripe : about1.ripe theMethod args0 below0 = true := by decide +kernel
theorem w_running : about1.status = .running := rfl
set_option maxRecDepth 65536 in
theorem w_room : about1.hasRoom e0.platform room_1 = true :=
  launch0.hasRoom_least _ room_1 (by decide +kernel) (by decide +kernel) (by decide +kernel) (by decide +kernel) (by decide +kernel) (by decide +kernel)
theorem allAtoms_all (ts : List Jvm.Cond) (a : Array Jvm.Value) (st : Jvm.State) : (allAtoms ts).before a st = ts.all (fun c => c.before a st) := by
  induction ts with
  | nil => rfl
  | cons c t ih =>
    show (Jvm.Cond.and c (allAtoms t)).before a st = _
    rw [Jvm.Cond.before_and, ih, List.all_cons]
def words1 : List Jvm.Cond := Jvm.Cond.code x code maxLocals ret :: tables_1
/-- a 'code' word, met by the world's own term for the bytes: nothing is compared byte by byte -/
theorem code_word {y : MethodName} {bytes : ByteArray} {mx : Nat} {rt : Option FieldType} {a : Array Value} {s : State} {m : MethodId} {meth : Method} {c : Code} (h1 : s.methodNamed? y = some m) (h2 : s.vm.method? m = some meth) (h3 : meth.code = some c) (h4 : c.code = bytes)
    (h5 : (c.maxLocals == mx && c.exceptionTable.isEmpty && decide (c.maxStack ≤ mostOperands) && decide (meth.sig.returnType = rt) && !meth.locks && decide (parseMethodDescriptor y.desc = some meth.sig)) = true) : (Jvm.Cond.code y bytes mx rt).before a s = true := by
  simp only [Bool.and_eq_true, beq_iff_eq, Bool.not_eq_true', decide_eq_true_eq] at h5
  obtain ⟨⟨⟨⟨⟨g1, g2⟩, g3⟩, g4⟩, g5⟩, g6⟩ := h5
  simp [Cond.before, Cond.holds, Cond.value, h1, h2, h3, h4, g1, g2, g3, g4, g5, g6]
def isCode : Jvm.Cond → Bool
  | .code _ _ _ _ => true
  | _ => false
theorem all_split {L : List Jvm.Cond} {P : Jvm.Cond → Bool} (h1 : L.all (fun c => isCode c || P c) = true) (h2 : ∀ c ∈ L.filter isCode, P c = true) : L.all P = true := by
  refine List.all_eq_true.mpr fun c hc => ?_
  have h := List.all_eq_true.mp h1 c hc
  rcases Bool.eq_false_or_eq_true (isCode c) with hi | hi
  · exact h2 c (List.mem_filter.mpr ⟨hc, hi⟩)
  · simpa [hi] using h
set_option maxRecDepth 65536 in
theorem w_c0 : (Jvm.Cond.code x code maxLocals ret).before args0 about1 = true := code_word (m := ⟨1, 1⟩) (meth := k1m1) (c := k1c1) (by decide +kernel) rfl rfl rfl (by decide +kernel)
set_option maxRecDepth 65536 in
theorem w_c1 : (Jvm.Cond.code ({ cls := "com/example/murmuration/murmuration/bench/ArrayBench$Layout", name := "length", desc := "(II)J" } : Jvm.MethodName) prog_6_method_4_code (3 : Nat) (Option.some Jvm.ClassFile.FieldType.long)).before args0 about1 = true := code_word (m := ⟨6, 0⟩) (meth := k6m0) (c := k6c0) (by decide +kernel) rfl rfl rfl (by decide +kernel)
set_option maxRecDepth 65536 in
theorem w_c2 : (Jvm.Cond.code ({ cls := "java/lang/Enum", name := "ordinal", desc := "()I" } : Jvm.MethodName) jdk_37_method_2_code (1 : Nat) (Option.some Jvm.ClassFile.FieldType.int)).before args0 about1 = true := code_word (m := ⟨5, 0⟩) (meth := k5m0) (c := k5c0) (by decide +kernel) rfl rfl rfl (by decide +kernel)
def codes1 : List Jvm.Cond := [Jvm.Cond.code x code maxLocals ret, Jvm.Cond.code ({ cls := "com/example/murmuration/murmuration/bench/ArrayBench$Layout", name := "length", desc := "(II)J" } : Jvm.MethodName) prog_6_method_4_code (3 : Nat) (Option.some Jvm.ClassFile.FieldType.long), Jvm.Cond.code ({ cls := "java/lang/Enum", name := "ordinal", desc := "()I" } : Jvm.MethodName) jdk_37_method_2_code (1 : Nat) (Option.some Jvm.ClassFile.FieldType.int)]
set_option maxRecDepth 65536 in
theorem codes_eq : words1.filter isCode = codes1 := rfl
theorem w_codes : ∀ c ∈ words1.filter isCode, c.before args0 about1 = true := by
  rw [codes_eq]
  intro c hc
  simp only [codes1, List.mem_cons, List.not_mem_nil, or_false] at hc
  rcases hc with rfl | rfl | rfl
  · exact w_c0
  · exact w_c1
  · exact w_c2
set_option maxRecDepth 65536 in
theorem w_t1 : words1.all (fun c => isCode c || c.before args0 about1) = true := by decide +kernel
theorem w_tables : (allAtoms (Jvm.Cond.code x code maxLocals ret :: tables_1)).before args0 about1 = true := by
  rw [allAtoms_all]
  show words1.all (fun c => c.before args0 about1) = true
  refine all_split ?_ w_codes
  rw [w_t1]
set_option maxRecDepth 65536 in
theorem w_case : (Jvm.Cond.and given_1 narrow_1).before args0 about1 = true := by decide +kernel
theorem w_applies : (headSpec (Jvm.Cond.code x code maxLocals ret :: tables_1) room_1).applies x e0.platform about1 = true :=
  (Spec.applies_iff w_frames).mpr ⟨w_running, w_runnable, w_alone, w_named, w_hears, w_ripe, w_room, w_tables⟩
theorem atStart : AtStart classFile x code maxLocals ret World_1 tables_1 room_1 Calls_1 rest_1 Pre_1 launch0 p0 e0 about1 theMethod args0 below0 :=
  ⟨lists_1, trivial, launch0.admits_env _ _ _, launch0.least_env, fairChoices_fair.cas, fairChoices_fair.clock, w_frames, w_args, w_heap, w_applies, trivial, trivial, w_case⟩
end start1
theorem witness_1 : WitnessClaimed_1 := ⟨start1.p0, start1.e0, start1.about1, start1.theMethod, start1.args0, start1.below0, start1.atStart⟩
end Jvm.Pilot.@@N@@
