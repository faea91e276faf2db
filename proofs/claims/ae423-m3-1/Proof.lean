import JvmDerived
import JvmDerived.Pilot.@@N@@Statement
import JvmDerived.Pilot.@@N@@Code
set_option linter.unusedVariables false
set_option linter.unusedSimpArgs false
namespace Jvm.Pilot.@@N@@
open Jvm Jvm.ClassFile Sem Op Lib Jvm.Free Jvm.Stand Jvm.LawKit Jvm.RoadKit Bundle Jvm.Pilot.@@N@@.Jvm.D
abbrev sI (x : Int32) : Slot := .val (.int x)
abbrev sJ (x : Int64) : Slot := .val (.long x)
abbrev sR (a : Addr) : Slot := .val (.ref a)
abbrev sN : Slot := .val .null
abbrev sU : Slot := .unset
abbrev sW : Slot := .second
abbrev own_S (p : Program) (e : Env) (below : List Frame) (T : State) (m : MethodId) (pc : Nat) (L : Array Slot) (S : List Value) (t : State) : Prop := Steps p.tables e below (T.setTop (mkF m pc L S)) t
theorem own_d2_0 : decode jdk_30_method_1_code 0 = .ok (.aload_n 0, 1) := by decide +kernel
theorem own_d2_1 : decode jdk_30_method_1_code 1 = .ok (.invokespecial 1, 3) := by decide +kernel
theorem own_d2_4 : decode jdk_30_method_1_code 4 = .ok (.return_, 1) := by decide +kernel
theorem own_pn_0 : plainName "java/lang/Record" = true := by first | (simp [plainName, overriddenIn]; done) | decide +kernel
theorem own_ef_2 (m : MethodId) (x0 : Addr) : entryFrame m #[(.ref x0)] 1 = mkF m 0 #[sR x0] [] := by first | (simp [entryFrame, mkF, argsToLocals, Value.category]; done) | rfl
def own_Q2 (Z : State) (a1 : Addr) (h0 : Heap) (n0 : Nat) (v : Option Value) (h : Heap) (L : List Loc) : Prop := v = none ∧ Fr n0 L ∧ h = h0
abbrev own_y0 : MethodName := ⟨"java/lang/Record", "<init>", "()V"⟩
set_option maxRecDepth 65536 in
set_option maxHeartbeats 40000000 in
theorem own_rm2 (l : Launch) (Z : State) (a0 : Array Value) (hw : ∀ d ∈ tables_1, d.before a0 Z = true) (ws : List Jvm.Cond) (a1 : Addr) (h0 : Heap) (n0 : Nat) (Z0 : n0 ≤ h0.size)  :
    MetFree l own_y0 (head1 (Jvm.Cond.code own_y0 jdk_30_method_1_code 1 none :: ws) ({ frames := 1, cells := 0, slots := 0, locals := 12 } : Room)) (fun a U => a = #[(.ref a1)] ∧ Z.Warmed39 U.vm ∧ U.heap = h0) (fun _ _ _ _ _ => True) (fun _ U o U' => ∃ v L, o = .returned v ∧ own_Q2 Z a1 h0 n0 v U'.heap L ∧ FrameEnd U o U' L ({ frames := 1, cells := 0, slots := 0, locals := 12 } : Room).cells ({ frames := 1, cells := 0, slots := 0, locals := 12 } : Room).slots) := by
  refine MetFree.of_bodySF (plainFor_of_name own_pn_0) hisR ?_
  intro p e s m args below meth c s₁ Bd hml0 hP hK
  obtain ⟨rfl, hZ, hh⟩ := hP
  have hw11 := hw _ (List.mem_of_getElem? (i := 11) rfl)
  have hw12 := hw _ (List.mem_of_getElem? (i := 12) rfl)
  have hw13 := hw _ (List.mem_of_getElem? (i := 13) rfl)
  have hx := Bd.exec
  have hby := Bd.bytes
  have hml : c.maxLocals = 1 := hml0
  have hown : s.vm.findClass "java/lang/Record" = some m.cls := findClass_of_methodNamed Bd.named
  have hnm := (name_of_methodNamed Bd.named Bd.method).1
  have X0 : Stand p l e ({ frames := 1, cells := 0, slots := 0, locals := 12 } : Room) s m #[(.ref a1)] below meth c s₁ [] 0 0 := Stand.of_body Bd
  have e0 : s₁.heap = h0 := by rw [← hh, Bd.state]; rfl
  have N0 := Fr.nil n0
  obtain ⟨R0, hR0⟩ : ∃ R : State → Prop, R = fun t => Steps p.tables e below (s₁.setTop (entryFrame m #[(.ref a1)] 1)) t := ⟨_, rfl⟩
  have pre0 : ∀ t, Steps p.tables e below (s₁.setTop (mkF m 0 #[sR a1] [])) t → R0 t := fun t k => by rw [hR0]; exact castTop (own_ef_2 m a1) k
  have pre1 : ∀ t, own_S p e below s₁ m 1 #[sR a1] [(.ref a1)] t → R0 t := fun t k => pre0 t (by
    refine XS.aloadN X0.here hx rfl (hb hby own_d2_0) rfl rfl ?_
    exact k)
  obtain ⟨T2, X2, e2, st2⟩ := initO X0 hx hZ hown hw11 hw12 hw13 e0 (g := (mkF m 1 #[sR a1] [(.ref a1)])) rfl (by rw [hml]; rfl) rfl (hb hby own_d2_1) (by decide) (W := 0) (by show 2 * 0 + _ ≤ _; exact Nat.le_of_eq rfl) (by decide)
  have pre3 : ∀ t, own_S p e below T2 m 4 #[sR a1] [] t → R0 t := fun t k => pre1 t (by
    refine st2 _ ?_
    exact k)
  obtain ⟨fs, hr, hrun, hended, hW, hsame⟩ := X2.leave (v := none) (fun _ => rfl)
  refine ⟨_, _, cast (congrFun hR0 _) (pre3 _ (X2.returnOut hx Bd.returns (hb hby own_d2_4) hr)), hrun, hended, _, _, rfl, ?_, ⟨_, rfl⟩, hW, hsame.mono (by decide) (by decide)⟩
  show own_Q2 Z _ h0 n0 _ T2.heap _
  rw [e2]
  exact ⟨rfl, N0, rfl⟩
theorem own_pd_0 : parseMethodDescriptor "()V" = some ⟨[], none⟩ := by decide +kernel
theorem own_d1_0 : decode prog_22_method_1_code 0 = .ok (.aload_n 0, 1) := by decide +kernel
theorem own_d1_1 : decode prog_22_method_1_code 1 = .ok (.invokespecial 1, 3) := by decide +kernel
theorem own_d1_4 : decode prog_22_method_1_code 4 = .ok (.aload_n 0, 1) := by decide +kernel
theorem own_d1_5 : decode prog_22_method_1_code 5 = .ok (.iload_n 1, 1) := by decide +kernel
theorem own_d1_6 : decode prog_22_method_1_code 6 = .ok (.putfield 7, 3) := by decide +kernel
theorem own_d1_9 : decode prog_22_method_1_code 9 = .ok (.aload_n 0, 1) := by decide +kernel
theorem own_d1_10 : decode prog_22_method_1_code 10 = .ok (.iload_n 2, 1) := by decide +kernel
theorem own_d1_11 : decode prog_22_method_1_code 11 = .ok (.putfield 13, 3) := by decide +kernel
theorem own_d1_14 : decode prog_22_method_1_code 14 = .ok (.return_, 1) := by decide +kernel
theorem own_pn_1 : plainName "com/example/tablier/tablier/arena/Result" = true := by first | (simp [plainName, overriddenIn]; done) | decide +kernel
theorem own_ef_1k0 (m : MethodId) (x0 : Addr) (x1 : Int32) (x2 : Int32) : entryFrame m #[(.ref x0), (.int x1), (.int x2)] 3 = mkF m 0 #[sR x0, sI x1, sI x2] [] := by first | (simp [entryFrame, mkF, argsToLocals, Value.category]; done) | rfl
def own_Q1k0 (Z : State) (a1 : Addr) (p2 : Int32) (u1 : Value) (u2 : Value) (h0 : Heap) (n0 : Nat) (v : Option Value) (h : Heap) (L : List Loc) : Prop := v = none ∧ Fr n0 L ∧ Keep h0 h [a1] ∧ Exa Z h a1 "com/example/tablier/tablier/arena/Result" ∧ Fld Z h a1 "com/example/tablier/tablier/arena/Result" "winner" "I" (.int p2) ∧ Fld Z h a1 "com/example/tablier/tablier/arena/Result" "byDisqualification" "Z" (.int 0)
abbrev own_y1 : MethodName := ⟨"com/example/tablier/tablier/arena/Result", "<init>", "(IZ)V"⟩
set_option maxRecDepth 65536 in
set_option maxHeartbeats 40000000 in
theorem own_rm1k0 (l : Launch) (Z : State) (a0 : Array Value) (hw : ∀ d ∈ tables_1, d.before a0 Z = true) (ws : List Jvm.Cond) (a1 : Addr) (p2 : Int32) (u1 : Value) (u2 : Value) (h0 : Heap) (n0 : Nat) (Z0 : n0 ≤ h0.size) (E_a1 : Exa Z h0 a1 "com/example/tablier/tablier/arena/Result") (F_winner_a1 : Fld Z h0 a1 "com/example/tablier/tablier/arena/Result" "winner" "I" u1) (F_byDisqualification_a1 : Fld Z h0 a1 "com/example/tablier/tablier/arena/Result" "byDisqualification" "Z" u2) (g_a1 : n0 ≤ a1) :
    MetFree l own_y1 (head1 (Jvm.Cond.code own_y1 prog_22_method_1_code 3 none :: ws) ({ frames := 2, cells := 0, slots := 0, locals := 24 } : Room)) (fun a U => a = #[(.ref a1), (.int p2), (.int 0)] ∧ Z.Warmed39 U.vm ∧ U.heap = h0) (fun _ _ _ _ _ => True) (fun _ U o U' => ∃ v L, o = .returned v ∧ own_Q1k0 Z a1 p2 u1 u2 h0 n0 v U'.heap L ∧ FrameEnd U o U' L ({ frames := 2, cells := 0, slots := 0, locals := 24 } : Room).cells ({ frames := 2, cells := 0, slots := 0, locals := 24 } : Room).slots) := by
  refine MetFree.of_bodySF (plainFor_of_name own_pn_1) hisR ?_
  intro p e s m args below meth c s₁ Bd hml0 hP hK
  obtain ⟨rfl, hZ, hh⟩ := hP
  have hw1 := hw _ (List.mem_of_getElem? (i := 1) rfl)
  have hw6 := hw _ (List.mem_of_getElem? (i := 6) rfl)
  have hw7 := hw _ (List.mem_of_getElem? (i := 7) rfl)
  have hw9 := hw _ (List.mem_of_getElem? (i := 9) rfl)
  have hw10 := hw _ (List.mem_of_getElem? (i := 10) rfl)
  have hw14 := hw _ (List.mem_of_getElem? (i := 14) rfl)
  have hw15 := hw _ (List.mem_of_getElem? (i := 15) rfl)
  have hw16 := hw _ (List.mem_of_getElem? (i := 16) rfl)
  have hw17 := hw _ (List.mem_of_getElem? (i := 17) rfl)
  have hx := Bd.exec
  have hby := Bd.bytes
  have hml : c.maxLocals = 3 := hml0
  have hown : s.vm.findClass "com/example/tablier/tablier/arena/Result" = some m.cls := findClass_of_methodNamed Bd.named
  have hnm := (name_of_methodNamed Bd.named Bd.method).1
  have X0 : Stand p l e ({ frames := 2, cells := 0, slots := 0, locals := 24 } : Room) s m #[(.ref a1), (.int p2), (.int 0)] below meth c s₁ [] 0 0 := Stand.of_body Bd
  have e0 : s₁.heap = h0 := by rw [← hh, Bd.state]; rfl
  have N0 := Fr.nil n0
  obtain ⟨R0, hR0⟩ : ∃ R : State → Prop, R = fun t => Steps p.tables e below (s₁.setTop (entryFrame m #[(.ref a1), (.int p2), (.int 0)] 3)) t := ⟨_, rfl⟩
  have pre0 : ∀ t, Steps p.tables e below (s₁.setTop (mkF m 0 #[sR a1, sI p2, sI 0] [])) t → R0 t := fun t k => by rw [hR0]; exact castTop (own_ef_1k0 m a1 p2 (0 : Int32)) k
  have pre1 : ∀ t, own_S p e below s₁ m 1 #[sR a1, sI p2, sI 0] [(.ref a1)] t → R0 t := fun t k => pre0 t (by
    refine XS.aloadN X0.here hx rfl (hb hby own_d1_0) rfl rfl ?_
    exact k)
  obtain ⟨_, _, ⟨T2, L2, k2, n2⟩, -, X2, ⟨Lc2, hQ2, l2, y2, z2⟩, st2⟩ := X0.specialBack hx (y := own_y0) rfl hown (mvT hZ hw6) (mvT hZ hw7) (mvT hZ hw10) (by decide) (backOf (W := 0) (own_rm2 l Z a0 hw [] a1 h0 n0 Z0 ) hZ hw10 hw9 (by decide) (by decide)) (g := (mkF m 1 #[sR a1, sI p2, sI 0] [(.ref a1)])) rfl (by rw [hml]; rfl) (Steps.refl _) (a := a1) (argsL := []) (rest := []) (lenOf own_pd_0 rfl) rfl (by show 2 * 0 + _ ≤ _; exact Nat.le_of_eq rfl) (hb hby own_d1_1) (fun _ _ => ⟨rfl, e0, (by decide : 0 + 0 ≤ _), (by decide : 0 + 0 ≤ _)⟩)
  dsimp only [Pt.U, Pt.locs, Pt.cells, Pt.slots] at X2 l2 y2 z2 st2 hQ2
  subst l2 y2 z2
  obtain ⟨rfl, N2q, eh2⟩ := hQ2
  have N2 := Fr.app N0 N2q
  have pre3 : ∀ t, own_S p e below T2 m 6 #[sR a1, sI p2, sI 0] [(.int p2), (.ref a1)] t → R0 t := fun t k => pre1 t (by
    refine st2.trans ?_
    show own_S p e below T2 m 4 #[sR a1, sI p2, sI 0] [] _
    refine XS.aloadN X2.here hx rfl (hb hby own_d1_4) rfl rfl ?_
    show own_S p e below T2 m 5 #[sR a1, sI p2, sI 0] [(.ref a1)] _
    refine XS.iloadN X2.here hx rfl (hb hby own_d1_5) rfl ?_
    exact k)
  obtain ⟨T4, h4, X4, e4, W4, st4⟩ := putF X2 hx hZ hown (host := "") (Or.inl hw14) Via.refl eh2 F_winner_a1 E_a1 (Or.inr ⟨hw15, rfl, hnm⟩) hw1 (ty := .int) (by decide) rfl rfl (g := (mkF m 6 #[sR a1, sI p2, sI 0] [(.int p2), (.ref a1)])) rfl rfl (hb hby own_d1_6)
  have f5 := Nat.le_trans Z0 (Keep.of_wr W4).1
  have f6 := E_a1.wr W4
  have f7 := F_byDisqualification_a1.other W4 (Or.inr (slot_ne (Or.inr hw17) (Or.inr hw15) (by decide) (t := .boolean) (t' := .int) (by decide) (by decide)))
  have f8 := F_winner_a1.same W4
  have N9 := Fr.snoc X4 N2 g_a1
  have K10 : Keep h0 h4 [a1] := (Keep.refl h0 [a1]).wr W4 (Or.inl (List.mem_of_getElem? (i := 0) rfl))
  have pre11 : ∀ t, own_S p e below T4 m 11 #[sR a1, sI p2, sI 0] [(.int 0), (.ref a1)] t → R0 t := fun t k => pre3 t (by
    refine st4 _ ?_
    show own_S p e below T4 m 9 #[sR a1, sI p2, sI 0] [] _
    refine XS.aloadN X4.here hx rfl (hb hby own_d1_9) rfl rfl ?_
    show own_S p e below T4 m 10 #[sR a1, sI p2, sI 0] [(.ref a1)] _
    refine XS.iloadN X4.here hx rfl (hb hby own_d1_10) rfl ?_
    exact k)
  obtain ⟨T12, h12, X12, e12, W12, st12⟩ := putFN X4 hx hZ hown hw16 Via.refl e4 f7 f6 (Or.inr ⟨hw17, rfl, hnm⟩) hw1 (ty := .boolean) (v' := (.int 0)) (by decide) rfl rfl (g := (mkF m 11 #[sR a1, sI p2, sI 0] [(.int 0), (.ref a1)])) rfl rfl (hb hby own_d1_11)
  have f13 := Nat.le_trans f5 (Keep.of_wr W12).1
  have f14 := f6.wr W12
  have f15 := f8.other W12 (Or.inr (slot_ne (Or.inr hw15) (Or.inr hw17) (by decide) (t := .int) (t' := .boolean) (by decide) (by decide)))
  have f16 := f7.same W12
  have N17 := Fr.snoc X12 N9 g_a1
  have K18 : Keep h0 h12 [a1] := K10.wr W12 (Or.inl (List.mem_of_getElem? (i := 0) rfl))
  have pre19 : ∀ t, own_S p e below T12 m 14 #[sR a1, sI p2, sI 0] [] t → R0 t := fun t k => pre11 t (by
    refine st12 _ ?_
    exact k)
  obtain ⟨fs, hr, hrun, hended, hW, hsame⟩ := X12.leave (v := none) (fun _ => rfl)
  refine ⟨_, _, cast (congrFun hR0 _) (pre19 _ (X12.returnOut hx Bd.returns (hb hby own_d1_14) hr)), hrun, hended, _, _, rfl, ?_, ⟨_, rfl⟩, hW, hsame.mono (by decide) (by decide)⟩
  show own_Q1k0 Z _ _ _ _ h0 n0 _ T12.heap _
  rw [e12]
  exact ⟨rfl, N17, K18, f14, f15, f16⟩
theorem own_ef_1k1 (m : MethodId) (x0 : Addr) (x1 : Int32) (x2 : Int32) : entryFrame m #[(.ref x0), (.int x1), (.int x2)] 3 = mkF m 0 #[sR x0, sI x1, sI x2] [] := by first | (simp [entryFrame, mkF, argsToLocals, Value.category]; done) | rfl
def own_Q1k1 (Z : State) (a1 : Addr) (p2 : Int32) (u1 : Value) (u2 : Value) (h0 : Heap) (n0 : Nat) (v : Option Value) (h : Heap) (L : List Loc) : Prop := v = none ∧ Fr n0 L ∧ Keep h0 h [a1] ∧ Exa Z h a1 "com/example/tablier/tablier/arena/Result" ∧ Fld Z h a1 "com/example/tablier/tablier/arena/Result" "winner" "I" (.int p2) ∧ Fld Z h a1 "com/example/tablier/tablier/arena/Result" "byDisqualification" "Z" (.int 1)
set_option maxRecDepth 65536 in
set_option maxHeartbeats 40000000 in
theorem own_rm1k1 (l : Launch) (Z : State) (a0 : Array Value) (hw : ∀ d ∈ tables_1, d.before a0 Z = true) (ws : List Jvm.Cond) (a1 : Addr) (p2 : Int32) (u1 : Value) (u2 : Value) (h0 : Heap) (n0 : Nat) (Z0 : n0 ≤ h0.size) (E_a1 : Exa Z h0 a1 "com/example/tablier/tablier/arena/Result") (F_winner_a1 : Fld Z h0 a1 "com/example/tablier/tablier/arena/Result" "winner" "I" u1) (F_byDisqualification_a1 : Fld Z h0 a1 "com/example/tablier/tablier/arena/Result" "byDisqualification" "Z" u2) (g_a1 : n0 ≤ a1) :
    MetFree l own_y1 (head1 (Jvm.Cond.code own_y1 prog_22_method_1_code 3 none :: ws) ({ frames := 2, cells := 0, slots := 0, locals := 24 } : Room)) (fun a U => a = #[(.ref a1), (.int p2), (.int 1)] ∧ Z.Warmed39 U.vm ∧ U.heap = h0) (fun _ _ _ _ _ => True) (fun _ U o U' => ∃ v L, o = .returned v ∧ own_Q1k1 Z a1 p2 u1 u2 h0 n0 v U'.heap L ∧ FrameEnd U o U' L ({ frames := 2, cells := 0, slots := 0, locals := 24 } : Room).cells ({ frames := 2, cells := 0, slots := 0, locals := 24 } : Room).slots) := by
  refine MetFree.of_bodySF (plainFor_of_name own_pn_1) hisR ?_
  intro p e s m args below meth c s₁ Bd hml0 hP hK
  obtain ⟨rfl, hZ, hh⟩ := hP
  have hw1 := hw _ (List.mem_of_getElem? (i := 1) rfl)
  have hw6 := hw _ (List.mem_of_getElem? (i := 6) rfl)
  have hw7 := hw _ (List.mem_of_getElem? (i := 7) rfl)
  have hw9 := hw _ (List.mem_of_getElem? (i := 9) rfl)
  have hw10 := hw _ (List.mem_of_getElem? (i := 10) rfl)
  have hw14 := hw _ (List.mem_of_getElem? (i := 14) rfl)
  have hw15 := hw _ (List.mem_of_getElem? (i := 15) rfl)
  have hw16 := hw _ (List.mem_of_getElem? (i := 16) rfl)
  have hw17 := hw _ (List.mem_of_getElem? (i := 17) rfl)
  have hx := Bd.exec
  have hby := Bd.bytes
  have hml : c.maxLocals = 3 := hml0
  have hown : s.vm.findClass "com/example/tablier/tablier/arena/Result" = some m.cls := findClass_of_methodNamed Bd.named
  have hnm := (name_of_methodNamed Bd.named Bd.method).1
  have X0 : Stand p l e ({ frames := 2, cells := 0, slots := 0, locals := 24 } : Room) s m #[(.ref a1), (.int p2), (.int 1)] below meth c s₁ [] 0 0 := Stand.of_body Bd
  have e0 : s₁.heap = h0 := by rw [← hh, Bd.state]; rfl
  have N0 := Fr.nil n0
  obtain ⟨R0, hR0⟩ : ∃ R : State → Prop, R = fun t => Steps p.tables e below (s₁.setTop (entryFrame m #[(.ref a1), (.int p2), (.int 1)] 3)) t := ⟨_, rfl⟩
  have pre0 : ∀ t, Steps p.tables e below (s₁.setTop (mkF m 0 #[sR a1, sI p2, sI 1] [])) t → R0 t := fun t k => by rw [hR0]; exact castTop (own_ef_1k1 m a1 p2 (1 : Int32)) k
  have pre1 : ∀ t, own_S p e below s₁ m 1 #[sR a1, sI p2, sI 1] [(.ref a1)] t → R0 t := fun t k => pre0 t (by
    refine XS.aloadN X0.here hx rfl (hb hby own_d1_0) rfl rfl ?_
    exact k)
  obtain ⟨_, _, ⟨T2, L2, k2, n2⟩, -, X2, ⟨Lc2, hQ2, l2, y2, z2⟩, st2⟩ := X0.specialBack hx (y := own_y0) rfl hown (mvT hZ hw6) (mvT hZ hw7) (mvT hZ hw10) (by decide) (backOf (W := 0) (own_rm2 l Z a0 hw [] a1 h0 n0 Z0 ) hZ hw10 hw9 (by decide) (by decide)) (g := (mkF m 1 #[sR a1, sI p2, sI 1] [(.ref a1)])) rfl (by rw [hml]; rfl) (Steps.refl _) (a := a1) (argsL := []) (rest := []) (lenOf own_pd_0 rfl) rfl (by show 2 * 0 + _ ≤ _; exact Nat.le_of_eq rfl) (hb hby own_d1_1) (fun _ _ => ⟨rfl, e0, (by decide : 0 + 0 ≤ _), (by decide : 0 + 0 ≤ _)⟩)
  dsimp only [Pt.U, Pt.locs, Pt.cells, Pt.slots] at X2 l2 y2 z2 st2 hQ2
  subst l2 y2 z2
  obtain ⟨rfl, N2q, eh2⟩ := hQ2
  have N2 := Fr.app N0 N2q
  have pre3 : ∀ t, own_S p e below T2 m 6 #[sR a1, sI p2, sI 1] [(.int p2), (.ref a1)] t → R0 t := fun t k => pre1 t (by
    refine st2.trans ?_
    show own_S p e below T2 m 4 #[sR a1, sI p2, sI 1] [] _
    refine XS.aloadN X2.here hx rfl (hb hby own_d1_4) rfl rfl ?_
    show own_S p e below T2 m 5 #[sR a1, sI p2, sI 1] [(.ref a1)] _
    refine XS.iloadN X2.here hx rfl (hb hby own_d1_5) rfl ?_
    exact k)
  obtain ⟨T4, h4, X4, e4, W4, st4⟩ := putF X2 hx hZ hown (host := "") (Or.inl hw14) Via.refl eh2 F_winner_a1 E_a1 (Or.inr ⟨hw15, rfl, hnm⟩) hw1 (ty := .int) (by decide) rfl rfl (g := (mkF m 6 #[sR a1, sI p2, sI 1] [(.int p2), (.ref a1)])) rfl rfl (hb hby own_d1_6)
  have f5 := Nat.le_trans Z0 (Keep.of_wr W4).1
  have f6 := E_a1.wr W4
  have f7 := F_byDisqualification_a1.other W4 (Or.inr (slot_ne (Or.inr hw17) (Or.inr hw15) (by decide) (t := .boolean) (t' := .int) (by decide) (by decide)))
  have f8 := F_winner_a1.same W4
  have N9 := Fr.snoc X4 N2 g_a1
  have K10 : Keep h0 h4 [a1] := (Keep.refl h0 [a1]).wr W4 (Or.inl (List.mem_of_getElem? (i := 0) rfl))
  have pre11 : ∀ t, own_S p e below T4 m 11 #[sR a1, sI p2, sI 1] [(.int 1), (.ref a1)] t → R0 t := fun t k => pre3 t (by
    refine st4 _ ?_
    show own_S p e below T4 m 9 #[sR a1, sI p2, sI 1] [] _
    refine XS.aloadN X4.here hx rfl (hb hby own_d1_9) rfl rfl ?_
    show own_S p e below T4 m 10 #[sR a1, sI p2, sI 1] [(.ref a1)] _
    refine XS.iloadN X4.here hx rfl (hb hby own_d1_10) rfl ?_
    exact k)
  obtain ⟨T12, h12, X12, e12, W12, st12⟩ := putFN X4 hx hZ hown hw16 Via.refl e4 f7 f6 (Or.inr ⟨hw17, rfl, hnm⟩) hw1 (ty := .boolean) (v' := (.int 1)) (by decide) rfl rfl (g := (mkF m 11 #[sR a1, sI p2, sI 1] [(.int 1), (.ref a1)])) rfl rfl (hb hby own_d1_11)
  have f13 := Nat.le_trans f5 (Keep.of_wr W12).1
  have f14 := f6.wr W12
  have f15 := f8.other W12 (Or.inr (slot_ne (Or.inr hw15) (Or.inr hw17) (by decide) (t := .int) (t' := .boolean) (by decide) (by decide)))
  have f16 := f7.same W12
  have N17 := Fr.snoc X12 N9 g_a1
  have K18 : Keep h0 h12 [a1] := K10.wr W12 (Or.inl (List.mem_of_getElem? (i := 0) rfl))
  have pre19 : ∀ t, own_S p e below T12 m 14 #[sR a1, sI p2, sI 1] [] t → R0 t := fun t k => pre11 t (by
    refine st12 _ ?_
    exact k)
  obtain ⟨fs, hr, hrun, hended, hW, hsame⟩ := X12.leave (v := none) (fun _ => rfl)
  refine ⟨_, _, cast (congrFun hR0 _) (pre19 _ (X12.returnOut hx Bd.returns (hb hby own_d1_14) hr)), hrun, hended, _, _, rfl, ?_, ⟨_, rfl⟩, hW, hsame.mono (by decide) (by decide)⟩
  show own_Q1k1 Z _ _ _ _ h0 n0 _ T12.heap _
  rw [e12]
  exact ⟨rfl, N17, K18, f14, f15, f16⟩
theorem own_d7_0 : decode jdk_42_method_66_code 0 = .ok (.aload_n 0, 1) := by decide +kernel
theorem own_d7_1 : decode jdk_42_method_66_code 1 = .ok (.aload_n 1, 1) := by decide +kernel
theorem own_d7_2 : decode jdk_42_method_66_code 2 = .ok (.if_acmp .ne 5, 3) := by decide +kernel
theorem own_d7_5 : decode jdk_42_method_66_code 5 = .ok (.iconst 1, 1) := by decide +kernel
theorem own_d7_6 : decode jdk_42_method_66_code 6 = .ok (.ireturn, 1) := by decide +kernel
theorem own_pn_2 : plainName "java/lang/String" = true := by first | (simp [plainName, overriddenIn]; done) | decide +kernel
theorem own_ef_7 (m : MethodId) (x0 : Addr) (x1 : Addr) : entryFrame m #[(.ref x0), (.ref x1)] 3 = mkF m 0 #[sR x0, sR x1, .unset] [] := by first | (simp [entryFrame, mkF, argsToLocals, Value.category]; done) | rfl
def own_Q7 (Z : State) (a1 : Addr) (h0 : Heap) (n0 : Nat) (v : Option Value) (h : Heap) (L : List Loc) : Prop := v = some (.int 1) ∧ Fr n0 L ∧ h = h0
abbrev own_y2 : MethodName := ⟨"java/lang/String", "equals", "(Ljava/lang/Object;)Z"⟩
set_option maxRecDepth 65536 in
set_option maxHeartbeats 40000000 in
theorem own_rm7 (l : Launch) (Z : State) (a0 : Array Value) (hw : ∀ d ∈ tables_1, d.before a0 Z = true) (ws : List Jvm.Cond) (a1 : Addr) (h0 : Heap) (n0 : Nat) (Z0 : n0 ≤ h0.size)  :
    MetFree l own_y2 (head1 (Jvm.Cond.code own_y2 jdk_42_method_66_code 3 (some .boolean) :: ws) ({ frames := 0, cells := 0, slots := 0, locals := 0 } : Room)) (fun a U => a = #[(.ref a1), (.ref a1)] ∧ Z.Warmed39 U.vm ∧ U.heap = h0) (fun _ _ _ _ _ => True) (fun _ U o U' => ∃ v L, o = .returned v ∧ own_Q7 Z a1 h0 n0 v U'.heap L ∧ FrameEnd U o U' L ({ frames := 0, cells := 0, slots := 0, locals := 0 } : Room).cells ({ frames := 0, cells := 0, slots := 0, locals := 0 } : Room).slots) := by
  refine MetFree.of_bodySF (plainFor_of_name own_pn_2) hisR ?_
  intro p e s m args below meth c s₁ Bd hml0 hP hK
  obtain ⟨rfl, hZ, hh⟩ := hP
  have hx := Bd.exec
  have hby := Bd.bytes
  have hml : c.maxLocals = 3 := hml0
  have hown : s.vm.findClass "java/lang/String" = some m.cls := findClass_of_methodNamed Bd.named
  have hnm := (name_of_methodNamed Bd.named Bd.method).1
  have X0 : Stand p l e ({ frames := 0, cells := 0, slots := 0, locals := 0 } : Room) s m #[(.ref a1), (.ref a1)] below meth c s₁ [] 0 0 := Stand.of_body Bd
  have e0 : s₁.heap = h0 := by rw [← hh, Bd.state]; rfl
  have N0 := Fr.nil n0
  obtain ⟨R0, hR0⟩ : ∃ R : State → Prop, R = fun t => Steps p.tables e below (s₁.setTop (entryFrame m #[(.ref a1), (.ref a1)] 3)) t := ⟨_, rfl⟩
  have pre0 : ∀ t, Steps p.tables e below (s₁.setTop (mkF m 0 #[sR a1, sR a1, sU] [])) t → R0 t := fun t k => by rw [hR0]; exact castTop (own_ef_7 m a1 a1) k
  have pre1 : ∀ t, own_S p e below s₁ m 6 #[sR a1, sR a1, sU] [(.int 1)] t → R0 t := fun t k => pre0 t (by
    refine XS.aloadN X0.here hx rfl (hb hby own_d7_0) rfl rfl ?_
    show own_S p e below s₁ m 1 #[sR a1, sR a1, sU] [(.ref a1)] _
    refine XS.aloadN X0.here hx rfl (hb hby own_d7_1) rfl rfl ?_
    show own_S p e below s₁ m 2 #[sR a1, sR a1, sU] [(.ref a1), (.ref a1)] _
    refine Jvm.RoadKit.acmp (g := (mkF m 2 #[sR a1, sR a1, sU] [(.ref a1), (.ref a1)])) X0 hx rfl rfl rfl (pc0 := 2) (pc' := 5) (same := true) rfl (hb hby own_d7_2) rfl (decide_eq_true rfl) (by decide) (by decide) ?_
    show own_S p e below s₁ m 5 #[sR a1, sR a1, sU] [] _
    refine XS.iconst X0.here hx rfl (hb hby own_d7_5) ?_
    exact k)
  obtain ⟨fs, hr, hrun, hended, hW, hsame⟩ := X0.leave (v := some (.int 1)) (fun h => by rw [Bd.returns] at h; cases h)
  refine ⟨_, _, cast (congrFun hR0 _) (pre1 _ (retN X0 hx (t := .boolean) Bd.returns (by simp) (hb hby own_d7_6) hr)), hrun, hended, _, _, rfl, ?_, ⟨_, rfl⟩, hW, hsame.mono (by decide) (by decide)⟩
  show own_Q7 Z _ h0 n0 _ s₁.heap _
  rw [e0]
  exact ⟨rfl, N0, rfl⟩
theorem own_d6_0 : decode jdk_42_method_152_code 0 = .ok (.getstatic 38, 3) := by decide +kernel
theorem own_d6_3 : decode jdk_42_method_152_code 3 = .ok (.ifCond .eq 10, 3) := by decide +kernel
theorem own_d6_6 : decode jdk_42_method_152_code 6 = .ok (.aload_n 0, 1) := by decide +kernel
theorem own_d6_7 : decode jdk_42_method_152_code 7 = .ok (.getfield 15, 3) := by decide +kernel
theorem own_d6_10 : decode jdk_42_method_152_code 10 = .ok (.goto 4, 3) := by decide +kernel
theorem own_d6_14 : decode jdk_42_method_152_code 14 = .ok (.ireturn, 1) := by decide +kernel
theorem own_ef_6 (m : MethodId) (x0 : Addr) : entryFrame m #[(.ref x0)] 1 = mkF m 0 #[sR x0] [] := by first | (simp [entryFrame, mkF, argsToLocals, Value.category]; done) | rfl
def own_Q6 (Z : State) (a1 : Addr) (G1 : Int32) (h0 : Heap) (n0 : Nat) (v : Option Value) (h : Heap) (L : List Loc) : Prop := v = some (.int 0) ∧ Fr n0 L ∧ h = h0
abbrev own_y3 : MethodName := ⟨"java/lang/String", "coder", "()B"⟩
set_option maxRecDepth 65536 in
set_option maxHeartbeats 40000000 in
theorem own_rm6 (l : Launch) (Z : State) (a0 : Array Value) (hw : ∀ d ∈ tables_1, d.before a0 Z = true) (ws : List Jvm.Cond) (a1 : Addr) (G1 : Int32) (h0 : Heap) (n0 : Nat) (Z0 : n0 ≤ h0.size) (F_coder_a1 : Fld Z h0 a1 "java/lang/String" "coder" "B" (.int 0)) (S_COMPACT_STRINGS : Sta Z h0 "java/lang/String" "COMPACT_STRINGS" "Z" (.int G1)) (hP5 : ¬ (G1 = (0 : Int32))) :
    MetFree l own_y3 (head1 (Jvm.Cond.code own_y3 jdk_42_method_152_code 1 (some .byte) :: ws) ({ frames := 0, cells := 0, slots := 0, locals := 0 } : Room)) (fun a U => a = #[(.ref a1)] ∧ Z.Warmed39 U.vm ∧ U.heap = h0) (fun _ _ _ _ _ => True) (fun _ U o U' => ∃ v L, o = .returned v ∧ own_Q6 Z a1 G1 h0 n0 v U'.heap L ∧ FrameEnd U o U' L ({ frames := 0, cells := 0, slots := 0, locals := 0 } : Room).cells ({ frames := 0, cells := 0, slots := 0, locals := 0 } : Room).slots) := by
  refine MetFree.of_bodySF (plainFor_of_name own_pn_2) hisR ?_
  intro p e s m args below meth c s₁ Bd hml0 hP hK
  obtain ⟨rfl, hZ, hh⟩ := hP
  have hw42 := hw _ (List.mem_of_getElem? (i := 42) rfl)
  have hw43 := hw _ (List.mem_of_getElem? (i := 43) rfl)
  have hx := Bd.exec
  have hby := Bd.bytes
  have hml : c.maxLocals = 1 := hml0
  have hown : s.vm.findClass "java/lang/String" = some m.cls := findClass_of_methodNamed Bd.named
  have hnm := (name_of_methodNamed Bd.named Bd.method).1
  have X0 : Stand p l e ({ frames := 0, cells := 0, slots := 0, locals := 0 } : Room) s m #[(.ref a1)] below meth c s₁ [] 0 0 := Stand.of_body Bd
  have e0 : s₁.heap = h0 := by rw [← hh, Bd.state]; rfl
  have N0 := Fr.nil n0
  obtain ⟨R0, hR0⟩ : ∃ R : State → Prop, R = fun t => Steps p.tables e below (s₁.setTop (entryFrame m #[(.ref a1)] 1)) t := ⟨_, rfl⟩
  have pre0 : ∀ t, Steps p.tables e below (s₁.setTop (mkF m 0 #[sR a1] [])) t → R0 t := fun t k => by rw [hR0]; exact castTop (own_ef_6 m a1) k
  obtain ⟨T1, X1, e1, st1⟩ := getS2 X0 hx hZ hown (host := "") (Or.inl hw42) Via.refl e0 S_COMPACT_STRINGS (g := (mkF m 0 #[sR a1] [])) rfl (hb hby own_d6_0)
  have pre2 : ∀ t, own_S p e below T1 m 3 #[sR a1] [(.int G1)] t → R0 t := fun t k => pre0 t (by
    refine st1 _ ?_
    exact k)
  have hc3 : ¬ (G1 = (0 : Int32)) := hP5
  have pre4 : ∀ t, own_S p e below T1 m 7 #[sR a1] [(.ref a1)] t → R0 t := fun t k => pre2 t (by
    refine XS.ifNo X1.here hx rfl (hb hby own_d6_3) rfl ((if0 _ _).trans (feq hc3).1) ?_
    show own_S p e below T1 m 6 #[sR a1] [] _
    refine XS.aloadN X1.here hx rfl (hb hby own_d6_6) rfl rfl ?_
    exact k)
  obtain ⟨T5, X5, e5, st5⟩ := getF X1 hx hZ hown (host := "") (Or.inl hw43) Via.refl e1 F_coder_a1 (g := (mkF m 7 #[sR a1] [(.ref a1)])) rfl rfl (hb hby own_d6_7)
  have pre6 : ∀ t, own_S p e below T5 m 14 #[sR a1] [(.int 0)] t → R0 t := fun t k => pre4 t (by
    refine st5 _ ?_
    show own_S p e below T5 m 10 #[sR a1] [(.int 0)] _
    refine XS.goto X5.here hx rfl (pc0 := 10) (pc' := 14) rfl (hb hby own_d6_10) (by decide) (by decide) ?_
    exact k)
  obtain ⟨fs, hr, hrun, hended, hW, hsame⟩ := X5.leave (v := some (.int 0)) (fun h => by rw [Bd.returns] at h; cases h)
  refine ⟨_, _, cast (congrFun hR0 _) (pre6 _ (retN X5 hx (t := .byte) Bd.returns (by simp) (hb hby own_d6_14) hr)), hrun, hended, _, _, rfl, ?_, ⟨_, rfl⟩, hW, hsame.mono (by decide) (by decide)⟩
  show own_Q6 Z _ _ h0 n0 _ T5.heap _
  rw [e5]
  exact ⟨rfl, N0, rfl⟩
theorem own_d9_0 : decode jdk_42_method_154_code 0 = .ok (.getstatic 38, 3) := by decide +kernel
theorem own_d9_3 : decode jdk_42_method_154_code 3 = .ok (.ifCond .eq 14, 3) := by decide +kernel
theorem own_d9_6 : decode jdk_42_method_154_code 6 = .ok (.aload_n 0, 1) := by decide +kernel
theorem own_d9_7 : decode jdk_42_method_154_code 7 = .ok (.getfield 15, 3) := by decide +kernel
theorem own_d9_10 : decode jdk_42_method_154_code 10 = .ok (.ifCond .ne 7, 3) := by decide +kernel
theorem own_d9_13 : decode jdk_42_method_154_code 13 = .ok (.iconst 1, 1) := by decide +kernel
theorem own_d9_14 : decode jdk_42_method_154_code 14 = .ok (.goto 4, 3) := by decide +kernel
theorem own_d9_18 : decode jdk_42_method_154_code 18 = .ok (.ireturn, 1) := by decide +kernel
theorem own_ef_9 (m : MethodId) (x0 : Addr) : entryFrame m #[(.ref x0)] 1 = mkF m 0 #[sR x0] [] := by first | (simp [entryFrame, mkF, argsToLocals, Value.category]; done) | rfl
def own_Q9 (Z : State) (a1 : Addr) (G1 : Int32) (h0 : Heap) (n0 : Nat) (v : Option Value) (h : Heap) (L : List Loc) : Prop := v = some (.int 1) ∧ Fr n0 L ∧ h = h0
abbrev own_y4 : MethodName := ⟨"java/lang/String", "isLatin1", "()Z"⟩
set_option maxRecDepth 65536 in
set_option maxHeartbeats 40000000 in
theorem own_rm9 (l : Launch) (Z : State) (a0 : Array Value) (hw : ∀ d ∈ tables_1, d.before a0 Z = true) (ws : List Jvm.Cond) (a1 : Addr) (G1 : Int32) (h0 : Heap) (n0 : Nat) (Z0 : n0 ≤ h0.size) (F_coder_a1 : Fld Z h0 a1 "java/lang/String" "coder" "B" (.int 0)) (S_COMPACT_STRINGS : Sta Z h0 "java/lang/String" "COMPACT_STRINGS" "Z" (.int G1)) (hP5 : ¬ (G1 = (0 : Int32))) :
    MetFree l own_y4 (head1 (Jvm.Cond.code own_y4 jdk_42_method_154_code 1 (some .boolean) :: ws) ({ frames := 0, cells := 0, slots := 0, locals := 0 } : Room)) (fun a U => a = #[(.ref a1)] ∧ Z.Warmed39 U.vm ∧ U.heap = h0) (fun _ _ _ _ _ => True) (fun _ U o U' => ∃ v L, o = .returned v ∧ own_Q9 Z a1 G1 h0 n0 v U'.heap L ∧ FrameEnd U o U' L ({ frames := 0, cells := 0, slots := 0, locals := 0 } : Room).cells ({ frames := 0, cells := 0, slots := 0, locals := 0 } : Room).slots) := by
  refine MetFree.of_bodySF (plainFor_of_name own_pn_2) hisR ?_
  intro p e s m args below meth c s₁ Bd hml0 hP hK
  obtain ⟨rfl, hZ, hh⟩ := hP
  have hw42 := hw _ (List.mem_of_getElem? (i := 42) rfl)
  have hw43 := hw _ (List.mem_of_getElem? (i := 43) rfl)
  have hx := Bd.exec
  have hby := Bd.bytes
  have hml : c.maxLocals = 1 := hml0
  have hown : s.vm.findClass "java/lang/String" = some m.cls := findClass_of_methodNamed Bd.named
  have hnm := (name_of_methodNamed Bd.named Bd.method).1
  have X0 : Stand p l e ({ frames := 0, cells := 0, slots := 0, locals := 0 } : Room) s m #[(.ref a1)] below meth c s₁ [] 0 0 := Stand.of_body Bd
  have e0 : s₁.heap = h0 := by rw [← hh, Bd.state]; rfl
  have N0 := Fr.nil n0
  obtain ⟨R0, hR0⟩ : ∃ R : State → Prop, R = fun t => Steps p.tables e below (s₁.setTop (entryFrame m #[(.ref a1)] 1)) t := ⟨_, rfl⟩
  have pre0 : ∀ t, Steps p.tables e below (s₁.setTop (mkF m 0 #[sR a1] [])) t → R0 t := fun t k => by rw [hR0]; exact castTop (own_ef_9 m a1) k
  obtain ⟨T1, X1, e1, st1⟩ := getS2 X0 hx hZ hown (host := "") (Or.inl hw42) Via.refl e0 S_COMPACT_STRINGS (g := (mkF m 0 #[sR a1] [])) rfl (hb hby own_d9_0)
  have pre2 : ∀ t, own_S p e below T1 m 3 #[sR a1] [(.int G1)] t → R0 t := fun t k => pre0 t (by
    refine st1 _ ?_
    exact k)
  have hc3 : ¬ (G1 = (0 : Int32)) := hP5
  have pre4 : ∀ t, own_S p e below T1 m 7 #[sR a1] [(.ref a1)] t → R0 t := fun t k => pre2 t (by
    refine XS.ifNo X1.here hx rfl (hb hby own_d9_3) rfl ((if0 _ _).trans (feq hc3).1) ?_
    show own_S p e below T1 m 6 #[sR a1] [] _
    refine XS.aloadN X1.here hx rfl (hb hby own_d9_6) rfl rfl ?_
    exact k)
  obtain ⟨T5, X5, e5, st5⟩ := getF X1 hx hZ hown (host := "") (Or.inl hw43) Via.refl e1 F_coder_a1 (g := (mkF m 7 #[sR a1] [(.ref a1)])) rfl rfl (hb hby own_d9_7)
  have pre6 : ∀ t, own_S p e below T5 m 18 #[sR a1] [(.int 1)] t → R0 t := fun t k => pre4 t (by
    refine st5 _ ?_
    show own_S p e below T5 m 10 #[sR a1] [(.int 0)] _
    refine XS.ifNo X5.here hx rfl (hb hby own_d9_10) rfl ((if0 _ _).trans (teq (by decide : (0 : Int32) = (0 : Int32))).2) ?_
    show own_S p e below T5 m 13 #[sR a1] [] _
    refine XS.iconst X5.here hx rfl (hb hby own_d9_13) ?_
    show own_S p e below T5 m 14 #[sR a1] [(.int 1)] _
    refine XS.goto X5.here hx rfl (pc0 := 14) (pc' := 18) rfl (hb hby own_d9_14) (by decide) (by decide) ?_
    exact k)
  obtain ⟨fs, hr, hrun, hended, hW, hsame⟩ := X5.leave (v := some (.int 1)) (fun h => by rw [Bd.returns] at h; cases h)
  refine ⟨_, _, cast (congrFun hR0 _) (pre6 _ (retN X5 hx (t := .boolean) Bd.returns (by simp) (hb hby own_d9_18) hr)), hrun, hended, _, _, rfl, ?_, ⟨_, rfl⟩, hW, hsame.mono (by decide) (by decide)⟩
  show own_Q9 Z _ _ h0 n0 _ T5.heap _
  rw [e5]
  exact ⟨rfl, N0, rfl⟩
theorem own_pd_1 : parseMethodDescriptor "()B" = some ⟨[], some .byte⟩ := by decide +kernel
theorem own_d5_0 : decode jdk_42_method_54_code 0 = .ok (.aload_n 0, 1) := by decide +kernel
theorem own_d5_1 : decode jdk_42_method_54_code 1 = .ok (.getfield 9, 3) := by decide +kernel
theorem own_d5_4 : decode jdk_42_method_54_code 4 = .ok (.arraylength, 1) := by decide +kernel
theorem own_d5_5 : decode jdk_42_method_54_code 5 = .ok (.aload_n 0, 1) := by decide +kernel
theorem own_d5_6 : decode jdk_42_method_54_code 6 = .ok (.invokevirtual 335, 3) := by decide +kernel
theorem own_d5_9 : decode jdk_42_method_54_code 9 = .ok (.ishr, 1) := by decide +kernel
theorem own_d5_10 : decode jdk_42_method_54_code 10 = .ok (.ireturn, 1) := by decide +kernel
theorem own_ef_5 (m : MethodId) (x0 : Addr) : entryFrame m #[(.ref x0)] 1 = mkF m 0 #[sR x0] [] := by first | (simp [entryFrame, mkF, argsToLocals, Value.category]; done) | rfl
def own_Q5 (Z : State) (a1 : Addr) (b : Addr) (kb : ClassId) (cc : Int32) (G1 : Int32) (h0 : Heap) (n0 : Nat) (v : Option Value) (h : Heap) (L : List Loc) : Prop := v = some (.int ((1 : Int32) >>> ((0 : Int32) &&& 31))) ∧ Fr n0 L ∧ h = h0
abbrev own_y5 : MethodName := ⟨"java/lang/String", "length", "()I"⟩
set_option maxRecDepth 65536 in
set_option maxHeartbeats 40000000 in
theorem own_rm5 (l : Launch) (Z : State) (a0 : Array Value) (hw : ∀ d ∈ tables_1, d.before a0 Z = true) (ws : List Jvm.Cond) (a1 : Addr) (b : Addr) (kb : ClassId) (cc : Int32) (G1 : Int32) (h0 : Heap) (n0 : Nat) (Z0 : n0 ≤ h0.size) (E_a1 : Exa Z h0 a1 "java/lang/String") (F_coder_a1 : Fld Z h0 a1 "java/lang/String" "coder" "B" (.int 0)) (F_value_a1 : Fld Z h0 a1 "java/lang/String" "value" "[B" (.ref b)) (A_b : Arv Z h0 b kb .byte (1 : Int32) [(.int cc)] (.int 0)) (S_COMPACT_STRINGS : Sta Z h0 "java/lang/String" "COMPACT_STRINGS" "Z" (.int G1)) (hP5 : ¬ (G1 = (0 : Int32))) :
    MetFree l own_y5 (head1 (Jvm.Cond.code own_y5 jdk_42_method_54_code 1 (some .int) :: ws) ({ frames := 1, cells := 0, slots := 0, locals := 13 } : Room)) (fun a U => a = #[(.ref a1)] ∧ Z.Warmed39 U.vm ∧ U.heap = h0) (fun _ _ _ _ _ => True) (fun _ U o U' => ∃ v L, o = .returned v ∧ own_Q5 Z a1 b kb cc G1 h0 n0 v U'.heap L ∧ FrameEnd U o U' L ({ frames := 1, cells := 0, slots := 0, locals := 13 } : Room).cells ({ frames := 1, cells := 0, slots := 0, locals := 13 } : Room).slots) := by
  refine MetFree.of_bodySF (plainFor_of_name own_pn_2) hisR ?_
  intro p e s m args below meth c s₁ Bd hml0 hP hK
  obtain ⟨rfl, hZ, hh⟩ := hP
  have hw24 := hw _ (List.mem_of_getElem? (i := 24) rfl)
  have hw36 := hw _ (List.mem_of_getElem? (i := 36) rfl)
  have hw37 := hw _ (List.mem_of_getElem? (i := 37) rfl)
  have hw38 := hw _ (List.mem_of_getElem? (i := 38) rfl)
  have hw39 := hw _ (List.mem_of_getElem? (i := 39) rfl)
  have hw40 := hw _ (List.mem_of_getElem? (i := 40) rfl)
  have hw41 := hw _ (List.mem_of_getElem? (i := 41) rfl)
  have hx := Bd.exec
  have hby := Bd.bytes
  have hml : c.maxLocals = 1 := hml0
  have hown : s.vm.findClass "java/lang/String" = some m.cls := findClass_of_methodNamed Bd.named
  have hnm := (name_of_methodNamed Bd.named Bd.method).1
  have X0 : Stand p l e ({ frames := 1, cells := 0, slots := 0, locals := 13 } : Room) s m #[(.ref a1)] below meth c s₁ [] 0 0 := Stand.of_body Bd
  have e0 : s₁.heap = h0 := by rw [← hh, Bd.state]; rfl
  have N0 := Fr.nil n0
  obtain ⟨R0, hR0⟩ : ∃ R : State → Prop, R = fun t => Steps p.tables e below (s₁.setTop (entryFrame m #[(.ref a1)] 1)) t := ⟨_, rfl⟩
  have pre0 : ∀ t, Steps p.tables e below (s₁.setTop (mkF m 0 #[sR a1] [])) t → R0 t := fun t k => by rw [hR0]; exact castTop (own_ef_5 m a1) k
  have pre1 : ∀ t, own_S p e below s₁ m 1 #[sR a1] [(.ref a1)] t → R0 t := fun t k => pre0 t (by
    refine XS.aloadN X0.here hx rfl (hb hby own_d5_0) rfl rfl ?_
    exact k)
  obtain ⟨T2, X2, e2, st2⟩ := getF X0 hx hZ hown (host := "") (Or.inl hw36) Via.refl e0 F_value_a1 (g := (mkF m 1 #[sR a1] [(.ref a1)])) rfl rfl (hb hby own_d5_1)
  have pre3 : ∀ t, own_S p e below T2 m 4 #[sR a1] [(.ref b)] t → R0 t := fun t k => pre1 t (by
    refine st2 _ ?_
    exact k)
  obtain ⟨cl4, Ar4, q4, S4, N4, H4, G4⟩ := id A_b
  have pre5 : ∀ t, own_S p e below T2 m 6 #[sR a1] [(.ref a1), (.int 1)] t → R0 t := fun t k => pre3 t (by
    refine X2.arraylength hx (by rw [e2]; exact Ar4.1) (State.isArrayOf_alike hZ.alike Ar4.2.1) (g := (mkF m 4 #[sR a1] [(.ref b)])) rfl rfl (hb hby own_d5_4) _ ?_
    rw [len_of S4 N4]
    show own_S p e below T2 m 5 #[sR a1] [(.int 1)] _
    refine XS.aloadN X2.here hx rfl (hb hby own_d5_5) rfl rfl ?_
    exact k)
  have hp6 : ¬ (G1 = (0 : Int32)) := hP5
  obtain ⟨cq7, kq7, q7a, q7b, q7c⟩ := isOf hZ e2 E_a1
  obtain ⟨_, _, ⟨T7, L7, k7, n7⟩, -, X7, ⟨Lc7, hQ7, l7, y7, z7⟩, st7⟩ := X2.virtualBack hx (y := own_y3) (z := own_y3) hown (mvT hZ hw37) (mvT hZ hw38) (notFace_of_selects (args := #[]) (mvT hZ hw40)) (mvT hZ hw40) (mvT hZ hw39) (by decide) (backOf (W := 1) (own_rm6 l Z a0 hw [] a1 G1 h0 n0 Z0 F_coder_a1 S_COMPACT_STRINGS hp6) hZ hw41 hw24 (by decide) (by decide)) q7a q7c (g := (mkF m 6 #[sR a1] [(.ref a1), (.int 1)])) rfl (by rw [hml]; rfl) (Steps.refl _) (argsL := []) (rest := [(.int 1)]) (lenOf own_pd_1 rfl) rfl (by show 2 * 0 + _ ≤ _; exact Nat.le_of_eq rfl) (hb hby own_d5_6) (fun _ _ => ⟨rfl, e2, (by decide : 0 + 0 ≤ _), (by decide : 0 + 0 ≤ _)⟩)
  dsimp only [Pt.U, Pt.locs, Pt.cells, Pt.slots] at X7 l7 y7 z7 st7 hQ7
  subst l7 y7 z7
  obtain ⟨rfl, N7q, eh7⟩ := hQ7
  have N7 := Fr.app N0 N7q
  have pre8 : ∀ t, own_S p e below T7 m 10 #[sR a1] [(.int ((1 : Int32) >>> ((0 : Int32) &&& 31)))] t → R0 t := fun t k => pre5 t (by
    refine st7.trans ?_
    show own_S p e below T7 m 9 #[sR a1] [(.int 0), (.int 1)] _
    refine XS.ishr X7.here hx rfl (hb hby own_d5_9) rfl ?_
    exact k)
  obtain ⟨fs, hr, hrun, hended, hW, hsame⟩ := X7.leave (v := some (.int ((1 : Int32) >>> ((0 : Int32) &&& 31)))) (fun h => by rw [Bd.returns] at h; cases h)
  refine ⟨_, _, cast (congrFun hR0 _) (pre8 _ (retOut X7 hx Bd.returns rfl (Or.inl ⟨rfl, Or.inl rfl, _, rfl⟩) (hb hby own_d5_10) hr)), hrun, hended, _, _, rfl, ?_, ⟨_, rfl⟩, hW, hsame.mono (by decide) (by decide)⟩
  show own_Q5 Z _ _ _ _ _ h0 n0 _ T7.heap _
  rw [eh7]
  exact ⟨rfl, N7, rfl⟩
theorem own_d12_0 : decode jdk_41_method_11_code 0 = .ok (.iload_n 0, 1) := by decide +kernel
theorem own_d12_1 : decode jdk_41_method_11_code 1 = .ok (.ifCond .lt 8, 3) := by decide +kernel
theorem own_d12_4 : decode jdk_41_method_11_code 4 = .ok (.iload_n 0, 1) := by decide +kernel
theorem own_d12_5 : decode jdk_41_method_11_code 5 = .ok (.iload_n 1, 1) := by decide +kernel
theorem own_d12_6 : decode jdk_41_method_11_code 6 = .ok (.if_icmp .lt 10, 3) := by decide +kernel
theorem own_d12_16 : decode jdk_41_method_11_code 16 = .ok (.iload_n 0, 1) := by decide +kernel
theorem own_d12_17 : decode jdk_41_method_11_code 17 = .ok (.ireturn, 1) := by decide +kernel
theorem own_pn_3 : plainName "jdk/internal/util/Preconditions" = true := by first | (simp [plainName, overriddenIn]; done) | decide +kernel
theorem own_ef_12n (m : MethodId) (x0 : Int32) (x1 : Int32) : entryFrame m #[(.int x0), (.int x1), .null] 3 = mkF m 0 #[sI x0, sI x1, sN] [] := by first | (simp [entryFrame, mkF, argsToLocals, Value.category]; done) | rfl
def own_Q12n (Z : State)  (h0 : Heap) (n0 : Nat) (v : Option Value) (h : Heap) (L : List Loc) : Prop := v = some (.int 0) ∧ Fr n0 L ∧ h = h0
abbrev own_y6 : MethodName := ⟨"jdk/internal/util/Preconditions", "checkIndex", "(IILjava/util/function/BiFunction;)I"⟩
set_option maxRecDepth 65536 in
set_option maxHeartbeats 40000000 in
theorem own_rm12n (l : Launch) (Z : State) (a0 : Array Value) (hw : ∀ d ∈ tables_1, d.before a0 Z = true) (ws : List Jvm.Cond)  (h0 : Heap) (n0 : Nat) (Z0 : n0 ≤ h0.size)  :
    MetFree l own_y6 (head1 (Jvm.Cond.code own_y6 jdk_41_method_11_code 3 (some .int) :: ws) ({ frames := 0, cells := 0, slots := 0, locals := 0 } : Room)) (fun a U => a = #[(.int 0), (.int 1), .null] ∧ Z.Warmed39 U.vm ∧ U.heap = h0) (fun _ _ _ _ _ => True) (fun _ U o U' => ∃ v L, o = .returned v ∧ own_Q12n Z  h0 n0 v U'.heap L ∧ FrameEnd U o U' L ({ frames := 0, cells := 0, slots := 0, locals := 0 } : Room).cells ({ frames := 0, cells := 0, slots := 0, locals := 0 } : Room).slots) := by
  refine MetFree.of_bodySF (plainFor_of_name own_pn_3) hisR ?_
  intro p e s m args below meth c s₁ Bd hml0 hP hK
  obtain ⟨rfl, hZ, hh⟩ := hP
  have hx := Bd.exec
  have hby := Bd.bytes
  have hml : c.maxLocals = 3 := hml0
  have hown : s.vm.findClass "jdk/internal/util/Preconditions" = some m.cls := findClass_of_methodNamed Bd.named
  have hnm := (name_of_methodNamed Bd.named Bd.method).1
  have X0 : Stand p l e ({ frames := 0, cells := 0, slots := 0, locals := 0 } : Room) s m #[(.int 0), (.int 1), .null] below meth c s₁ [] 0 0 := Stand.of_body Bd
  have e0 : s₁.heap = h0 := by rw [← hh, Bd.state]; rfl
  have N0 := Fr.nil n0
  obtain ⟨R0, hR0⟩ : ∃ R : State → Prop, R = fun t => Steps p.tables e below (s₁.setTop (entryFrame m #[(.int 0), (.int 1), .null] 3)) t := ⟨_, rfl⟩
  have pre0 : ∀ t, Steps p.tables e below (s₁.setTop (mkF m 0 #[sI 0, sI 1, sN] [])) t → R0 t := fun t k => by rw [hR0]; exact castTop (own_ef_12n m (0 : Int32) (1 : Int32)) k
  have pre1 : ∀ t, own_S p e below s₁ m 17 #[sI 0, sI 1, sN] [(.int 0)] t → R0 t := fun t k => pre0 t (by
    refine XS.iloadN X0.here hx rfl (hb hby own_d12_0) rfl ?_
    show own_S p e below s₁ m 1 #[sI 0, sI 1, sN] [(.int 0)] _
    refine XS.ifNo X0.here hx rfl (hb hby own_d12_1) rfl ((if0 _ _).trans (flt (by decide : ¬ ((0 : Int32) < (0 : Int32)))).1) ?_
    show own_S p e below s₁ m 4 #[sI 0, sI 1, sN] [] _
    refine XS.iloadN X0.here hx rfl (hb hby own_d12_4) rfl ?_
    show own_S p e below s₁ m 5 #[sI 0, sI 1, sN] [(.int 0)] _
    refine XS.iloadN X0.here hx rfl (hb hby own_d12_5) rfl ?_
    show own_S p e below s₁ m 6 #[sI 0, sI 1, sN] [(.int 1), (.int 0)] _
    refine XS.icmpYes X0.here hx rfl (pc0 := 6) (pc' := 16) rfl (hb hby own_d12_6) rfl (tlt (by decide : (0 : Int32) < (1 : Int32))).1 (by decide) (by decide) ?_
    show own_S p e below s₁ m 16 #[sI 0, sI 1, sN] [] _
    refine XS.iloadN X0.here hx rfl (hb hby own_d12_16) rfl ?_
    exact k)
  obtain ⟨fs, hr, hrun, hended, hW, hsame⟩ := X0.leave (v := some (.int 0)) (fun h => by rw [Bd.returns] at h; cases h)
  refine ⟨_, _, cast (congrFun hR0 _) (pre1 _ (retOut X0 hx Bd.returns rfl (Or.inl ⟨rfl, Or.inl rfl, _, rfl⟩) (hb hby own_d12_17) hr)), hrun, hended, _, _, rfl, ?_, ⟨_, rfl⟩, hW, hsame.mono (by decide) (by decide)⟩
  show own_Q12n Z  h0 n0 _ s₁.heap _
  rw [e0]
  exact ⟨rfl, N0, rfl⟩
theorem own_ef_12r (m : MethodId) (x0 : Int32) (x1 : Int32) (x2 : Addr) : entryFrame m #[(.int x0), (.int x1), (.ref x2)] 3 = mkF m 0 #[sI x0, sI x1, sR x2] [] := by first | (simp [entryFrame, mkF, argsToLocals, Value.category]; done) | rfl
def own_Q12r (Z : State) (a3 : Addr) (h0 : Heap) (n0 : Nat) (v : Option Value) (h : Heap) (L : List Loc) : Prop := v = some (.int 0) ∧ Fr n0 L ∧ h = h0
set_option maxRecDepth 65536 in
set_option maxHeartbeats 40000000 in
theorem own_rm12r (l : Launch) (Z : State) (a0 : Array Value) (hw : ∀ d ∈ tables_1, d.before a0 Z = true) (ws : List Jvm.Cond) (a3 : Addr) (h0 : Heap) (n0 : Nat) (Z0 : n0 ≤ h0.size)  :
    MetFree l own_y6 (head1 (Jvm.Cond.code own_y6 jdk_41_method_11_code 3 (some .int) :: ws) ({ frames := 0, cells := 0, slots := 0, locals := 0 } : Room)) (fun a U => a = #[(.int 0), (.int 1), (.ref a3)] ∧ Z.Warmed39 U.vm ∧ U.heap = h0) (fun _ _ _ _ _ => True) (fun _ U o U' => ∃ v L, o = .returned v ∧ own_Q12r Z a3 h0 n0 v U'.heap L ∧ FrameEnd U o U' L ({ frames := 0, cells := 0, slots := 0, locals := 0 } : Room).cells ({ frames := 0, cells := 0, slots := 0, locals := 0 } : Room).slots) := by
  refine MetFree.of_bodySF (plainFor_of_name own_pn_3) hisR ?_
  intro p e s m args below meth c s₁ Bd hml0 hP hK
  obtain ⟨rfl, hZ, hh⟩ := hP
  have hx := Bd.exec
  have hby := Bd.bytes
  have hml : c.maxLocals = 3 := hml0
  have hown : s.vm.findClass "jdk/internal/util/Preconditions" = some m.cls := findClass_of_methodNamed Bd.named
  have hnm := (name_of_methodNamed Bd.named Bd.method).1
  have X0 : Stand p l e ({ frames := 0, cells := 0, slots := 0, locals := 0 } : Room) s m #[(.int 0), (.int 1), (.ref a3)] below meth c s₁ [] 0 0 := Stand.of_body Bd
  have e0 : s₁.heap = h0 := by rw [← hh, Bd.state]; rfl
  have N0 := Fr.nil n0
  obtain ⟨R0, hR0⟩ : ∃ R : State → Prop, R = fun t => Steps p.tables e below (s₁.setTop (entryFrame m #[(.int 0), (.int 1), (.ref a3)] 3)) t := ⟨_, rfl⟩
  have pre0 : ∀ t, Steps p.tables e below (s₁.setTop (mkF m 0 #[sI 0, sI 1, sR a3] [])) t → R0 t := fun t k => by rw [hR0]; exact castTop (own_ef_12r m (0 : Int32) (1 : Int32) a3) k
  have pre1 : ∀ t, own_S p e below s₁ m 17 #[sI 0, sI 1, sR a3] [(.int 0)] t → R0 t := fun t k => pre0 t (by
    refine XS.iloadN X0.here hx rfl (hb hby own_d12_0) rfl ?_
    show own_S p e below s₁ m 1 #[sI 0, sI 1, sR a3] [(.int 0)] _
    refine XS.ifNo X0.here hx rfl (hb hby own_d12_1) rfl ((if0 _ _).trans (flt (by decide : ¬ ((0 : Int32) < (0 : Int32)))).1) ?_
    show own_S p e below s₁ m 4 #[sI 0, sI 1, sR a3] [] _
    refine XS.iloadN X0.here hx rfl (hb hby own_d12_4) rfl ?_
    show own_S p e below s₁ m 5 #[sI 0, sI 1, sR a3] [(.int 0)] _
    refine XS.iloadN X0.here hx rfl (hb hby own_d12_5) rfl ?_
    show own_S p e below s₁ m 6 #[sI 0, sI 1, sR a3] [(.int 1), (.int 0)] _
    refine XS.icmpYes X0.here hx rfl (pc0 := 6) (pc' := 16) rfl (hb hby own_d12_6) rfl (tlt (by decide : (0 : Int32) < (1 : Int32))).1 (by decide) (by decide) ?_
    show own_S p e below s₁ m 16 #[sI 0, sI 1, sR a3] [] _
    refine XS.iloadN X0.here hx rfl (hb hby own_d12_16) rfl ?_
    exact k)
  obtain ⟨fs, hr, hrun, hended, hW, hsame⟩ := X0.leave (v := some (.int 0)) (fun h => by rw [Bd.returns] at h; cases h)
  refine ⟨_, _, cast (congrFun hR0 _) (pre1 _ (retOut X0 hx Bd.returns rfl (Or.inl ⟨rfl, Or.inl rfl, _, rfl⟩) (hb hby own_d12_17) hr)), hrun, hended, _, _, rfl, ?_, ⟨_, rfl⟩, hW, hsame.mono (by decide) (by decide)⟩
  show own_Q12r Z _ h0 n0 _ s₁.heap _
  rw [e0]
  exact ⟨rfl, N0, rfl⟩
theorem own_pd_2 : parseMethodDescriptor "(IILjava/util/function/BiFunction;)I" = some ⟨[.int, .int, (.object "java/util/function/BiFunction")], some .int⟩ := by decide +kernel
theorem own_d11_0 : decode jdk_42_method_155_code 0 = .ok (.iload_n 0, 1) := by decide +kernel
theorem own_d11_1 : decode jdk_42_method_155_code 1 = .ok (.iload_n 1, 1) := by decide +kernel
theorem own_d11_2 : decode jdk_42_method_155_code 2 = .ok (.getstatic 1053, 3) := by decide +kernel
theorem own_d11_5 : decode jdk_42_method_155_code 5 = .ok (.invokestatic 1059, 3) := by decide +kernel
theorem own_d11_8 : decode jdk_42_method_155_code 8 = .ok (.pop, 1) := by decide +kernel
theorem own_d11_9 : decode jdk_42_method_155_code 9 = .ok (.return_, 1) := by decide +kernel
theorem own_ef_11 (m : MethodId) (x0 : Int32) (x1 : Int32) : entryFrame m #[(.int x0), (.int x1)] 2 = mkF m 0 #[sI x0, sI x1] [] := by first | (simp [entryFrame, mkF, argsToLocals, Value.category]; done) | rfl
def own_Q11 (Z : State) (fm : Value) (h0 : Heap) (n0 : Nat) (v : Option Value) (h : Heap) (L : List Loc) : Prop := v = none ∧ Fr n0 L ∧ h = h0
abbrev own_y7 : MethodName := ⟨"java/lang/String", "checkIndex", "(II)V"⟩
set_option maxRecDepth 65536 in
set_option maxHeartbeats 40000000 in
theorem own_rm11 (l : Launch) (Z : State) (a0 : Array Value) (hw : ∀ d ∈ tables_1, d.before a0 Z = true) (ws : List Jvm.Cond) (fm : Value) (h0 : Heap) (n0 : Nat) (Z0 : n0 ≤ h0.size) (S_SIOOBE_FORMATTER : Sta Z h0 "jdk/internal/util/Preconditions" "SIOOBE_FORMATTER" "Ljava/util/function/BiFunction;" fm) (rG : fm.isRef = true) :
    MetFree l own_y7 (head1 (Jvm.Cond.code own_y7 jdk_42_method_155_code 2 none :: ws) ({ frames := 1, cells := 0, slots := 0, locals := 14 } : Room)) (fun a U => a = #[(.int 0), (.int 1)] ∧ Z.Warmed39 U.vm ∧ U.heap = h0) (fun _ _ _ _ _ => True) (fun _ U o U' => ∃ v L, o = .returned v ∧ own_Q11 Z fm h0 n0 v U'.heap L ∧ FrameEnd U o U' L ({ frames := 1, cells := 0, slots := 0, locals := 14 } : Room).cells ({ frames := 1, cells := 0, slots := 0, locals := 14 } : Room).slots) := by
  refine MetFree.of_bodySF (plainFor_of_name own_pn_2) hisR ?_
  intro p e s m args below meth c s₁ Bd hml0 hP hK
  obtain ⟨rfl, hZ, hh⟩ := hP
  have hw66 := hw _ (List.mem_of_getElem? (i := 66) rfl)
  have hw67 := hw _ (List.mem_of_getElem? (i := 67) rfl)
  have hw68 := hw _ (List.mem_of_getElem? (i := 68) rfl)
  have hw69 := hw _ (List.mem_of_getElem? (i := 69) rfl)
  have hw70 := hw _ (List.mem_of_getElem? (i := 70) rfl)
  have hx := Bd.exec
  have hby := Bd.bytes
  have hml : c.maxLocals = 2 := hml0
  have hown : s.vm.findClass "java/lang/String" = some m.cls := findClass_of_methodNamed Bd.named
  have hnm := (name_of_methodNamed Bd.named Bd.method).1
  have X0 : Stand p l e ({ frames := 1, cells := 0, slots := 0, locals := 14 } : Room) s m #[(.int 0), (.int 1)] below meth c s₁ [] 0 0 := Stand.of_body Bd
  have e0 : s₁.heap = h0 := by rw [← hh, Bd.state]; rfl
  have N0 := Fr.nil n0
  obtain ⟨R0, hR0⟩ : ∃ R : State → Prop, R = fun t => Steps p.tables e below (s₁.setTop (entryFrame m #[(.int 0), (.int 1)] 2)) t := ⟨_, rfl⟩
  have pre0 : ∀ t, Steps p.tables e below (s₁.setTop (mkF m 0 #[sI 0, sI 1] [])) t → R0 t := fun t k => by rw [hR0]; exact castTop (own_ef_11 m (0 : Int32) (1 : Int32)) k
  rcases ref_cases rG with rfl | ⟨fa, rfl⟩
  · have pre1 : ∀ t, own_S p e below s₁ m 2 #[sI 0, sI 1] [(.int 1), (.int 0)] t → R0 t := fun t k => pre0 t (by
      refine XS.iloadN X0.here hx rfl (hb hby own_d11_0) rfl ?_
      show own_S p e below s₁ m 1 #[sI 0, sI 1] [(.int 0)] _
      refine XS.iloadN X0.here hx rfl (hb hby own_d11_1) rfl ?_
      exact k)
    obtain ⟨T2, X2, e2, st2⟩ := getS2 X0 hx hZ hown (host := "") (Or.inl hw66) Via.refl e0 S_SIOOBE_FORMATTER (g := (mkF m 2 #[sI 0, sI 1] [(.int 1), (.int 0)])) rfl (hb hby own_d11_2)
    have pre3 : ∀ t, own_S p e below T2 m 5 #[sI 0, sI 1] [.null, (.int 1), (.int 0)] t → R0 t := fun t k => pre1 t (by
      refine st2 _ ?_
      exact k)
    obtain ⟨_, _, ⟨T4, L4, k4, n4⟩, -, X4, ⟨Lc4, hQ4, l4, y4, z4⟩, st4⟩ := Jvm.LawKit.callS X2 hx (y := own_y6) hown (mvT hZ hw68) (mvT hZ hw69) (mvT hZ hw67) (mvT hZ hw70) (by decide) (backOf (W := 0) (own_rm12n l Z a0 hw []  h0 n0 Z0 ) hZ hw70 hw67 (by decide) (by decide)) (g := (mkF m 5 #[sI 0, sI 1] [.null, (.int 1), (.int 0)])) rfl (by rw [hml]; rfl) (argsL := [(.int 0), (.int 1), .null]) (rest := []) (lenOf own_pd_2 rfl) rfl (by show 2 * 0 + _ ≤ _; exact Nat.le_of_eq rfl) (hb hby own_d11_5) (fun _ _ => ⟨rfl, e2, (by decide : 0 + 0 ≤ _), (by decide : 0 + 0 ≤ _)⟩)
    dsimp only [Pt.U, Pt.locs, Pt.cells, Pt.slots] at X4 l4 y4 z4 st4 hQ4
    subst l4 y4 z4
    obtain ⟨rfl, N4q, eh4⟩ := hQ4
    have N4 := Fr.app N0 N4q
    have pre5 : ∀ t, own_S p e below T4 m 9 #[sI 0, sI 1] [] t → R0 t := fun t k => pre3 t (by
      refine st4 _ ?_
      show own_S p e below T4 m 8 #[sI 0, sI 1] [(.int 0)] _
      refine XS.pop X4.here hx rfl (hb hby own_d11_8) rfl rfl ?_
      exact k)
    obtain ⟨fs, hr, hrun, hended, hW, hsame⟩ := X4.leave (v := none) (fun _ => rfl)
    refine ⟨_, _, cast (congrFun hR0 _) (pre5 _ (X4.returnOut hx Bd.returns (hb hby own_d11_9) hr)), hrun, hended, _, _, rfl, ?_, ⟨_, rfl⟩, hW, hsame.mono (by decide) (by decide)⟩
    show own_Q11 Z _ h0 n0 _ T4.heap _
    rw [eh4]
    exact ⟨rfl, N4, rfl⟩
  · have pre6 : ∀ t, own_S p e below s₁ m 2 #[sI 0, sI 1] [(.int 1), (.int 0)] t → R0 t := fun t k => pre0 t (by
      refine XS.iloadN X0.here hx rfl (hb hby own_d11_0) rfl ?_
      show own_S p e below s₁ m 1 #[sI 0, sI 1] [(.int 0)] _
      refine XS.iloadN X0.here hx rfl (hb hby own_d11_1) rfl ?_
      exact k)
    obtain ⟨T7, X7, e7, st7⟩ := getS2 X0 hx hZ hown (host := "") (Or.inl hw66) Via.refl e0 S_SIOOBE_FORMATTER (g := (mkF m 2 #[sI 0, sI 1] [(.int 1), (.int 0)])) rfl (hb hby own_d11_2)
    have pre8 : ∀ t, own_S p e below T7 m 5 #[sI 0, sI 1] [(.ref fa), (.int 1), (.int 0)] t → R0 t := fun t k => pre6 t (by
      refine st7 _ ?_
      exact k)
    obtain ⟨_, _, ⟨T9, L9, k9, n9⟩, -, X9, ⟨Lc9, hQ9, l9, y9, z9⟩, st9⟩ := Jvm.LawKit.callS X7 hx (y := own_y6) hown (mvT hZ hw68) (mvT hZ hw69) (mvT hZ hw67) (mvT hZ hw70) (by decide) (backOf (W := 0) (own_rm12r l Z a0 hw [] fa h0 n0 Z0 ) hZ hw70 hw67 (by decide) (by decide)) (g := (mkF m 5 #[sI 0, sI 1] [(.ref fa), (.int 1), (.int 0)])) rfl (by rw [hml]; rfl) (argsL := [(.int 0), (.int 1), (.ref fa)]) (rest := []) (lenOf own_pd_2 rfl) rfl (by show 2 * 0 + _ ≤ _; exact Nat.le_of_eq rfl) (hb hby own_d11_5) (fun _ _ => ⟨rfl, e7, (by decide : 0 + 0 ≤ _), (by decide : 0 + 0 ≤ _)⟩)
    dsimp only [Pt.U, Pt.locs, Pt.cells, Pt.slots] at X9 l9 y9 z9 st9 hQ9
    subst l9 y9 z9
    obtain ⟨rfl, N9q, eh9⟩ := hQ9
    have N9 := Fr.app N0 N9q
    have pre10 : ∀ t, own_S p e below T9 m 9 #[sI 0, sI 1] [] t → R0 t := fun t k => pre8 t (by
      refine st9 _ ?_
      show own_S p e below T9 m 8 #[sI 0, sI 1] [(.int 0)] _
      refine XS.pop X9.here hx rfl (hb hby own_d11_8) rfl rfl ?_
      exact k)
    obtain ⟨fs, hr, hrun, hended, hW, hsame⟩ := X9.leave (v := none) (fun _ => rfl)
    refine ⟨_, _, cast (congrFun hR0 _) (pre10 _ (X9.returnOut hx Bd.returns (hb hby own_d11_9) hr)), hrun, hended, _, _, rfl, ?_, ⟨_, rfl⟩, hW, hsame.mono (by decide) (by decide)⟩
    show own_Q11 Z _ h0 n0 _ T9.heap _
    rw [eh9]
    exact ⟨rfl, N9, rfl⟩
theorem own_pd_3 : parseMethodDescriptor "(II)V" = some ⟨[.int, .int], none⟩ := by decide +kernel
theorem own_d10_0 : decode jdk_43_method_2_code 0 = .ok (.iload_n 1, 1) := by decide +kernel
theorem own_d10_1 : decode jdk_43_method_2_code 1 = .ok (.aload_n 0, 1) := by decide +kernel
theorem own_d10_2 : decode jdk_43_method_2_code 2 = .ok (.arraylength, 1) := by decide +kernel
theorem own_d10_3 : decode jdk_43_method_2_code 3 = .ok (.invokestatic 9, 3) := by decide +kernel
theorem own_d10_6 : decode jdk_43_method_2_code 6 = .ok (.aload_n 0, 1) := by decide +kernel
theorem own_d10_7 : decode jdk_43_method_2_code 7 = .ok (.iload_n 1, 1) := by decide +kernel
theorem own_d10_8 : decode jdk_43_method_2_code 8 = .ok (.baload, 1) := by decide +kernel
theorem own_d10_9 : decode jdk_43_method_2_code 9 = .ok (.sipush 255, 3) := by decide +kernel
theorem own_d10_12 : decode jdk_43_method_2_code 12 = .ok (.iand, 1) := by decide +kernel
theorem own_d10_13 : decode jdk_43_method_2_code 13 = .ok (.i2c, 1) := by decide +kernel
theorem own_d10_14 : decode jdk_43_method_2_code 14 = .ok (.ireturn, 1) := by decide +kernel
theorem own_pn_4 : plainName "java/lang/StringLatin1" = true := by first | (simp [plainName, overriddenIn]; done) | decide +kernel
theorem own_ef_10c68 (m : MethodId) (x0 : Addr) (x1 : Int32) : entryFrame m #[(.ref x0), (.int x1)] 2 = mkF m 0 #[sR x0, sI x1] [] := by first | (simp [entryFrame, mkF, argsToLocals, Value.category]; done) | rfl
def own_Q10c68 (Z : State) (b : Addr) (kb : ClassId) (fm : Value) (h0 : Heap) (n0 : Nat) (v : Option Value) (h : Heap) (L : List Loc) : Prop := v = some (.int 68) ∧ Fr n0 L ∧ h = h0
abbrev own_y8 : MethodName := ⟨"java/lang/StringLatin1", "charAt", "([BI)C"⟩
set_option maxRecDepth 65536 in
set_option maxHeartbeats 40000000 in
theorem own_rm10c68 (l : Launch) (Z : State) (a0 : Array Value) (hw : ∀ d ∈ tables_1, d.before a0 Z = true) (ws : List Jvm.Cond) (b : Addr) (kb : ClassId) (fm : Value) (h0 : Heap) (n0 : Nat) (Z0 : n0 ≤ h0.size) (A_b : Arv Z h0 b kb .byte (1 : Int32) [(.int 68)] (.int 0)) (S_SIOOBE_FORMATTER : Sta Z h0 "jdk/internal/util/Preconditions" "SIOOBE_FORMATTER" "Ljava/util/function/BiFunction;" fm) (rG : fm.isRef = true) :
    MetFree l own_y8 (head1 (Jvm.Cond.code own_y8 jdk_43_method_2_code 2 (some .char) :: ws) ({ frames := 2, cells := 0, slots := 0, locals := 27 } : Room)) (fun a U => a = #[(.ref b), (.int 0)] ∧ Z.Warmed39 U.vm ∧ U.heap = h0) (fun _ _ _ _ _ => True) (fun _ U o U' => ∃ v L, o = .returned v ∧ own_Q10c68 Z b kb fm h0 n0 v U'.heap L ∧ FrameEnd U o U' L ({ frames := 2, cells := 0, slots := 0, locals := 27 } : Room).cells ({ frames := 2, cells := 0, slots := 0, locals := 27 } : Room).slots) := by
  refine MetFree.of_bodySF (plainFor_of_name own_pn_4) hisR ?_
  intro p e s m args below meth c s₁ Bd hml0 hP hK
  obtain ⟨rfl, hZ, hh⟩ := hP
  have hw24 := hw _ (List.mem_of_getElem? (i := 24) rfl)
  have hw63 := hw _ (List.mem_of_getElem? (i := 63) rfl)
  have hw64 := hw _ (List.mem_of_getElem? (i := 64) rfl)
  have hw65 := hw _ (List.mem_of_getElem? (i := 65) rfl)
  have hx := Bd.exec
  have hby := Bd.bytes
  have hml : c.maxLocals = 2 := hml0
  have hown : s.vm.findClass "java/lang/StringLatin1" = some m.cls := findClass_of_methodNamed Bd.named
  have hnm := (name_of_methodNamed Bd.named Bd.method).1
  have X0 : Stand p l e ({ frames := 2, cells := 0, slots := 0, locals := 27 } : Room) s m #[(.ref b), (.int 0)] below meth c s₁ [] 0 0 := Stand.of_body Bd
  have e0 : s₁.heap = h0 := by rw [← hh, Bd.state]; rfl
  have N0 := Fr.nil n0
  obtain ⟨R0, hR0⟩ : ∃ R : State → Prop, R = fun t => Steps p.tables e below (s₁.setTop (entryFrame m #[(.ref b), (.int 0)] 2)) t := ⟨_, rfl⟩
  have pre0 : ∀ t, Steps p.tables e below (s₁.setTop (mkF m 0 #[sR b, sI 0] [])) t → R0 t := fun t k => by rw [hR0]; exact castTop (own_ef_10c68 m b (0 : Int32)) k
  have pre1 : ∀ t, own_S p e below s₁ m 2 #[sR b, sI 0] [(.ref b), (.int 0)] t → R0 t := fun t k => pre0 t (by
    refine XS.iloadN X0.here hx rfl (hb hby own_d10_0) rfl ?_
    show own_S p e below s₁ m 1 #[sR b, sI 0] [(.int 0)] _
    refine XS.aloadN X0.here hx rfl (hb hby own_d10_1) rfl rfl ?_
    exact k)
  obtain ⟨cl2, Ar2, q2, S2, N2, H2, G2⟩ := id A_b
  have pre3 : ∀ t, own_S p e below s₁ m 3 #[sR b, sI 0] [(.int 1), (.int 0)] t → R0 t := fun t k => pre1 t (by
    refine X0.arraylength hx (by rw [e0]; exact Ar2.1) (State.isArrayOf_alike hZ.alike Ar2.2.1) (g := (mkF m 2 #[sR b, sI 0] [(.ref b), (.int 0)])) rfl rfl (hb hby own_d10_2) _ ?_
    rw [len_of S2 N2]
    exact k)
  have hp4 : fm.isRef = true := rG
  obtain ⟨_, _, ⟨T5, L5, k5, n5⟩, -, X5, ⟨Lc5, hQ5, l5, y5, z5⟩, st5⟩ := Jvm.LawKit.callS X0 hx (y := own_y7) hown (mvT hZ hw63) (mvT hZ hw64) (mvT hZ hw24) (mvT hZ hw65) (by decide) (backOf (W := 0) (own_rm11 l Z a0 hw [] fm h0 n0 Z0 S_SIOOBE_FORMATTER hp4) hZ hw65 hw24 (by decide) (by decide)) (g := (mkF m 3 #[sR b, sI 0] [(.int 1), (.int 0)])) rfl (by rw [hml]; rfl) (argsL := [(.int 0), (.int 1)]) (rest := []) (lenOf own_pd_3 rfl) rfl (by show 2 * 0 + _ ≤ _; exact Nat.le_of_eq rfl) (hb hby own_d10_3) (fun _ _ => ⟨rfl, e0, (by decide : 0 + 0 ≤ _), (by decide : 0 + 0 ≤ _)⟩)
  dsimp only [Pt.U, Pt.locs, Pt.cells, Pt.slots] at X5 l5 y5 z5 st5 hQ5
  subst l5 y5 z5
  obtain ⟨rfl, N5q, eh5⟩ := hQ5
  have N5 := Fr.app N0 N5q
  have pre6 : ∀ t, own_S p e below T5 m 8 #[sR b, sI 0] [(.int 0), (.ref b)] t → R0 t := fun t k => pre3 t (by
    refine st5 _ ?_
    show own_S p e below T5 m 6 #[sR b, sI 0] [] _
    refine XS.aloadN X5.here hx rfl (hb hby own_d10_6) rfl rfl ?_
    show own_S p e below T5 m 7 #[sR b, sI 0] [(.ref b)] _
    refine XS.iloadN X5.here hx rfl (hb hby own_d10_7) rfl ?_
    exact k)
  obtain ⟨cl7, Ar7, q7, S7, N7, H7, G7⟩ := id A_b
  have hin7 := inb_of (j := (0 : Int32)) S7 ⟨by decide, by decide⟩
  have pre8 : ∀ t, own_S p e below T5 m 14 #[sR b, sI 0] [(.int (((68 : Int32) &&& (255 : Int32)).toUInt32.toUInt16.toUInt32.toInt32))] t → R0 t := fun t k => pre6 t (by
    refine X5.baloadBytes hx (j := (0 : Int32)) (v := (.int 68)) (by rw [eh5]; exact Ar7.1) (State.isArrayOf_alike hZ.alike Ar7.2.1) Ar7.2.2 hin7 (H7.at hin7 rfl) (g := (mkF m 8 #[sR b, sI 0] [(.int 0), (.ref b)])) rfl rfl (hb hby own_d10_8) _ ?_
    show own_S p e below T5 m 9 #[sR b, sI 0] [(.int 68)] _
    refine XS.sipush X5.here hx rfl (hb hby own_d10_9) ?_
    show own_S p e below T5 m 12 #[sR b, sI 0] [(.int 255), (.int 68)] _
    refine XS.iand X5.here hx rfl (hb hby own_d10_12) rfl ?_
    show own_S p e below T5 m 13 #[sR b, sI 0] [(.int ((68 : Int32) &&& (255 : Int32)))] _
    refine XS.i2c X5.here hx rfl (hb hby own_d10_13) rfl ?_
    exact k)
  obtain ⟨fs, hr, hrun, hended, hW, hsame⟩ := X5.leave (v := some (.int (((68 : Int32) &&& (255 : Int32)).toUInt32.toUInt16.toUInt32.toInt32))) (fun h => by rw [Bd.returns] at h; cases h)
  refine ⟨_, _, cast (congrFun hR0 _) (pre8 _ (retN X5 hx (t := .char) Bd.returns (by simp) (hb hby own_d10_14) hr)), hrun, hended, _, _, rfl, ?_, ⟨_, rfl⟩, hW, hsame.mono (by decide) (by decide)⟩
  show own_Q10c68 Z _ _ _ h0 n0 _ T5.heap _
  rw [eh5]
  exact ⟨rfl, N5, rfl⟩
theorem own_pd_4 : parseMethodDescriptor "()Z" = some ⟨[], some .boolean⟩ := by decide +kernel
theorem own_pd_5 : parseMethodDescriptor "([BI)C" = some ⟨[(.array .byte), .int], some .char⟩ := by decide +kernel
theorem own_d8_0 : decode jdk_42_method_56_code 0 = .ok (.aload_n 0, 1) := by decide +kernel
theorem own_d8_1 : decode jdk_42_method_56_code 1 = .ok (.invokevirtual 492, 3) := by decide +kernel
theorem own_d8_4 : decode jdk_42_method_56_code 4 = .ok (.ifCond .eq 12, 3) := by decide +kernel
theorem own_d8_7 : decode jdk_42_method_56_code 7 = .ok (.aload_n 0, 1) := by decide +kernel
theorem own_d8_8 : decode jdk_42_method_56_code 8 = .ok (.getfield 9, 3) := by decide +kernel
theorem own_d8_11 : decode jdk_42_method_56_code 11 = .ok (.iload_n 1, 1) := by decide +kernel
theorem own_d8_12 : decode jdk_42_method_56_code 12 = .ok (.invokestatic 495, 3) := by decide +kernel
theorem own_d8_15 : decode jdk_42_method_56_code 15 = .ok (.ireturn, 1) := by decide +kernel
theorem own_ef_8c68 (m : MethodId) (x0 : Addr) (x1 : Int32) : entryFrame m #[(.ref x0), (.int x1)] 2 = mkF m 0 #[sR x0, sI x1] [] := by first | (simp [entryFrame, mkF, argsToLocals, Value.category]; done) | rfl
def own_Q8c68 (Z : State) (a1 : Addr) (b : Addr) (kb : ClassId) (G1 : Int32) (fm : Value) (h0 : Heap) (n0 : Nat) (v : Option Value) (h : Heap) (L : List Loc) : Prop := v = some (.int 68) ∧ Fr n0 L ∧ h = h0
abbrev own_y9 : MethodName := ⟨"java/lang/String", "charAt", "(I)C"⟩
set_option maxRecDepth 65536 in
set_option maxHeartbeats 40000000 in
theorem own_rm8c68 (l : Launch) (Z : State) (a0 : Array Value) (hw : ∀ d ∈ tables_1, d.before a0 Z = true) (ws : List Jvm.Cond) (a1 : Addr) (b : Addr) (kb : ClassId) (G1 : Int32) (fm : Value) (h0 : Heap) (n0 : Nat) (Z0 : n0 ≤ h0.size) (E_a1 : Exa Z h0 a1 "java/lang/String") (F_coder_a1 : Fld Z h0 a1 "java/lang/String" "coder" "B" (.int 0)) (F_value_a1 : Fld Z h0 a1 "java/lang/String" "value" "[B" (.ref b)) (A_b : Arv Z h0 b kb .byte (1 : Int32) [(.int 68)] (.int 0)) (S_COMPACT_STRINGS : Sta Z h0 "java/lang/String" "COMPACT_STRINGS" "Z" (.int G1)) (hP5 : ¬ (G1 = (0 : Int32))) (S_SIOOBE_FORMATTER : Sta Z h0 "jdk/internal/util/Preconditions" "SIOOBE_FORMATTER" "Ljava/util/function/BiFunction;" fm) (rG : fm.isRef = true) :
    MetFree l own_y9 (head1 (Jvm.Cond.code own_y9 jdk_42_method_56_code 2 (some .char) :: ws) ({ frames := 3, cells := 0, slots := 0, locals := 40 } : Room)) (fun a U => a = #[(.ref a1), (.int 0)] ∧ Z.Warmed39 U.vm ∧ U.heap = h0) (fun _ _ _ _ _ => True) (fun _ U o U' => ∃ v L, o = .returned v ∧ own_Q8c68 Z a1 b kb G1 fm h0 n0 v U'.heap L ∧ FrameEnd U o U' L ({ frames := 3, cells := 0, slots := 0, locals := 40 } : Room).cells ({ frames := 3, cells := 0, slots := 0, locals := 40 } : Room).slots) := by
  refine MetFree.of_bodySF (plainFor_of_name own_pn_2) hisR ?_
  intro p e s m args below meth c s₁ Bd hml0 hP hK
  obtain ⟨rfl, hZ, hh⟩ := hP
  have hw24 := hw _ (List.mem_of_getElem? (i := 24) rfl)
  have hw36 := hw _ (List.mem_of_getElem? (i := 36) rfl)
  have hw54 := hw _ (List.mem_of_getElem? (i := 54) rfl)
  have hw55 := hw _ (List.mem_of_getElem? (i := 55) rfl)
  have hw56 := hw _ (List.mem_of_getElem? (i := 56) rfl)
  have hw57 := hw _ (List.mem_of_getElem? (i := 57) rfl)
  have hw58 := hw _ (List.mem_of_getElem? (i := 58) rfl)
  have hw59 := hw _ (List.mem_of_getElem? (i := 59) rfl)
  have hw60 := hw _ (List.mem_of_getElem? (i := 60) rfl)
  have hw61 := hw _ (List.mem_of_getElem? (i := 61) rfl)
  have hw62 := hw _ (List.mem_of_getElem? (i := 62) rfl)
  have hx := Bd.exec
  have hby := Bd.bytes
  have hml : c.maxLocals = 2 := hml0
  have hown : s.vm.findClass "java/lang/String" = some m.cls := findClass_of_methodNamed Bd.named
  have hnm := (name_of_methodNamed Bd.named Bd.method).1
  have X0 : Stand p l e ({ frames := 3, cells := 0, slots := 0, locals := 40 } : Room) s m #[(.ref a1), (.int 0)] below meth c s₁ [] 0 0 := Stand.of_body Bd
  have e0 : s₁.heap = h0 := by rw [← hh, Bd.state]; rfl
  have N0 := Fr.nil n0
  obtain ⟨R0, hR0⟩ : ∃ R : State → Prop, R = fun t => Steps p.tables e below (s₁.setTop (entryFrame m #[(.ref a1), (.int 0)] 2)) t := ⟨_, rfl⟩
  have pre0 : ∀ t, Steps p.tables e below (s₁.setTop (mkF m 0 #[sR a1, sI 0] [])) t → R0 t := fun t k => by rw [hR0]; exact castTop (own_ef_8c68 m a1 (0 : Int32)) k
  have pre1 : ∀ t, own_S p e below s₁ m 1 #[sR a1, sI 0] [(.ref a1)] t → R0 t := fun t k => pre0 t (by
    refine XS.aloadN X0.here hx rfl (hb hby own_d8_0) rfl rfl ?_
    exact k)
  have hp2 : ¬ (G1 = (0 : Int32)) := hP5
  obtain ⟨cq3, kq3, q3a, q3b, q3c⟩ := isOf hZ e0 E_a1
  obtain ⟨_, _, ⟨T3, L3, k3, n3⟩, -, X3, ⟨Lc3, hQ3, l3, y3, z3⟩, st3⟩ := X0.virtualBack hx (y := own_y4) (z := own_y4) hown (mvT hZ hw54) (mvT hZ hw55) (notFace_of_selects (args := #[]) (mvT hZ hw57)) (mvT hZ hw57) (mvT hZ hw56) (by decide) (backOf (W := 0) (own_rm9 l Z a0 hw [] a1 G1 h0 n0 Z0 F_coder_a1 S_COMPACT_STRINGS hp2) hZ hw58 hw24 (by decide) (by decide)) q3a q3c (g := (mkF m 1 #[sR a1, sI 0] [(.ref a1)])) rfl (by rw [hml]; rfl) (Steps.refl _) (argsL := []) (rest := []) (lenOf own_pd_4 rfl) rfl (by show 2 * 0 + _ ≤ _; exact Nat.le_of_eq rfl) (hb hby own_d8_1) (fun _ _ => ⟨rfl, e0, (by decide : 0 + 0 ≤ _), (by decide : 0 + 0 ≤ _)⟩)
  dsimp only [Pt.U, Pt.locs, Pt.cells, Pt.slots] at X3 l3 y3 z3 st3 hQ3
  subst l3 y3 z3
  obtain ⟨rfl, N3q, eh3⟩ := hQ3
  have N3 := Fr.app N0 N3q
  have pre4 : ∀ t, own_S p e below T3 m 8 #[sR a1, sI 0] [(.ref a1)] t → R0 t := fun t k => pre1 t (by
    refine st3.trans ?_
    show own_S p e below T3 m 4 #[sR a1, sI 0] [(.int 1)] _
    refine XS.ifNo X3.here hx rfl (hb hby own_d8_4) rfl ((if0 _ _).trans (feq (by decide : ¬ ((1 : Int32) = (0 : Int32)))).1) ?_
    show own_S p e below T3 m 7 #[sR a1, sI 0] [] _
    refine XS.aloadN X3.here hx rfl (hb hby own_d8_7) rfl rfl ?_
    exact k)
  obtain ⟨T5, X5, e5, st5⟩ := getF X3 hx hZ hown (host := "") (Or.inl hw36) Via.refl eh3 F_value_a1 (g := (mkF m 8 #[sR a1, sI 0] [(.ref a1)])) rfl rfl (hb hby own_d8_8)
  have pre6 : ∀ t, own_S p e below T5 m 12 #[sR a1, sI 0] [(.int 0), (.ref b)] t → R0 t := fun t k => pre4 t (by
    refine st5 _ ?_
    show own_S p e below T5 m 11 #[sR a1, sI 0] [(.ref b)] _
    refine XS.iloadN X5.here hx rfl (hb hby own_d8_11) rfl ?_
    exact k)
  have hp7 : fm.isRef = true := rG
  obtain ⟨_, _, ⟨T8, L8, k8, n8⟩, -, X8, ⟨Lc8, hQ8, l8, y8, z8⟩, st8⟩ := Jvm.LawKit.callS X5 hx (y := own_y8) hown (mvT hZ hw59) (mvT hZ hw60) (mvT hZ hw61) (mvT hZ hw62) (by decide) (backOf (W := 0) (own_rm10c68 l Z a0 hw [] b kb fm h0 n0 Z0 A_b S_SIOOBE_FORMATTER hp7) hZ hw62 hw61 (by decide) (by decide)) (g := (mkF m 12 #[sR a1, sI 0] [(.int 0), (.ref b)])) rfl (by rw [hml]; rfl) (argsL := [(.ref b), (.int 0)]) (rest := []) (lenOf own_pd_5 rfl) rfl (by show 2 * 0 + _ ≤ _; exact Nat.le_of_eq rfl) (hb hby own_d8_12) (fun _ _ => ⟨rfl, e5, (by decide : 0 + 0 ≤ _), (by decide : 0 + 0 ≤ _)⟩)
  dsimp only [Pt.U, Pt.locs, Pt.cells, Pt.slots] at X8 l8 y8 z8 st8 hQ8
  subst l8 y8 z8
  obtain ⟨rfl, N8q, eh8⟩ := hQ8
  have N8 := Fr.app N3 N8q
  have pre9 : ∀ t, own_S p e below T8 m 15 #[sR a1, sI 0] [(.int 68)] t → R0 t := fun t k => pre6 t (by
    refine st8 _ ?_
    exact k)
  obtain ⟨fs, hr, hrun, hended, hW, hsame⟩ := X8.leave (v := some (.int 68)) (fun h => by rw [Bd.returns] at h; cases h)
  refine ⟨_, _, cast (congrFun hR0 _) (pre9 _ (retN X8 hx (t := .char) Bd.returns (by simp) (hb hby own_d8_15) hr)), hrun, hended, _, _, rfl, ?_, ⟨_, rfl⟩, hW, hsame.mono (by decide) (by decide)⟩
  show own_Q8c68 Z _ _ _ _ _ h0 n0 _ T8.heap _
  rw [eh8]
  exact ⟨rfl, N8, rfl⟩
theorem own_ef_10c78 (m : MethodId) (x0 : Addr) (x1 : Int32) : entryFrame m #[(.ref x0), (.int x1)] 2 = mkF m 0 #[sR x0, sI x1] [] := by first | (simp [entryFrame, mkF, argsToLocals, Value.category]; done) | rfl
def own_Q10c78 (Z : State) (b : Addr) (kb : ClassId) (fm : Value) (h0 : Heap) (n0 : Nat) (v : Option Value) (h : Heap) (L : List Loc) : Prop := v = some (.int 78) ∧ Fr n0 L ∧ h = h0
set_option maxRecDepth 65536 in
set_option maxHeartbeats 40000000 in
theorem own_rm10c78 (l : Launch) (Z : State) (a0 : Array Value) (hw : ∀ d ∈ tables_1, d.before a0 Z = true) (ws : List Jvm.Cond) (b : Addr) (kb : ClassId) (fm : Value) (h0 : Heap) (n0 : Nat) (Z0 : n0 ≤ h0.size) (A_b : Arv Z h0 b kb .byte (1 : Int32) [(.int 78)] (.int 0)) (S_SIOOBE_FORMATTER : Sta Z h0 "jdk/internal/util/Preconditions" "SIOOBE_FORMATTER" "Ljava/util/function/BiFunction;" fm) (rG : fm.isRef = true) :
    MetFree l own_y8 (head1 (Jvm.Cond.code own_y8 jdk_43_method_2_code 2 (some .char) :: ws) ({ frames := 2, cells := 0, slots := 0, locals := 27 } : Room)) (fun a U => a = #[(.ref b), (.int 0)] ∧ Z.Warmed39 U.vm ∧ U.heap = h0) (fun _ _ _ _ _ => True) (fun _ U o U' => ∃ v L, o = .returned v ∧ own_Q10c78 Z b kb fm h0 n0 v U'.heap L ∧ FrameEnd U o U' L ({ frames := 2, cells := 0, slots := 0, locals := 27 } : Room).cells ({ frames := 2, cells := 0, slots := 0, locals := 27 } : Room).slots) := by
  refine MetFree.of_bodySF (plainFor_of_name own_pn_4) hisR ?_
  intro p e s m args below meth c s₁ Bd hml0 hP hK
  obtain ⟨rfl, hZ, hh⟩ := hP
  have hw24 := hw _ (List.mem_of_getElem? (i := 24) rfl)
  have hw63 := hw _ (List.mem_of_getElem? (i := 63) rfl)
  have hw64 := hw _ (List.mem_of_getElem? (i := 64) rfl)
  have hw65 := hw _ (List.mem_of_getElem? (i := 65) rfl)
  have hx := Bd.exec
  have hby := Bd.bytes
  have hml : c.maxLocals = 2 := hml0
  have hown : s.vm.findClass "java/lang/StringLatin1" = some m.cls := findClass_of_methodNamed Bd.named
  have hnm := (name_of_methodNamed Bd.named Bd.method).1
  have X0 : Stand p l e ({ frames := 2, cells := 0, slots := 0, locals := 27 } : Room) s m #[(.ref b), (.int 0)] below meth c s₁ [] 0 0 := Stand.of_body Bd
  have e0 : s₁.heap = h0 := by rw [← hh, Bd.state]; rfl
  have N0 := Fr.nil n0
  obtain ⟨R0, hR0⟩ : ∃ R : State → Prop, R = fun t => Steps p.tables e below (s₁.setTop (entryFrame m #[(.ref b), (.int 0)] 2)) t := ⟨_, rfl⟩
  have pre0 : ∀ t, Steps p.tables e below (s₁.setTop (mkF m 0 #[sR b, sI 0] [])) t → R0 t := fun t k => by rw [hR0]; exact castTop (own_ef_10c78 m b (0 : Int32)) k
  have pre1 : ∀ t, own_S p e below s₁ m 2 #[sR b, sI 0] [(.ref b), (.int 0)] t → R0 t := fun t k => pre0 t (by
    refine XS.iloadN X0.here hx rfl (hb hby own_d10_0) rfl ?_
    show own_S p e below s₁ m 1 #[sR b, sI 0] [(.int 0)] _
    refine XS.aloadN X0.here hx rfl (hb hby own_d10_1) rfl rfl ?_
    exact k)
  obtain ⟨cl2, Ar2, q2, S2, N2, H2, G2⟩ := id A_b
  have pre3 : ∀ t, own_S p e below s₁ m 3 #[sR b, sI 0] [(.int 1), (.int 0)] t → R0 t := fun t k => pre1 t (by
    refine X0.arraylength hx (by rw [e0]; exact Ar2.1) (State.isArrayOf_alike hZ.alike Ar2.2.1) (g := (mkF m 2 #[sR b, sI 0] [(.ref b), (.int 0)])) rfl rfl (hb hby own_d10_2) _ ?_
    rw [len_of S2 N2]
    exact k)
  have hp4 : fm.isRef = true := rG
  obtain ⟨_, _, ⟨T5, L5, k5, n5⟩, -, X5, ⟨Lc5, hQ5, l5, y5, z5⟩, st5⟩ := Jvm.LawKit.callS X0 hx (y := own_y7) hown (mvT hZ hw63) (mvT hZ hw64) (mvT hZ hw24) (mvT hZ hw65) (by decide) (backOf (W := 0) (own_rm11 l Z a0 hw [] fm h0 n0 Z0 S_SIOOBE_FORMATTER hp4) hZ hw65 hw24 (by decide) (by decide)) (g := (mkF m 3 #[sR b, sI 0] [(.int 1), (.int 0)])) rfl (by rw [hml]; rfl) (argsL := [(.int 0), (.int 1)]) (rest := []) (lenOf own_pd_3 rfl) rfl (by show 2 * 0 + _ ≤ _; exact Nat.le_of_eq rfl) (hb hby own_d10_3) (fun _ _ => ⟨rfl, e0, (by decide : 0 + 0 ≤ _), (by decide : 0 + 0 ≤ _)⟩)
  dsimp only [Pt.U, Pt.locs, Pt.cells, Pt.slots] at X5 l5 y5 z5 st5 hQ5
  subst l5 y5 z5
  obtain ⟨rfl, N5q, eh5⟩ := hQ5
  have N5 := Fr.app N0 N5q
  have pre6 : ∀ t, own_S p e below T5 m 8 #[sR b, sI 0] [(.int 0), (.ref b)] t → R0 t := fun t k => pre3 t (by
    refine st5 _ ?_
    show own_S p e below T5 m 6 #[sR b, sI 0] [] _
    refine XS.aloadN X5.here hx rfl (hb hby own_d10_6) rfl rfl ?_
    show own_S p e below T5 m 7 #[sR b, sI 0] [(.ref b)] _
    refine XS.iloadN X5.here hx rfl (hb hby own_d10_7) rfl ?_
    exact k)
  obtain ⟨cl7, Ar7, q7, S7, N7, H7, G7⟩ := id A_b
  have hin7 := inb_of (j := (0 : Int32)) S7 ⟨by decide, by decide⟩
  have pre8 : ∀ t, own_S p e below T5 m 14 #[sR b, sI 0] [(.int (((78 : Int32) &&& (255 : Int32)).toUInt32.toUInt16.toUInt32.toInt32))] t → R0 t := fun t k => pre6 t (by
    refine X5.baloadBytes hx (j := (0 : Int32)) (v := (.int 78)) (by rw [eh5]; exact Ar7.1) (State.isArrayOf_alike hZ.alike Ar7.2.1) Ar7.2.2 hin7 (H7.at hin7 rfl) (g := (mkF m 8 #[sR b, sI 0] [(.int 0), (.ref b)])) rfl rfl (hb hby own_d10_8) _ ?_
    show own_S p e below T5 m 9 #[sR b, sI 0] [(.int 78)] _
    refine XS.sipush X5.here hx rfl (hb hby own_d10_9) ?_
    show own_S p e below T5 m 12 #[sR b, sI 0] [(.int 255), (.int 78)] _
    refine XS.iand X5.here hx rfl (hb hby own_d10_12) rfl ?_
    show own_S p e below T5 m 13 #[sR b, sI 0] [(.int ((78 : Int32) &&& (255 : Int32)))] _
    refine XS.i2c X5.here hx rfl (hb hby own_d10_13) rfl ?_
    exact k)
  obtain ⟨fs, hr, hrun, hended, hW, hsame⟩ := X5.leave (v := some (.int (((78 : Int32) &&& (255 : Int32)).toUInt32.toUInt16.toUInt32.toInt32))) (fun h => by rw [Bd.returns] at h; cases h)
  refine ⟨_, _, cast (congrFun hR0 _) (pre8 _ (retN X5 hx (t := .char) Bd.returns (by simp) (hb hby own_d10_14) hr)), hrun, hended, _, _, rfl, ?_, ⟨_, rfl⟩, hW, hsame.mono (by decide) (by decide)⟩
  show own_Q10c78 Z _ _ _ h0 n0 _ T5.heap _
  rw [eh5]
  exact ⟨rfl, N5, rfl⟩
theorem own_ef_8c78 (m : MethodId) (x0 : Addr) (x1 : Int32) : entryFrame m #[(.ref x0), (.int x1)] 2 = mkF m 0 #[sR x0, sI x1] [] := by first | (simp [entryFrame, mkF, argsToLocals, Value.category]; done) | rfl
def own_Q8c78 (Z : State) (a1 : Addr) (b : Addr) (kb : ClassId) (G1 : Int32) (fm : Value) (h0 : Heap) (n0 : Nat) (v : Option Value) (h : Heap) (L : List Loc) : Prop := v = some (.int 78) ∧ Fr n0 L ∧ h = h0
set_option maxRecDepth 65536 in
set_option maxHeartbeats 40000000 in
theorem own_rm8c78 (l : Launch) (Z : State) (a0 : Array Value) (hw : ∀ d ∈ tables_1, d.before a0 Z = true) (ws : List Jvm.Cond) (a1 : Addr) (b : Addr) (kb : ClassId) (G1 : Int32) (fm : Value) (h0 : Heap) (n0 : Nat) (Z0 : n0 ≤ h0.size) (E_a1 : Exa Z h0 a1 "java/lang/String") (F_coder_a1 : Fld Z h0 a1 "java/lang/String" "coder" "B" (.int 0)) (F_value_a1 : Fld Z h0 a1 "java/lang/String" "value" "[B" (.ref b)) (A_b : Arv Z h0 b kb .byte (1 : Int32) [(.int 78)] (.int 0)) (S_COMPACT_STRINGS : Sta Z h0 "java/lang/String" "COMPACT_STRINGS" "Z" (.int G1)) (hP5 : ¬ (G1 = (0 : Int32))) (S_SIOOBE_FORMATTER : Sta Z h0 "jdk/internal/util/Preconditions" "SIOOBE_FORMATTER" "Ljava/util/function/BiFunction;" fm) (rG : fm.isRef = true) :
    MetFree l own_y9 (head1 (Jvm.Cond.code own_y9 jdk_42_method_56_code 2 (some .char) :: ws) ({ frames := 3, cells := 0, slots := 0, locals := 40 } : Room)) (fun a U => a = #[(.ref a1), (.int 0)] ∧ Z.Warmed39 U.vm ∧ U.heap = h0) (fun _ _ _ _ _ => True) (fun _ U o U' => ∃ v L, o = .returned v ∧ own_Q8c78 Z a1 b kb G1 fm h0 n0 v U'.heap L ∧ FrameEnd U o U' L ({ frames := 3, cells := 0, slots := 0, locals := 40 } : Room).cells ({ frames := 3, cells := 0, slots := 0, locals := 40 } : Room).slots) := by
  refine MetFree.of_bodySF (plainFor_of_name own_pn_2) hisR ?_
  intro p e s m args below meth c s₁ Bd hml0 hP hK
  obtain ⟨rfl, hZ, hh⟩ := hP
  have hw24 := hw _ (List.mem_of_getElem? (i := 24) rfl)
  have hw36 := hw _ (List.mem_of_getElem? (i := 36) rfl)
  have hw54 := hw _ (List.mem_of_getElem? (i := 54) rfl)
  have hw55 := hw _ (List.mem_of_getElem? (i := 55) rfl)
  have hw56 := hw _ (List.mem_of_getElem? (i := 56) rfl)
  have hw57 := hw _ (List.mem_of_getElem? (i := 57) rfl)
  have hw58 := hw _ (List.mem_of_getElem? (i := 58) rfl)
  have hw59 := hw _ (List.mem_of_getElem? (i := 59) rfl)
  have hw60 := hw _ (List.mem_of_getElem? (i := 60) rfl)
  have hw61 := hw _ (List.mem_of_getElem? (i := 61) rfl)
  have hw62 := hw _ (List.mem_of_getElem? (i := 62) rfl)
  have hx := Bd.exec
  have hby := Bd.bytes
  have hml : c.maxLocals = 2 := hml0
  have hown : s.vm.findClass "java/lang/String" = some m.cls := findClass_of_methodNamed Bd.named
  have hnm := (name_of_methodNamed Bd.named Bd.method).1
  have X0 : Stand p l e ({ frames := 3, cells := 0, slots := 0, locals := 40 } : Room) s m #[(.ref a1), (.int 0)] below meth c s₁ [] 0 0 := Stand.of_body Bd
  have e0 : s₁.heap = h0 := by rw [← hh, Bd.state]; rfl
  have N0 := Fr.nil n0
  obtain ⟨R0, hR0⟩ : ∃ R : State → Prop, R = fun t => Steps p.tables e below (s₁.setTop (entryFrame m #[(.ref a1), (.int 0)] 2)) t := ⟨_, rfl⟩
  have pre0 : ∀ t, Steps p.tables e below (s₁.setTop (mkF m 0 #[sR a1, sI 0] [])) t → R0 t := fun t k => by rw [hR0]; exact castTop (own_ef_8c78 m a1 (0 : Int32)) k
  have pre1 : ∀ t, own_S p e below s₁ m 1 #[sR a1, sI 0] [(.ref a1)] t → R0 t := fun t k => pre0 t (by
    refine XS.aloadN X0.here hx rfl (hb hby own_d8_0) rfl rfl ?_
    exact k)
  have hp2 : ¬ (G1 = (0 : Int32)) := hP5
  obtain ⟨cq3, kq3, q3a, q3b, q3c⟩ := isOf hZ e0 E_a1
  obtain ⟨_, _, ⟨T3, L3, k3, n3⟩, -, X3, ⟨Lc3, hQ3, l3, y3, z3⟩, st3⟩ := X0.virtualBack hx (y := own_y4) (z := own_y4) hown (mvT hZ hw54) (mvT hZ hw55) (notFace_of_selects (args := #[]) (mvT hZ hw57)) (mvT hZ hw57) (mvT hZ hw56) (by decide) (backOf (W := 0) (own_rm9 l Z a0 hw [] a1 G1 h0 n0 Z0 F_coder_a1 S_COMPACT_STRINGS hp2) hZ hw58 hw24 (by decide) (by decide)) q3a q3c (g := (mkF m 1 #[sR a1, sI 0] [(.ref a1)])) rfl (by rw [hml]; rfl) (Steps.refl _) (argsL := []) (rest := []) (lenOf own_pd_4 rfl) rfl (by show 2 * 0 + _ ≤ _; exact Nat.le_of_eq rfl) (hb hby own_d8_1) (fun _ _ => ⟨rfl, e0, (by decide : 0 + 0 ≤ _), (by decide : 0 + 0 ≤ _)⟩)
  dsimp only [Pt.U, Pt.locs, Pt.cells, Pt.slots] at X3 l3 y3 z3 st3 hQ3
  subst l3 y3 z3
  obtain ⟨rfl, N3q, eh3⟩ := hQ3
  have N3 := Fr.app N0 N3q
  have pre4 : ∀ t, own_S p e below T3 m 8 #[sR a1, sI 0] [(.ref a1)] t → R0 t := fun t k => pre1 t (by
    refine st3.trans ?_
    show own_S p e below T3 m 4 #[sR a1, sI 0] [(.int 1)] _
    refine XS.ifNo X3.here hx rfl (hb hby own_d8_4) rfl ((if0 _ _).trans (feq (by decide : ¬ ((1 : Int32) = (0 : Int32)))).1) ?_
    show own_S p e below T3 m 7 #[sR a1, sI 0] [] _
    refine XS.aloadN X3.here hx rfl (hb hby own_d8_7) rfl rfl ?_
    exact k)
  obtain ⟨T5, X5, e5, st5⟩ := getF X3 hx hZ hown (host := "") (Or.inl hw36) Via.refl eh3 F_value_a1 (g := (mkF m 8 #[sR a1, sI 0] [(.ref a1)])) rfl rfl (hb hby own_d8_8)
  have pre6 : ∀ t, own_S p e below T5 m 12 #[sR a1, sI 0] [(.int 0), (.ref b)] t → R0 t := fun t k => pre4 t (by
    refine st5 _ ?_
    show own_S p e below T5 m 11 #[sR a1, sI 0] [(.ref b)] _
    refine XS.iloadN X5.here hx rfl (hb hby own_d8_11) rfl ?_
    exact k)
  have hp7 : fm.isRef = true := rG
  obtain ⟨_, _, ⟨T8, L8, k8, n8⟩, -, X8, ⟨Lc8, hQ8, l8, y8, z8⟩, st8⟩ := Jvm.LawKit.callS X5 hx (y := own_y8) hown (mvT hZ hw59) (mvT hZ hw60) (mvT hZ hw61) (mvT hZ hw62) (by decide) (backOf (W := 0) (own_rm10c78 l Z a0 hw [] b kb fm h0 n0 Z0 A_b S_SIOOBE_FORMATTER hp7) hZ hw62 hw61 (by decide) (by decide)) (g := (mkF m 12 #[sR a1, sI 0] [(.int 0), (.ref b)])) rfl (by rw [hml]; rfl) (argsL := [(.ref b), (.int 0)]) (rest := []) (lenOf own_pd_5 rfl) rfl (by show 2 * 0 + _ ≤ _; exact Nat.le_of_eq rfl) (hb hby own_d8_12) (fun _ _ => ⟨rfl, e5, (by decide : 0 + 0 ≤ _), (by decide : 0 + 0 ≤ _)⟩)
  dsimp only [Pt.U, Pt.locs, Pt.cells, Pt.slots] at X8 l8 y8 z8 st8 hQ8
  subst l8 y8 z8
  obtain ⟨rfl, N8q, eh8⟩ := hQ8
  have N8 := Fr.app N3 N8q
  have pre9 : ∀ t, own_S p e below T8 m 15 #[sR a1, sI 0] [(.int 78)] t → R0 t := fun t k => pre6 t (by
    refine st8 _ ?_
    exact k)
  obtain ⟨fs, hr, hrun, hended, hW, hsame⟩ := X8.leave (v := some (.int 78)) (fun h => by rw [Bd.returns] at h; cases h)
  refine ⟨_, _, cast (congrFun hR0 _) (pre9 _ (retN X8 hx (t := .char) Bd.returns (by simp) (hb hby own_d8_15) hr)), hrun, hended, _, _, rfl, ?_, ⟨_, rfl⟩, hW, hsame.mono (by decide) (by decide)⟩
  show own_Q8c78 Z _ _ _ _ _ h0 n0 _ T8.heap _
  rw [eh8]
  exact ⟨rfl, N8, rfl⟩
abbrev own_y10 : MethodName := ⟨"com/example/tablier/tablier/arena/Result", "ending", "()Ljava/lang/String;"⟩
theorem own_e_0 : decode prog_22_method_4_code 0 = .ok (.aload_n 0, 1) := by decide +kernel
theorem own_e_1 : decode prog_22_method_4_code 1 = .ok (.getfield 13, 3) := by decide +kernel
theorem own_e_4 : decode prog_22_method_4_code 4 = .ok (.ifCond .eq 8, 3) := by decide +kernel
theorem own_e_7 : decode prog_22_method_4_code 7 = .ok (.ldc 54, 2) := by decide +kernel
theorem own_e_9 : decode prog_22_method_4_code 9 = .ok (.goto 5, 3) := by decide +kernel
theorem own_e_12 : decode prog_22_method_4_code 12 = .ok (.ldc 66, 2) := by decide +kernel
theorem own_e_14 : decode prog_22_method_4_code 14 = .ok (.areturn, 1) := by decide +kernel
theorem own_eef (m : MethodId) (x0 : Addr) : entryFrame m #[(.ref x0)] 1 = mkF m 0 #[sR x0] [] := by first | (simp [entryFrame, mkF, argsToLocals, Value.category]; done) | rfl
def own_E1 (Z : State) (h0 : Heap) (idx : Nat) (ch : Int32) (v : Option Value) (U' : State) : Prop := ∃ (a b : Addr) (k : ClassId), v = some (.ref a) ∧ Ext h0 U'.heap ∧ Exa Z U'.heap a "java/lang/String" ∧ Fld Z U'.heap a "java/lang/String" "coder" "B" (.int 0) ∧ Fld Z U'.heap a "java/lang/String" "value" "[B" (.ref b) ∧ Arv Z U'.heap b k .byte (1 : Int32) [.int ch] (.int 0) ∧ Lit U' "com/example/tablier/tablier/arena/Result" idx a
set_option maxRecDepth 65536 in
set_option maxHeartbeats 40000000 in
theorem own_c0 (l : Launch) (Z : State) (a0 : Array Value) (hw : ∀ d ∈ tables_1, d.before a0 Z = true) (a1 : Addr) (h0 : Heap) (F : Fld Z h0 a1 "com/example/tablier/tablier/arena/Result" "byDisqualification" "Z" (.int (0 : Int32))) (hold : Ext Z.heap h0) (hh : Jvm.Lit.constHeld Z "com/example/tablier/tablier/arena/Result" 66) (hcw : Jvm.Lit.compactW.before a0 Z = true) :
    MetFree l own_y10 (head1 [Jvm.Cond.code own_y10 prog_22_method_4_code 1 (some (.object "java/lang/String"))] ({ frames := 0, cells := 2, slots := 8, locals := 0 } : Room)) (fun a U => a = #[(.ref a1)] ∧ Z.Warmed39 U.vm ∧ U.heap = h0 ∧ U.vm.interned = Z.vm.interned) (fun _ _ _ _ _ => True) (fun _ U o U' => ∃ v, o = .returned v ∧ own_E1 Z h0 66 78 v U' ∧ ReturnedEndW U o U' [] 2 8) := by
  refine MetFree.of_bodySF (plainFor_of_name own_pn_1) hisR ?_
  intro p e s m args below meth c s₁ Bd hml0 hP hK
  obtain ⟨rfl, hZ, hh0, hint⟩ := hP
  have hx := Bd.exec
  have hby := Bd.bytes
  have hown : s.vm.findClass "com/example/tablier/tablier/arena/Result" = some m.cls := findClass_of_methodNamed Bd.named
  have X0 : Stand p l e ({ frames := 0, cells := 2, slots := 8, locals := 0 } : Room) s m #[(.ref a1)] below meth c s₁ [] 0 0 := Stand.of_body Bd
  have e0 : s₁.heap = h0 := by rw [← hh0, Bd.state]; rfl
  obtain ⟨T1, X1, e1, st1⟩ := getF X0 hx hZ hown (host := "") (Or.inl (hw _ (List.mem_of_getElem? (i := 16) rfl))) Via.refl e0 F (g := (mkF m 1 #[sR a1] [(.ref a1)])) rfl rfl (hb hby own_e_1)
  have hIB : IB Z s.vm [] := ⟨#[], by rw [hint]; simp, fun q hq => by simp at hq⟩
  have wS : ∀ a ∈ Bundle.stringAtoms, a.before a0 Z = true := fun d hd => hw d ((by decide +kernel : ∀ d ∈ Bundle.stringAtoms, d ∈ tables_1) d hd)
  obtain ⟨es, T2, h2, k1, b, kk, X2, e2, E2, hS2, hk2, -, -, Ex, Fc, Fv, Va, -, -, -, L2, st2⟩ := ldcSVL (s := s) (vm0 := s.vm) X1 hx hZ hown (hw _ (List.mem_of_getElem? (i := 23) rfl)) wS e1 (k0 := 0) ((State.WarmedH.refl s).since 0) (Nat.zero_le _) (Fr.nil _) (fun x cl q => by rw [hh0]; exact hold.2 x cl q) hIB (by simp) hh hcw (vs := [.int (78 : Int32)]) (z := (1 : Int32)) ⟨by decide, by decide⟩ (by decide) rfl (g := (mkF m 12 #[sR a1] [])) rfl (hb hby own_e_12) (n := 4) (by decide) (by decide) (by decide) (by decide)
  obtain ⟨fs, hr, hrun, hended, hEnd⟩ := X2.leaveW hS2 (by rw [e2]; exact hk2) (v := some (.ref es)) (fun h => by rw [Bd.returns] at h; cases h)
  have e2' : (T2.setFrames fs).heap = h2 := e2
  refine ⟨_, _, castTop (own_eef m a1) ?_, hrun, hended, _, rfl, ⟨es, b, kk, rfl, by rw [e2']; exact E2, by rw [e2']; exact Ex, by rw [e2']; exact Fc, by rw [e2']; exact Fv, by rw [e2']; exact Va, L2⟩, hEnd⟩
  · show own_S p e below s₁ m 0 #[sR a1] [] _
    refine XS.aloadN X0.here hx rfl (hb hby own_e_0) rfl rfl ?_
    show own_S p e below s₁ m 1 #[sR a1] [(.ref a1)] _
    refine st1 _ ?_
    show own_S p e below T1 m 4 #[sR a1] [(.int 0)] _
    refine XS.ifYes X1.here hx rfl (pc0 := 4) (pc' := 12) rfl (hb hby own_e_4) rfl ((if0 _ _).trans (teq (rfl : (0 : Int32) = (0 : Int32))).1) (by decide) (by decide) ?_
    show own_S p e below T1 m 12 #[sR a1] [] _
    refine st2 _ ?_
    show own_S p e below T2 m 14 #[sR a1] [(.ref es)] _
    exact retOut X2 hx Bd.returns rfl (Or.inr (Or.inr (Or.inr (Or.inr ⟨rfl, rfl, rfl⟩)))) (hb hby own_e_14) hr
set_option maxRecDepth 65536 in
set_option maxHeartbeats 40000000 in
theorem own_a0 (l : Launch) (Z : State) (a0 : Array Value) (hw : ∀ d ∈ tables_1, d.before a0 Z = true) (a1 : Addr) (h0 : Heap) (F : Fld Z h0 a1 "com/example/tablier/tablier/arena/Result" "byDisqualification" "Z" (.int (0 : Int32))) (es : Addr) :
    MetFree l own_y10 (head1 [Jvm.Cond.code own_y10 prog_22_method_4_code 1 (some (.object "java/lang/String"))] ({ frames := 0, cells := 0, slots := 0, locals := 0 } : Room)) (fun a U => a = #[(.ref a1)] ∧ Z.Warmed39 U.vm ∧ U.heap = h0 ∧ Lit U "com/example/tablier/tablier/arena/Result" 66 es) (fun _ _ _ _ _ => True) (fun _ U o U' => ∃ v L, o = .returned v ∧ (v = some (.ref es) ∧ L = [] ∧ U'.heap = h0) ∧ FrameEnd U o U' L 0 0) := by
  refine MetFree.of_bodySF (plainFor_of_name own_pn_1) hisR ?_
  intro p e s m args below meth c s₁ Bd hml0 hP hK
  obtain ⟨rfl, hZ, hh0, hint⟩ := hP
  have hx := Bd.exec
  have hby := Bd.bytes
  have hown : s.vm.findClass "com/example/tablier/tablier/arena/Result" = some m.cls := findClass_of_methodNamed Bd.named
  have X0 : Stand p l e ({ frames := 0, cells := 0, slots := 0, locals := 0 } : Room) s m #[(.ref a1)] below meth c s₁ [] 0 0 := Stand.of_body Bd
  have e0 : s₁.heap = h0 := by rw [← hh0, Bd.state]; rfl
  obtain ⟨T1, X1, e1, st1⟩ := getF X0 hx hZ hown (host := "") (Or.inl (hw _ (List.mem_of_getElem? (i := 16) rfl))) Via.refl e0 F (g := (mkF m 1 #[sR a1] [(.ref a1)])) rfl rfl (hb hby own_e_1)
  have st2 := ldcAgain (s := s) (vm0 := s.vm) X1 hx hZ hown (hw _ (List.mem_of_getElem? (i := 23) rfl)) hint (g := (mkF m 12 #[sR a1] [])) rfl (hb hby own_e_12)
  obtain ⟨fs, hr, hrun, hended, hW, hsame⟩ := X1.leave (v := some (.ref es)) (fun h => by rw [Bd.returns] at h; cases h)
  refine ⟨_, _, castTop (own_eef m a1) ?_, hrun, hended, _, _, rfl, ⟨rfl, rfl, e1⟩, ⟨_, rfl⟩, hW, hsame⟩
  · show own_S p e below s₁ m 0 #[sR a1] [] _
    refine XS.aloadN X0.here hx rfl (hb hby own_e_0) rfl rfl ?_
    show own_S p e below s₁ m 1 #[sR a1] [(.ref a1)] _
    refine st1 _ ?_
    show own_S p e below T1 m 4 #[sR a1] [(.int 0)] _
    refine XS.ifYes X1.here hx rfl (pc0 := 4) (pc' := 12) rfl (hb hby own_e_4) rfl ((if0 _ _).trans (teq (rfl : (0 : Int32) = (0 : Int32))).1) (by decide) (by decide) ?_
    show own_S p e below T1 m 12 #[sR a1] [] _
    refine st2 _ ?_
    show own_S p e below T1 m 14 #[sR a1] [(.ref es)] _
    exact retOut X1 hx Bd.returns rfl (Or.inr (Or.inr (Or.inr (Or.inr ⟨rfl, rfl, rfl⟩)))) (hb hby own_e_14) hr
set_option maxRecDepth 65536 in
set_option maxHeartbeats 40000000 in
theorem own_c1 (l : Launch) (Z : State) (a0 : Array Value) (hw : ∀ d ∈ tables_1, d.before a0 Z = true) (a1 : Addr) (h0 : Heap) (F : Fld Z h0 a1 "com/example/tablier/tablier/arena/Result" "byDisqualification" "Z" (.int (1 : Int32))) (hold : Ext Z.heap h0) (hh : Jvm.Lit.constHeld Z "com/example/tablier/tablier/arena/Result" 54) (hcw : Jvm.Lit.compactW.before a0 Z = true) :
    MetFree l own_y10 (head1 [Jvm.Cond.code own_y10 prog_22_method_4_code 1 (some (.object "java/lang/String"))] ({ frames := 0, cells := 2, slots := 8, locals := 0 } : Room)) (fun a U => a = #[(.ref a1)] ∧ Z.Warmed39 U.vm ∧ U.heap = h0 ∧ U.vm.interned = Z.vm.interned) (fun _ _ _ _ _ => True) (fun _ U o U' => ∃ v, o = .returned v ∧ own_E1 Z h0 54 68 v U' ∧ ReturnedEndW U o U' [] 2 8) := by
  refine MetFree.of_bodySF (plainFor_of_name own_pn_1) hisR ?_
  intro p e s m args below meth c s₁ Bd hml0 hP hK
  obtain ⟨rfl, hZ, hh0, hint⟩ := hP
  have hx := Bd.exec
  have hby := Bd.bytes
  have hown : s.vm.findClass "com/example/tablier/tablier/arena/Result" = some m.cls := findClass_of_methodNamed Bd.named
  have X0 : Stand p l e ({ frames := 0, cells := 2, slots := 8, locals := 0 } : Room) s m #[(.ref a1)] below meth c s₁ [] 0 0 := Stand.of_body Bd
  have e0 : s₁.heap = h0 := by rw [← hh0, Bd.state]; rfl
  obtain ⟨T1, X1, e1, st1⟩ := getF X0 hx hZ hown (host := "") (Or.inl (hw _ (List.mem_of_getElem? (i := 16) rfl))) Via.refl e0 F (g := (mkF m 1 #[sR a1] [(.ref a1)])) rfl rfl (hb hby own_e_1)
  have hIB : IB Z s.vm [] := ⟨#[], by rw [hint]; simp, fun q hq => by simp at hq⟩
  have wS : ∀ a ∈ Bundle.stringAtoms, a.before a0 Z = true := fun d hd => hw d ((by decide +kernel : ∀ d ∈ Bundle.stringAtoms, d ∈ tables_1) d hd)
  obtain ⟨es, T2, h2, k1, b, kk, X2, e2, E2, hS2, hk2, -, -, Ex, Fc, Fv, Va, -, -, -, L2, st2⟩ := ldcSVL (s := s) (vm0 := s.vm) X1 hx hZ hown (hw _ (List.mem_of_getElem? (i := 71) rfl)) wS e1 (k0 := 0) ((State.WarmedH.refl s).since 0) (Nat.zero_le _) (Fr.nil _) (fun x cl q => by rw [hh0]; exact hold.2 x cl q) hIB (by simp) hh hcw (vs := [.int (68 : Int32)]) (z := (1 : Int32)) ⟨by decide, by decide⟩ (by decide) rfl (g := (mkF m 7 #[sR a1] [])) rfl (hb hby own_e_7) (n := 4) (by decide) (by decide) (by decide) (by decide)
  obtain ⟨fs, hr, hrun, hended, hEnd⟩ := X2.leaveW hS2 (by rw [e2]; exact hk2) (v := some (.ref es)) (fun h => by rw [Bd.returns] at h; cases h)
  have e2' : (T2.setFrames fs).heap = h2 := e2
  refine ⟨_, _, castTop (own_eef m a1) ?_, hrun, hended, _, rfl, ⟨es, b, kk, rfl, by rw [e2']; exact E2, by rw [e2']; exact Ex, by rw [e2']; exact Fc, by rw [e2']; exact Fv, by rw [e2']; exact Va, L2⟩, hEnd⟩
  · show own_S p e below s₁ m 0 #[sR a1] [] _
    refine XS.aloadN X0.here hx rfl (hb hby own_e_0) rfl rfl ?_
    show own_S p e below s₁ m 1 #[sR a1] [(.ref a1)] _
    refine st1 _ ?_
    show own_S p e below T1 m 4 #[sR a1] [(.int 1)] _
    refine XS.ifNo X1.here hx rfl (hb hby own_e_4) rfl ((if0 _ _).trans (feq (by decide : ¬ ((1 : Int32) = (0 : Int32)))).1) ?_
    show own_S p e below T1 m 7 #[sR a1] [] _
    refine st2 _ ?_
    show own_S p e below T2 m 9 #[sR a1] [(.ref es)] _
    refine XS.goto X2.here hx rfl (pc0 := 9) (pc' := 14) rfl (hb hby own_e_9) (by decide) (by decide) ?_
    show own_S p e below T2 m 14 #[sR a1] [(.ref es)] _
    exact retOut X2 hx Bd.returns rfl (Or.inr (Or.inr (Or.inr (Or.inr ⟨rfl, rfl, rfl⟩)))) (hb hby own_e_14) hr
set_option maxRecDepth 65536 in
set_option maxHeartbeats 40000000 in
theorem own_a1 (l : Launch) (Z : State) (a0 : Array Value) (hw : ∀ d ∈ tables_1, d.before a0 Z = true) (a1 : Addr) (h0 : Heap) (F : Fld Z h0 a1 "com/example/tablier/tablier/arena/Result" "byDisqualification" "Z" (.int (1 : Int32))) (es : Addr) :
    MetFree l own_y10 (head1 [Jvm.Cond.code own_y10 prog_22_method_4_code 1 (some (.object "java/lang/String"))] ({ frames := 0, cells := 0, slots := 0, locals := 0 } : Room)) (fun a U => a = #[(.ref a1)] ∧ Z.Warmed39 U.vm ∧ U.heap = h0 ∧ Lit U "com/example/tablier/tablier/arena/Result" 54 es) (fun _ _ _ _ _ => True) (fun _ U o U' => ∃ v L, o = .returned v ∧ (v = some (.ref es) ∧ L = [] ∧ U'.heap = h0) ∧ FrameEnd U o U' L 0 0) := by
  refine MetFree.of_bodySF (plainFor_of_name own_pn_1) hisR ?_
  intro p e s m args below meth c s₁ Bd hml0 hP hK
  obtain ⟨rfl, hZ, hh0, hint⟩ := hP
  have hx := Bd.exec
  have hby := Bd.bytes
  have hown : s.vm.findClass "com/example/tablier/tablier/arena/Result" = some m.cls := findClass_of_methodNamed Bd.named
  have X0 : Stand p l e ({ frames := 0, cells := 0, slots := 0, locals := 0 } : Room) s m #[(.ref a1)] below meth c s₁ [] 0 0 := Stand.of_body Bd
  have e0 : s₁.heap = h0 := by rw [← hh0, Bd.state]; rfl
  obtain ⟨T1, X1, e1, st1⟩ := getF X0 hx hZ hown (host := "") (Or.inl (hw _ (List.mem_of_getElem? (i := 16) rfl))) Via.refl e0 F (g := (mkF m 1 #[sR a1] [(.ref a1)])) rfl rfl (hb hby own_e_1)
  have st2 := ldcAgain (s := s) (vm0 := s.vm) X1 hx hZ hown (hw _ (List.mem_of_getElem? (i := 71) rfl)) hint (g := (mkF m 7 #[sR a1] [])) rfl (hb hby own_e_7)
  obtain ⟨fs, hr, hrun, hended, hW, hsame⟩ := X1.leave (v := some (.ref es)) (fun h => by rw [Bd.returns] at h; cases h)
  refine ⟨_, _, castTop (own_eef m a1) ?_, hrun, hended, _, _, rfl, ⟨rfl, rfl, e1⟩, ⟨_, rfl⟩, hW, hsame⟩
  · show own_S p e below s₁ m 0 #[sR a1] [] _
    refine XS.aloadN X0.here hx rfl (hb hby own_e_0) rfl rfl ?_
    show own_S p e below s₁ m 1 #[sR a1] [(.ref a1)] _
    refine st1 _ ?_
    show own_S p e below T1 m 4 #[sR a1] [(.int 1)] _
    refine XS.ifNo X1.here hx rfl (hb hby own_e_4) rfl ((if0 _ _).trans (feq (by decide : ¬ ((1 : Int32) = (0 : Int32)))).1) ?_
    show own_S p e below T1 m 7 #[sR a1] [] _
    refine st2 _ ?_
    show own_S p e below T1 m 9 #[sR a1] [(.ref es)] _
    refine XS.goto X1.here hx rfl (pc0 := 9) (pc' := 14) rfl (hb hby own_e_9) (by decide) (by decide) ?_
    show own_S p e below T1 m 14 #[sR a1] [(.ref es)] _
    exact retOut X1 hx Bd.returns rfl (Or.inr (Or.inr (Or.inr (Or.inr ⟨rfl, rfl, rfl⟩)))) (hb hby own_e_14) hr
section Own
variable {p : Program} {l : Launch} {e : Env} {R : Room} {s Z : State} {args a0 : Array Value} {below : List Frame} {h : Heap} {W : Nat} {y : MethodName} {bytes : ByteArray} {maxL : Nat} {ret : Option FieldType} {a1 es : Addr} {idx : Nat} {ch : Int32}
theorem own_backC (hM : MetFree l y (head1 [Jvm.Cond.code y bytes maxL ret] ({ frames := 0, cells := 2, slots := 8, locals := 0 } : Room)) (fun a U => a = #[(.ref a1)] ∧ Z.Warmed39 U.vm ∧ U.heap = h ∧ U.vm.interned = Z.vm.interned) (fun _ _ _ _ _ => True) (fun _ U o U' => ∃ v, o = .returned v ∧ own_E1 Z h idx ch v U' ∧ ReturnedEndW U o U' [] 2 8))
    (hZ : Z.Warmed39 s.vm) (hint : s.vm.interned = Z.vm.interned) (wc : (Jvm.Cond.code y bytes maxL ret).before a0 Z = true) (wz : (Jvm.Cond.initialized y.cls).before a0 Z = true) (hf : 0 + 1 ≤ R.frames) (hl : W + (maxL + 11) + 0 ≤ R.locals) :
    BackS l R p e below s args y 3 W (fun A a => a = #[(.ref a1)] ∧ A.U.heap = h ∧ A.cells + 2 ≤ R.cells ∧ A.slots + 8 ≤ R.slots) (fun A _ v B => own_E1 Z h idx ch v B.U ∧ B.locs = A.locs ∧ B.cells = A.cells + 2 ∧ B.slots = A.slots + 8) :=
  BackS.of_freeW (bytes := bytes) (maxL := maxL) (ret := ret) (E := fun _ _ o t L k n => L = [] ∧ k = 2 ∧ n = 8 ∧ ∃ v, o = .returned v ∧ own_E1 Z h idx ch v t) hM hf hl
    (fun m meth c A a Y hp => have hU : Z.Warmed39 A.U.vm := wtrans hZ Y.warmed
      ⟨by show (Jvm.Cond.and _ .tt).before a A.U = true; rw [Cond.before_and, mv hU wc]; rfl, mv hU wc, mv hU wz, hp.2.2.1, hp.2.2.2⟩)
    (fun m meth c A a g mk Y hp => ⟨hp.1, wtrans hZ Y.warmed, hp.2.1, (Y.warmed.interned_eq).trans hint⟩) (fun _ _ _ _ _ _ _ _ _ => trivial)
    (fun _ _ _ _ ⟨v, h1, h2, h3⟩ => ⟨[], 2, 8, h3, rfl, rfl, rfl, v, h1, h2⟩)
    (fun m meth c A a g mk v t L k n Y hp _ _ ⟨e1, e2, e3, v', e4, e5⟩ => by cases e4; subst e1 e2 e3; exact ⟨e5, List.append_nil _, rfl, rfl⟩)
theorem own_backA {own : String} (hM : MetFree l y (head1 [Jvm.Cond.code y bytes maxL ret] ({ frames := 0, cells := 0, slots := 0, locals := 0 } : Room)) (fun a U => a = #[(.ref a1)] ∧ Z.Warmed39 U.vm ∧ U.heap = h ∧ Lit U own idx es) (fun _ _ _ _ _ => True) (fun _ U o U' => ∃ v L, o = .returned v ∧ (v = some (.ref es) ∧ L = [] ∧ U'.heap = h) ∧ FrameEnd U o U' L 0 0))
    (hZ : Z.Warmed39 s.vm) (wc : (Jvm.Cond.code y bytes maxL ret).before a0 Z = true) (wz : (Jvm.Cond.initialized y.cls).before a0 Z = true) (hf : 0 + 1 ≤ R.frames) (hl : W + (maxL + 11) + 0 ≤ R.locals) :
    Back l R p e below s args y 3 W (fun A a => a = #[(.ref a1)] ∧ A.U.heap = h ∧ Lit A.U own idx es ∧ A.cells + 0 ≤ R.cells ∧ A.slots + 0 ≤ R.slots) (fun A _ v B => ∃ L, (v = some (.ref es) ∧ L = [] ∧ B.U.heap = h) ∧ B.locs = A.locs ++ L ∧ B.cells = A.cells + 0 ∧ B.slots = A.slots + 0) :=
  Back.of_free (bytes := bytes) (maxL := maxL) (ret := ret) (E := fun _ _ o t L k n => k = 0 ∧ n = 0 ∧ ∃ v, o = .returned v ∧ (v = some (.ref es) ∧ L = [] ∧ t.heap = h)) hM hf hl
    (fun m meth c A a Y hp => have hU : Z.Warmed39 A.U.vm := wtrans hZ Y.warmed
      ⟨by show (Jvm.Cond.and _ .tt).before a A.U = true; rw [Cond.before_and, mv hU wc]; rfl, mv hU wc, mv hU wz, hp.2.2.2.1, hp.2.2.2.2⟩)
    (fun m meth c A a g mk Y hp => ⟨hp.1, wtrans hZ Y.warmed, hp.2.1, hp.2.2.1⟩) (fun _ _ _ _ _ _ _ _ _ => trivial)
    (fun _ _ _ _ ⟨v, L, h1, h2, h3⟩ => ⟨L, _, _, h3, rfl, rfl, v, h1, h2⟩)
    (fun m meth c A a g mk v t L k n Y hp _ _ ⟨e1, e2, v', e3, e4⟩ => by cases e3; subst e1 e2; exact ⟨L, e4, rfl, rfl, rfl⟩)
end Own
theorem own_pd_6 : parseMethodDescriptor "(IZ)V" = some ⟨[.int, .boolean], none⟩ := by decide +kernel
theorem own_pd_7 : parseMethodDescriptor "()Ljava/lang/String;" = some ⟨[], some (.object "java/lang/String")⟩ := by decide +kernel
theorem own_pd_8 : parseMethodDescriptor "()I" = some ⟨[], some .int⟩ := by decide +kernel
theorem own_pd_9 : parseMethodDescriptor "(Ljava/lang/Object;)Z" = some ⟨[(.object "java/lang/Object")], some .boolean⟩ := by decide +kernel
theorem own_pd_10 : parseMethodDescriptor "(I)C" = some ⟨[.int], some .char⟩ := by decide +kernel
theorem own_pn_5 : plainName "com/example/tablier/tablier/arena/ResultEndingPinLaw" = true := by first | (simp [plainName, overriddenIn]; done) | decide +kernel
theorem own_ef_0 (m : MethodId) (x0 : Int32) (x1 : Int32) (x2 : Int32) : entryFrame m #[(.int x0), (.int x1), (.int x2)] maxLocals = mkF m 0 #[sI x0, sI x1, sI x2, .unset, .unset, .unset, .unset, .unset, .unset] [] := by first | (simp [entryFrame, mkF, argsToLocals, Value.category, maxLocals]; done) | rfl
def own_Q0 (Z : State) (p1 : Int32) (p2 : Int32) (p3 : Int32) (G1 : Int32) (fm : Value) (h0 : Heap) (n0 : Nat) (v : Option Value) (h : Heap) (L : List Loc) : Prop := v = some (.int 1) ∧ Fr n0 L
set_option maxRecDepth 65536 in
set_option maxHeartbeats 40000000 in
theorem own_rm0 (l : Launch) (Z : State) (a0 : Array Value) (hw : ∀ d ∈ tables_1, d.before a0 Z = true) (ws : List Jvm.Cond) (p1 : Int32) (p2 : Int32) (p3 : Int32) (G1 : Int32) (fm : Value) (h0 : Heap) (n0 : Nat) (Z0 : n0 ≤ h0.size) (O2 : Sta Z Z.heap "java/lang/String" "COMPACT_STRINGS" "Z" (.int G1)) (hP5 : ¬ (G1 = (0 : Int32))) (O4 : Sta Z Z.heap "jdk/internal/util/Preconditions" "SIOOBE_FORMATTER" "Ljava/util/function/BiFunction;" fm) (rG : fm.isRef = true) (X00 : Old Z n0 h0) (hh54 : Jvm.Lit.constHeld Z "com/example/tablier/tablier/arena/Result" 54) (hh66 : Jvm.Lit.constHeld Z "com/example/tablier/tablier/arena/Result" 66) (hcw : Jvm.Lit.compactW.before a0 Z = true) :
    MetFree l x (head1 (Jvm.Cond.code x code maxLocals ret :: ws) room_1) (fun a U => a = #[(.int p1), (.int p2), (.int p3)] ∧ Z.Warmed39 U.vm ∧ U.heap = h0 ∧ U.vm = Z.vm) (fun _ _ _ _ _ => True) (fun _ U o U' => ∃ v L, o = .returned v ∧ own_Q0 Z p1 p2 p3 G1 fm h0 n0 v U'.heap L ∧ ReturnedEndW U o U' L room_1.cells room_1.slots) := by
  refine MetFree.of_bodySF (plainFor_of_name own_pn_5) hisR ?_
  intro p e s m args below meth c s₁ Bd hml0 hP hK
  obtain ⟨rfl, hZ, hh, hvm⟩ := hP
  have hw0 := hw _ (List.mem_of_getElem? (i := 0) rfl)
  have hw1 := hw _ (List.mem_of_getElem? (i := 1) rfl)
  have hw2 := hw _ (List.mem_of_getElem? (i := 2) rfl)
  have hw3 := hw _ (List.mem_of_getElem? (i := 3) rfl)
  have hw4 := hw _ (List.mem_of_getElem? (i := 4) rfl)
  have hw5 := hw _ (List.mem_of_getElem? (i := 5) rfl)
  have hw15 := hw _ (List.mem_of_getElem? (i := 15) rfl)
  have hw17 := hw _ (List.mem_of_getElem? (i := 17) rfl)
  have hw18 := hw _ (List.mem_of_getElem? (i := 18) rfl)
  have hw19 := hw _ (List.mem_of_getElem? (i := 19) rfl)
  have hw20 := hw _ (List.mem_of_getElem? (i := 20) rfl)
  have hw21 := hw _ (List.mem_of_getElem? (i := 21) rfl)
  have hw22 := hw _ (List.mem_of_getElem? (i := 22) rfl)
  have hw24 := hw _ (List.mem_of_getElem? (i := 24) rfl)
  have hw31 := hw _ (List.mem_of_getElem? (i := 31) rfl)
  have hw32 := hw _ (List.mem_of_getElem? (i := 32) rfl)
  have hw33 := hw _ (List.mem_of_getElem? (i := 33) rfl)
  have hw34 := hw _ (List.mem_of_getElem? (i := 34) rfl)
  have hw35 := hw _ (List.mem_of_getElem? (i := 35) rfl)
  have hw44 := hw _ (List.mem_of_getElem? (i := 44) rfl)
  have hw45 := hw _ (List.mem_of_getElem? (i := 45) rfl)
  have hw46 := hw _ (List.mem_of_getElem? (i := 46) rfl)
  have hw47 := hw _ (List.mem_of_getElem? (i := 47) rfl)
  have hw48 := hw _ (List.mem_of_getElem? (i := 48) rfl)
  have hw49 := hw _ (List.mem_of_getElem? (i := 49) rfl)
  have hw50 := hw _ (List.mem_of_getElem? (i := 50) rfl)
  have hw51 := hw _ (List.mem_of_getElem? (i := 51) rfl)
  have hw52 := hw _ (List.mem_of_getElem? (i := 52) rfl)
  have hw53 := hw _ (List.mem_of_getElem? (i := 53) rfl)
  have hx := Bd.exec
  have hby := Bd.bytes
  have hml : c.maxLocals = 9 := hml0
  have hown : s.vm.findClass "com/example/tablier/tablier/arena/ResultEndingPinLaw" = some m.cls := findClass_of_methodNamed Bd.named
  have hnm := (name_of_methodNamed Bd.named Bd.method).1
  have X0 : Stand p l e room_1 s m #[(.int p1), (.int p2), (.int p3)] below meth c s₁ [] 0 0 := Stand.of_body Bd
  have e0 : s₁.heap = h0 := by rw [← hh, Bd.state]; rfl
  have N0 := Fr.nil n0
  obtain ⟨R0, hR0⟩ : ∃ R : State → Prop, R = fun t => Steps p.tables e below (s₁.setTop (entryFrame m #[(.int p1), (.int p2), (.int p3)] maxLocals)) t := ⟨_, rfl⟩
  have pre0 : ∀ t, Steps p.tables e below (s₁.setTop (mkF m 0 #[sI p1, sI p2, sI p3, sU, sU, sU, sU, sU, sU] [])) t → R0 t := fun t k => by rw [hR0]; exact castTop (own_ef_0 m p1 p2 p3) k
  have pre1 : ∀ t, own_S p e below s₁ m 3 #[sI p1, sI p2, sI p3, sU, sU, sU, sU, sU, sU] [(.int (p3 &&& (1 : Int32)))] t → R0 t := fun t k => pre0 t (by
    refine XS.iloadN X0.here hx rfl (hb hby at_0) rfl ?_
    show own_S p e below s₁ m 1 #[sI p1, sI p2, sI p3, sU, sU, sU, sU, sU, sU] [(.int p3)] _
    refine XS.iconst X0.here hx rfl (hb hby at_1) ?_
    show own_S p e below s₁ m 2 #[sI p1, sI p2, sI p3, sU, sU, sU, sU, sU, sU] [(.int 1), (.int p3)] _
    refine XS.iand X0.here hx rfl (hb hby at_2) rfl ?_
    exact k)
  by_cases hc3 : (p3 &&& (1 : Int32)) = (0 : Int32)
  · have pre2 : ∀ t, own_S p e below s₁ m 12 #[sI p1, sI p2, sI p3, sI 0, sU, sU, sU, sU, sU] [] t → R0 t := fun t k => pre1 t (by
      refine XS.ifYes X0.here hx rfl (pc0 := 3) (pc' := 10) rfl (hb hby at_3) rfl ((if0 _ _).trans (teq hc3).1) (by decide) (by decide) ?_
      show own_S p e below s₁ m 10 #[sI p1, sI p2, sI p3, sU, sU, sU, sU, sU, sU] [] _
      refine XS.iconst X0.here hx rfl (hb hby at_10) ?_
      show own_S p e below s₁ m 11 #[sI p1, sI p2, sI p3, sU, sU, sU, sU, sU, sU] [(.int 0)] _
      refine XS.istoreN X0.here hx rfl (hb hby at_11) rfl (l' := #[sI p1, sI p2, sI p3, sI 0, sU, sU, sU, sU, sU]) rfl ?_
      exact k)
    obtain ⟨T3, h3, X3, e3, E3, A3, D3, -, st3⟩ := newO X0 hx hZ hown hw0 hw1 hw2 e0 (g := (mkF m 12 #[sI p1, sI p2, sI p3, sI 0, sU, sU, sU, sU, sU] [])) rfl (hb hby at_12) (by decide) (by decide)
    obtain ⟨b3, g3⟩ : ∃ z, z = h0.size := ⟨_, rfl⟩
    rw [← g3] at A3 D3 st3
    have g_b3 : n0 ≤ b3 := Nat.le_trans Z0 (Nat.le_of_eq g3.symm)
    have f4 := Nat.le_trans Z0 E3.1
    have f5 := X00.ext E3
    have f6 : Fld Z h3 b3 "com/example/tablier/tablier/arena/Result" "winner" "I" (.int 0) := D3 (Or.inr hw15) (ty := .int) (by decide)
    have f7 : Fld Z h3 b3 "com/example/tablier/tablier/arena/Result" "byDisqualification" "Z" (.int 0) := D3 (Or.inr hw17) (ty := .boolean) (by decide)
    have pre8 : ∀ t, own_S p e below T3 m 18 #[sI p1, sI p2, sI p3, sI 0, sU, sU, sU, sU, sU] [(.int 0), (.int p1), (.ref b3), (.ref b3)] t → R0 t := fun t k => pre2 t (by
      refine st3 _ ?_
      show own_S p e below T3 m 15 #[sI p1, sI p2, sI p3, sI 0, sU, sU, sU, sU, sU] [(.ref b3)] _
      refine XS.dup X3.here hx rfl (hb hby at_15) rfl rfl ?_
      show own_S p e below T3 m 16 #[sI p1, sI p2, sI p3, sI 0, sU, sU, sU, sU, sU] [(.ref b3), (.ref b3)] _
      refine XS.iloadN X3.here hx rfl (hb hby at_16) rfl ?_
      show own_S p e below T3 m 17 #[sI p1, sI p2, sI p3, sI 0, sU, sU, sU, sU, sU] [(.int p1), (.ref b3), (.ref b3)] _
      refine XS.iloadN X3.here hx rfl (hb hby at_17) rfl ?_
      exact k)
    obtain ⟨_, _, ⟨T9, L9, k9, n9⟩, -, X9, ⟨Lc9, hQ9, l9, y9, z9⟩, st9⟩ := X3.specialBack hx (y := own_y1) rfl hown (mvT hZ hw3) (mvT hZ hw4) (mvT hZ hw5) (by decide) (backOf (W := 1) (own_rm1k0 l Z a0 hw [] b3 p1 (.int 0) (.int 0) h3 n0 f4 A3 f6 f7 g_b3) hZ hw5 hw2 (by decide) (by decide)) (g := (mkF m 18 #[sI p1, sI p2, sI p3, sI 0, sU, sU, sU, sU, sU] [(.int 0), (.int p1), (.ref b3), (.ref b3)])) rfl (by rw [hml]; rfl) (Steps.refl _) (a := b3) (argsL := [(.int p1), (.int 0)]) (rest := [(.ref b3)]) (lenOf own_pd_6 rfl) rfl (by show 2 * 0 + _ ≤ _; exact Nat.le_of_eq rfl) (hb hby at_18) (fun _ _ => ⟨rfl, e3, (by decide : 1 + 0 ≤ _), (by decide : 2 + 0 ≤ _)⟩)
    dsimp only [Pt.U, Pt.locs, Pt.cells, Pt.slots] at X9 l9 y9 z9 st9 hQ9
    subst l9 y9 z9
    obtain ⟨rfl, N9q, K9, ex9, fx9_0, fx9_1⟩ := hQ9
    have f10 := Nat.le_trans f4 K9.1
    have f11 := A3.keep K9
    have f12 := f5.keep K9 (allS g_b3 all0)
    have N9 := Fr.app N0 N9q
    have pre13 : ∀ t, own_S p e below T9 m 23 #[sI p1, sI p2, sI p3, sI 0, sR b3, sU, sU, sU, sU] [] t → R0 t := fun t k => pre8 t (by
      refine st9.trans ?_
      show own_S p e below T9 m 21 #[sI p1, sI p2, sI p3, sI 0, sU, sU, sU, sU, sU] [(.ref b3)] _
      refine XS.astore X9.here hx rfl (hb hby at_21) rfl rfl (l' := #[sI p1, sI p2, sI p3, sI 0, sR b3, sU, sU, sU, sU]) rfl ?_
      exact k)
    obtain ⟨T14, h14, X14, e14, E14, A14, D14, -, st14⟩ := newO X9 hx hZ hown hw0 hw1 hw2 rfl (g := (mkF m 23 #[sI p1, sI p2, sI p3, sI 0, sR b3, sU, sU, sU, sU] [])) rfl (hb hby at_23) (by decide) (by decide)
    obtain ⟨b14, g14⟩ : ∃ z, z = T9.heap.size := ⟨_, rfl⟩
    rw [← g14] at A14 D14 st14
    have lne15 : b3 < b14 := Nat.lt_of_lt_of_le ex9.lt (Nat.le_of_eq g14.symm)
    have ne15 : b3 ≠ b14 := Nat.ne_of_lt lne15
    have g_b14 : n0 ≤ b14 := Nat.le_trans f10 (Nat.le_of_eq g14.symm)
    have f16 := Nat.le_trans f10 E14.1
    have f17 := f12.ext E14
    have f18 := ex9.ext E14
    have f19 := fx9_0.ext E14
    have f20 := fx9_1.ext E14
    have f21 : Fld Z h14 b14 "com/example/tablier/tablier/arena/Result" "winner" "I" (.int 0) := D14 (Or.inr hw15) (ty := .int) (by decide)
    have f22 : Fld Z h14 b14 "com/example/tablier/tablier/arena/Result" "byDisqualification" "Z" (.int 0) := D14 (Or.inr hw17) (ty := .boolean) (by decide)
    have pre23 : ∀ t, own_S p e below T14 m 29 #[sI p1, sI p2, sI p3, sI 0, sR b3, sU, sU, sU, sU] [(.int 0), (.int p2), (.ref b14), (.ref b14)] t → R0 t := fun t k => pre13 t (by
      refine st14 _ ?_
      show own_S p e below T14 m 26 #[sI p1, sI p2, sI p3, sI 0, sR b3, sU, sU, sU, sU] [(.ref b14)] _
      refine XS.dup X14.here hx rfl (hb hby at_26) rfl rfl ?_
      show own_S p e below T14 m 27 #[sI p1, sI p2, sI p3, sI 0, sR b3, sU, sU, sU, sU] [(.ref b14), (.ref b14)] _
      refine XS.iloadN X14.here hx rfl (hb hby at_27) rfl ?_
      show own_S p e below T14 m 28 #[sI p1, sI p2, sI p3, sI 0, sR b3, sU, sU, sU, sU] [(.int p2), (.ref b14), (.ref b14)] _
      refine XS.iloadN X14.here hx rfl (hb hby at_28) rfl ?_
      exact k)
    obtain ⟨_, _, ⟨T24, L24, k24, n24⟩, -, X24, ⟨Lc24, hQ24, l24, y24, z24⟩, st24⟩ := X14.specialBack hx (y := own_y1) rfl hown (mvT hZ hw3) (mvT hZ hw4) (mvT hZ hw5) (by decide) (backOf (W := 1) (own_rm1k0 l Z a0 hw [] b14 p2 (.int 0) (.int 0) h14 n0 f16 A14 f21 f22 g_b14) hZ hw5 hw2 (by decide) (by decide)) (g := (mkF m 29 #[sI p1, sI p2, sI p3, sI 0, sR b3, sU, sU, sU, sU] [(.int 0), (.int p2), (.ref b14), (.ref b14)])) rfl (by rw [hml]; rfl) (Steps.refl _) (a := b14) (argsL := [(.int p2), (.int 0)]) (rest := [(.ref b14)]) (lenOf own_pd_6 rfl) rfl (by show 2 * 0 + _ ≤ _; exact Nat.le_of_eq rfl) (hb hby at_29) (fun _ _ => ⟨rfl, e14, (by decide : 2 + 0 ≤ _), (by decide : 4 + 0 ≤ _)⟩)
    dsimp only [Pt.U, Pt.locs, Pt.cells, Pt.slots] at X24 l24 y24 z24 st24 hQ24
    subst l24 y24 z24
    obtain ⟨rfl, N24q, K24, ex24, fx24_0, fx24_1⟩ := hQ24
    have f25 := Nat.le_trans f16 K24.1
    have f26 := f18.keep K24
    have f27 := f19.keep K24 (ninS ne15 nin0)
    have f28 := f20.keep K24 (ninS ne15 nin0)
    have f29 := A14.keep K24
    have f30 := f17.keep K24 (allS g_b14 all0)
    have N24 := Fr.app N9 N24q
    have pre31 : ∀ t, own_S p e below T24 m 36 #[sI p1, sI p2, sI p3, sI 0, sR b3, sR b14, sU, sU, sU] [(.ref b3)] t → R0 t := fun t k => pre23 t (by
      refine st24.trans ?_
      show own_S p e below T24 m 32 #[sI p1, sI p2, sI p3, sI 0, sR b3, sU, sU, sU, sU] [(.ref b14)] _
      refine XS.astore X24.here hx rfl (hb hby at_32) rfl rfl (l' := #[sI p1, sI p2, sI p3, sI 0, sR b3, sR b14, sU, sU, sU]) rfl ?_
      show own_S p e below T24 m 34 #[sI p1, sI p2, sI p3, sI 0, sR b3, sR b14, sU, sU, sU] [] _
      refine XS.aload X24.here hx rfl (hb hby at_34) rfl rfl ?_
      exact k)
    obtain ⟨cq32, kq32, q32a, q32b, q32c⟩ := isOf hZ rfl f26
    obtain ⟨_, _, ⟨T32, L32, k32, n32⟩, -, X32, hSince, -, ⟨hQ32, l32, y32, z32⟩, st32⟩ := X24.virtualBackS hx (y := own_y10) (z := own_y10) hown (mvT hZ hw18) (mvT hZ hw19) (notFace_of_selects (args := #[]) (mvT hZ hw21)) (mvT hZ hw21) (mvT hZ hw20) (by decide) (own_backC (W := 0) (own_c0 l Z a0 hw b3 T24.heap f28 f30.2 hh66 hcw) hZ (congrArg Vm.interned hvm) hw22 hw2 (by decide) (by decide)) q32a q32c (g := (mkF m 36 #[sI p1, sI p2, sI p3, sI 0, sR b3, sR b14, sU, sU, sU] [(.ref b3)])) rfl (by rw [hml]; rfl) (Steps.refl _) (argsL := []) (rest := []) (lenOf own_pd_7 rfl) rfl (by show 2 * 0 + _ ≤ _; exact Nat.le_of_eq rfl) (hb hby at_36) (fun _ _ => ⟨rfl, rfl, (by decide : 2 + 2 ≤ _), (by decide : 4 + 8 ≤ _)⟩)
    dsimp only [Pt.U, Pt.locs, Pt.cells, Pt.slots] at X32 l32 y32 z32 st32 hQ32 hSince
    subst l32 y32 z32
    obtain ⟨es, bs, ks, rfl, E32, Ex32, Fc32, Fv32, Va32, Li32⟩ := hQ32
    have hZ : Z.Warmed39 (s.setVm T32.vm).vm := State.Warmed39.trans (t := s) hZ hSince.1
    have hown : (s.setVm T32.vm).vm.findClass "com/example/tablier/tablier/arena/ResultEndingPinLaw" = some m.cls := by rw [show (s.setVm T32.vm).vm = T32.vm from rfl, hSince.1.alike.findClass]; exact hown
    have f33 := Nat.le_trans f25 E32.1
    have f34 := f26.ext E32
    have f35 := f27.ext E32
    have f36 := f28.ext E32
    have f37 := f30.ext E32
    have f38 := ex24.ext E32
    have f39 := fx24_0.ext E32
    have f40 := fx24_1.ext E32
    have pre41 : ∀ t, own_S p e below T32 m 43 #[sI p1, sI p2, sI p3, sI 0, sR b3, sR b14, sR es, sU, sU] [(.ref b14)] t → R0 t := fun t k => pre31 t (by
      refine st32.trans ?_
      show own_S p e below T32 m 39 #[sI p1, sI p2, sI p3, sI 0, sR b3, sR b14, sU, sU, sU] [(.ref es)] _
      refine XS.astore X32.here hx rfl (hb hby at_39) rfl rfl (l' := #[sI p1, sI p2, sI p3, sI 0, sR b3, sR b14, sR es, sU, sU]) rfl ?_
      show own_S p e below T32 m 41 #[sI p1, sI p2, sI p3, sI 0, sR b3, sR b14, sR es, sU, sU] [] _
      refine XS.aload X32.here hx rfl (hb hby at_41) rfl rfl ?_
      exact k)
    obtain ⟨cq42, kq42, q42a, q42b, q42c⟩ := isOf hZ rfl f38
    obtain ⟨_, _, ⟨T42, L42, k42, n42⟩, -, X42, ⟨Lc42, hQ42, l42, y42, z42⟩, st42⟩ := X32.virtualBack hx (y := own_y10) (z := own_y10) hown (mvT hZ hw18) (mvT hZ hw19) (notFace_of_selects (args := #[]) (mvT hZ hw21)) (mvT hZ hw21) (mvT hZ hw20) (by decide) (own_backA (W := 0) (own := "com/example/tablier/tablier/arena/Result") (own_a0 l Z a0 hw b14 T32.heap f40 es) hZ hw22 hw2 (by decide) (by decide)) q42a q42c (g := (mkF m 43 #[sI p1, sI p2, sI p3, sI 0, sR b3, sR b14, sR es, sU, sU] [(.ref b14)])) rfl (by rw [hml]; rfl) (Steps.refl _) (argsL := []) (rest := []) (lenOf own_pd_7 rfl) rfl (by show 2 * 0 + _ ≤ _; exact Nat.le_of_eq rfl) (hb hby at_43) (fun _ hv => ⟨rfl, rfl, Lit.stays Li32 hv.wide, (by decide : 4 + 0 ≤ _), (by decide : 12 + 0 ≤ _)⟩)
    dsimp only [Pt.U, Pt.locs, Pt.cells, Pt.slots] at X42 l42 y42 z42 st42 hQ42
    subst l42 y42 z42
    obtain ⟨rfl, rfl, eh42⟩ := hQ42
    have N42 := Fr.app N24 (Fr.nil n0)
    have pre43 : ∀ t, own_S p e below T42 m 60 #[sI p1, sI p2, sI p3, sI 0, sR b3, sR b14, sR es, sR es, sU] [] t → R0 t := fun t k => pre41 t (by
      refine st42.trans ?_
      show own_S p e below T42 m 46 #[sI p1, sI p2, sI p3, sI 0, sR b3, sR b14, sR es, sU, sU] [(.ref es)] _
      refine XS.astore X42.here hx rfl (hb hby at_46) rfl rfl (l' := #[sI p1, sI p2, sI p3, sI 0, sR b3, sR b14, sR es, sR es, sU]) rfl ?_
      show own_S p e below T42 m 48 #[sI p1, sI p2, sI p3, sI 0, sR b3, sR b14, sR es, sR es, sU] [] _
      refine XS.aload X42.here hx rfl (hb hby at_48) rfl rfl ?_
      show own_S p e below T42 m 50 #[sI p1, sI p2, sI p3, sI 0, sR b3, sR b14, sR es, sR es, sU] [(.ref es)] _
      refine XS.ifnullNo X42.here hx rfl (hb hby at_50) rfl ?_
      show own_S p e below T42 m 53 #[sI p1, sI p2, sI p3, sI 0, sR b3, sR b14, sR es, sR es, sU] [] _
      refine XS.aload X42.here hx rfl (hb hby at_53) rfl rfl ?_
      show own_S p e below T42 m 55 #[sI p1, sI p2, sI p3, sI 0, sR b3, sR b14, sR es, sR es, sU] [(.ref es)] _
      refine XS.ifnonnullYes X42.here hx rfl (pc0 := 55) (pc' := 60) rfl (hb hby at_55) rfl (by decide) (by decide) ?_
      exact k)
    have S_c := O2.ext f37.2
    have S_f := O4.ext f37.2
    have pre44 : ∀ t, own_S p e below T42 m 62 #[sI p1, sI p2, sI p3, sI 0, sR b3, sR b14, sR es, sR es, sU] [(.ref es)] t → R0 t := fun t k => pre43 t (by
      refine XS.aload X42.here hx rfl (hb hby at_60) rfl rfl ?_
      exact k)
    have hp45 : ¬ (G1 = (0 : Int32)) := hP5
    obtain ⟨cq46, kq46, q46a, q46b, q46c⟩ := isOf hZ eh42 Ex32
    obtain ⟨_, _, ⟨T46, L46, k46, n46⟩, -, X46, ⟨Lc46, hQ46, l46, y46, z46⟩, st46⟩ := X42.virtualBack hx (y := own_y5) (z := own_y5) hown (mvT hZ hw31) (mvT hZ hw32) (notFace_of_selects (args := #[]) (mvT hZ hw34)) (mvT hZ hw34) (mvT hZ hw33) (by decide) (backOf (W := 0) (own_rm5 l Z a0 hw [] es bs ks (78 : Int32) G1 T32.heap n0 f33 Ex32 Fc32 Fv32 Va32 S_c hp45) hZ hw35 hw24 (by decide) (by decide)) q46a q46c (g := (mkF m 62 #[sI p1, sI p2, sI p3, sI 0, sR b3, sR b14, sR es, sR es, sU] [(.ref es)])) rfl (by rw [hml]; rfl) (Steps.refl _) (argsL := []) (rest := []) (lenOf own_pd_8 rfl) rfl (by show 2 * 0 + _ ≤ _; exact Nat.le_of_eq rfl) (hb hby at_62) (fun _ _ => ⟨rfl, eh42, (by decide : 4 + 0 ≤ _), (by decide : 12 + 0 ≤ _)⟩)
    dsimp only [Pt.U, Pt.locs, Pt.cells, Pt.slots] at X46 l46 y46 z46 st46 hQ46
    subst l46 y46 z46
    obtain ⟨rfl, N46q, eh46⟩ := hQ46
    have N46 := Fr.app N42 N46q
    have pre47 : ∀ t, own_S p e below T46 m 66 #[sI p1, sI p2, sI p3, sI 0, sR b3, sR b14, sR es, sR es, sU] [(.int 1), (.int ((1 : Int32) >>> ((0 : Int32) &&& 31)))] t → R0 t := fun t k => pre44 t (by
      refine st46.trans ?_
      show own_S p e below T46 m 65 #[sI p1, sI p2, sI p3, sI 0, sR b3, sR b14, sR es, sR es, sU] [(.int ((1 : Int32) >>> ((0 : Int32) &&& 31)))] _
      refine XS.iconst X46.here hx rfl (hb hby at_65) ?_
      exact k)
    have hc48 : ((1 : Int32) >>> ((0 : Int32) &&& 31)) = (1 : Int32) := by decide
    have pre49 : ∀ t, own_S p e below T46 m 75 #[sI p1, sI p2, sI p3, sI 0, sR b3, sR b14, sR es, sR es, sU] [(.ref es), (.ref es)] t → R0 t := fun t k => pre47 t (by
      refine XS.icmpYes X46.here hx rfl (pc0 := 66) (pc' := 71) rfl (hb hby at_66) rfl (teq hc48).1 (by decide) (by decide) ?_
      show own_S p e below T46 m 71 #[sI p1, sI p2, sI p3, sI 0, sR b3, sR b14, sR es, sR es, sU] [] _
      refine XS.aload X46.here hx rfl (hb hby at_71) rfl rfl ?_
      show own_S p e below T46 m 73 #[sI p1, sI p2, sI p3, sI 0, sR b3, sR b14, sR es, sR es, sU] [(.ref es)] _
      refine XS.aload X46.here hx rfl (hb hby at_73) rfl rfl ?_
      exact k)
    obtain ⟨cq50, kq50, q50a, q50b, q50c⟩ := isOf hZ eh46 Ex32
    obtain ⟨_, _, ⟨T50, L50, k50, n50⟩, -, X50, ⟨Lc50, hQ50, l50, y50, z50⟩, st50⟩ := X46.virtualBack hx (y := own_y2) (z := own_y2) hown (mvT hZ hw44) (mvT hZ hw45) (notFace_of_selects (args := #[]) (mvT hZ hw47)) (mvT hZ hw47) (mvT hZ hw46) (by decide) (backOf (W := 0) (own_rm7 l Z a0 hw [] es T32.heap n0 f33 ) hZ hw48 hw24 (by decide) (by decide)) q50a q50c (g := (mkF m 75 #[sI p1, sI p2, sI p3, sI 0, sR b3, sR b14, sR es, sR es, sU] [(.ref es), (.ref es)])) rfl (by rw [hml]; rfl) (Steps.refl _) (argsL := [(.ref es)]) (rest := []) (lenOf own_pd_9 rfl) rfl (by show 2 * 0 + _ ≤ _; exact Nat.le_of_eq rfl) (hb hby at_75) (fun _ _ => ⟨rfl, eh46, (by decide : 4 + 0 ≤ _), (by decide : 12 + 0 ≤ _)⟩)
    dsimp only [Pt.U, Pt.locs, Pt.cells, Pt.slots] at X50 l50 y50 z50 st50 hQ50
    subst l50 y50 z50
    obtain ⟨rfl, N50q, eh50⟩ := hQ50
    have N50 := Fr.app N46 N50q
    have pre51 : ∀ t, own_S p e below T50 m 86 #[sI p1, sI p2, sI p3, sI 0, sR b3, sR b14, sR es, sR es, sU] [(.int 0), (.ref es)] t → R0 t := fun t k => pre49 t (by
      refine st50.trans ?_
      show own_S p e below T50 m 78 #[sI p1, sI p2, sI p3, sI 0, sR b3, sR b14, sR es, sR es, sU] [(.int 1)] _
      refine XS.ifYes X50.here hx rfl (pc0 := 78) (pc' := 83) rfl (hb hby at_78) rfl ((if0 _ _).trans (feq (by decide : ¬ ((1 : Int32) = (0 : Int32)))).2) (by decide) (by decide) ?_
      show own_S p e below T50 m 83 #[sI p1, sI p2, sI p3, sI 0, sR b3, sR b14, sR es, sR es, sU] [] _
      refine XS.aload X50.here hx rfl (hb hby at_83) rfl rfl ?_
      show own_S p e below T50 m 85 #[sI p1, sI p2, sI p3, sI 0, sR b3, sR b14, sR es, sR es, sU] [(.ref es)] _
      refine XS.iconst X50.here hx rfl (hb hby at_85) ?_
      exact k)
    have hp52 : ¬ (G1 = (0 : Int32)) := hP5
    have hp53 : fm.isRef = true := rG
    obtain ⟨cq54, kq54, q54a, q54b, q54c⟩ := isOf hZ eh50 Ex32
    obtain ⟨_, _, ⟨T54, L54, k54, n54⟩, -, X54, ⟨Lc54, hQ54, l54, y54, z54⟩, st54⟩ := X50.virtualBack hx (y := own_y9) (z := own_y9) hown (mvT hZ hw49) (mvT hZ hw50) (notFace_of_selects (args := #[]) (mvT hZ hw52)) (mvT hZ hw52) (mvT hZ hw51) (by decide) (backOf (W := 0) (own_rm8c78 l Z a0 hw [] es bs ks G1 fm T32.heap n0 f33 Ex32 Fc32 Fv32 Va32 S_c hp52 S_f hp53) hZ hw53 hw24 (by decide) (by decide)) q54a q54c (g := (mkF m 86 #[sI p1, sI p2, sI p3, sI 0, sR b3, sR b14, sR es, sR es, sU] [(.int 0), (.ref es)])) rfl (by rw [hml]; rfl) (Steps.refl _) (argsL := [(.int 0)]) (rest := []) (lenOf own_pd_10 rfl) rfl (by show 2 * 0 + _ ≤ _; exact Nat.le_of_eq rfl) (hb hby at_86) (fun _ _ => ⟨rfl, eh50, (by decide : 4 + 0 ≤ _), (by decide : 12 + 0 ≤ _)⟩)
    dsimp only [Pt.U, Pt.locs, Pt.cells, Pt.slots] at X54 l54 y54 z54 st54 hQ54
    subst l54 y54 z54
    obtain ⟨rfl, N54q, eh54⟩ := hQ54
    have N54 := Fr.app N50 N54q
    have pre55 : ∀ t, own_S p e below T54 m 120 #[sI p1, sI p2, sI p3, sI 0, sR b3, sR b14, sR es, sR es, sI 78] [(.int 1)] t → R0 t := fun t k => pre51 t (by
      refine st54.trans ?_
      show own_S p e below T54 m 89 #[sI p1, sI p2, sI p3, sI 0, sR b3, sR b14, sR es, sR es, sU] [(.int 78)] _
      refine XS.istore X54.here hx rfl (hb hby at_89) rfl (l' := #[sI p1, sI p2, sI p3, sI 0, sR b3, sR b14, sR es, sR es, sI 78]) rfl ?_
      show own_S p e below T54 m 91 #[sI p1, sI p2, sI p3, sI 0, sR b3, sR b14, sR es, sR es, sI 78] [] _
      refine XS.iloadN X54.here hx rfl (hb hby at_91) rfl ?_
      show own_S p e below T54 m 92 #[sI p1, sI p2, sI p3, sI 0, sR b3, sR b14, sR es, sR es, sI 78] [(.int 0)] _
      refine XS.ifYes X54.here hx rfl (pc0 := 92) (pc' := 108) rfl (hb hby at_92) rfl ((if0 _ _).trans (teq (by decide : (0 : Int32) = (0 : Int32))).1) (by decide) (by decide) ?_
      show own_S p e below T54 m 108 #[sI p1, sI p2, sI p3, sI 0, sR b3, sR b14, sR es, sR es, sI 78] [] _
      refine XS.iload X54.here hx rfl (hb hby at_108) rfl ?_
      show own_S p e below T54 m 110 #[sI p1, sI p2, sI p3, sI 0, sR b3, sR b14, sR es, sR es, sI 78] [(.int 78)] _
      refine XS.bipush X54.here hx rfl (hb hby at_110) ?_
      show own_S p e below T54 m 112 #[sI p1, sI p2, sI p3, sI 0, sR b3, sR b14, sR es, sR es, sI 78] [(.int 78), (.int 78)] _
      refine XS.icmpNo X54.here hx rfl (hb hby at_112) rfl (teq (by decide : (78 : Int32) = (78 : Int32))).2 ?_
      show own_S p e below T54 m 115 #[sI p1, sI p2, sI p3, sI 0, sR b3, sR b14, sR es, sR es, sI 78] [] _
      refine XS.iconst X54.here hx rfl (hb hby at_115) ?_
      show own_S p e below T54 m 116 #[sI p1, sI p2, sI p3, sI 0, sR b3, sR b14, sR es, sR es, sI 78] [(.int 1)] _
      refine XS.goto X54.here hx rfl (pc0 := 116) (pc' := 120) rfl (hb hby at_116) (by decide) (by decide) ?_
      exact k)
    obtain ⟨fs, hr, hrun, hended, hEnd⟩ := X54.leaveW hSince (by rw [eh54]; exact Nat.le_refl _) (v := some (.int 1)) (fun h => by rw [Bd.returns] at h; cases h)
    refine ⟨_, _, cast (congrFun hR0 _) (pre55 _ (retN X54 hx (t := .boolean) Bd.returns (by simp) (hb hby at_120) hr)), hrun, hended, _, _, rfl, ?_, hEnd.1, hEnd.2.1, hEnd.2.2.1, hEnd.2.2.2.mono (by decide) (by decide)⟩
    exact ⟨rfl, N54⟩
  · have pre56 : ∀ t, own_S p e below s₁ m 12 #[sI p1, sI p2, sI p3, sI 1, sU, sU, sU, sU, sU] [] t → R0 t := fun t k => pre1 t (by
      refine XS.ifNo X0.here hx rfl (hb hby at_3) rfl ((if0 _ _).trans (feq hc3).1) ?_
      show own_S p e below s₁ m 6 #[sI p1, sI p2, sI p3, sU, sU, sU, sU, sU, sU] [] _
      refine XS.iconst X0.here hx rfl (hb hby at_6) ?_
      show own_S p e below s₁ m 7 #[sI p1, sI p2, sI p3, sU, sU, sU, sU, sU, sU] [(.int 1)] _
      refine XS.goto X0.here hx rfl (pc0 := 7) (pc' := 11) rfl (hb hby at_7) (by decide) (by decide) ?_
      show own_S p e below s₁ m 11 #[sI p1, sI p2, sI p3, sU, sU, sU, sU, sU, sU] [(.int 1)] _
      refine XS.istoreN X0.here hx rfl (hb hby at_11) rfl (l' := #[sI p1, sI p2, sI p3, sI 1, sU, sU, sU, sU, sU]) rfl ?_
      exact k)
    obtain ⟨T57, h57, X57, e57, E57, A57, D57, -, st57⟩ := newO X0 hx hZ hown hw0 hw1 hw2 e0 (g := (mkF m 12 #[sI p1, sI p2, sI p3, sI 1, sU, sU, sU, sU, sU] [])) rfl (hb hby at_12) (by decide) (by decide)
    obtain ⟨b57, g57⟩ : ∃ z, z = h0.size := ⟨_, rfl⟩
    rw [← g57] at A57 D57 st57
    have g_b57 : n0 ≤ b57 := Nat.le_trans Z0 (Nat.le_of_eq g57.symm)
    have f58 := Nat.le_trans Z0 E57.1
    have f59 := X00.ext E57
    have f60 : Fld Z h57 b57 "com/example/tablier/tablier/arena/Result" "winner" "I" (.int 0) := D57 (Or.inr hw15) (ty := .int) (by decide)
    have f61 : Fld Z h57 b57 "com/example/tablier/tablier/arena/Result" "byDisqualification" "Z" (.int 0) := D57 (Or.inr hw17) (ty := .boolean) (by decide)
    have pre62 : ∀ t, own_S p e below T57 m 18 #[sI p1, sI p2, sI p3, sI 1, sU, sU, sU, sU, sU] [(.int 1), (.int p1), (.ref b57), (.ref b57)] t → R0 t := fun t k => pre56 t (by
      refine st57 _ ?_
      show own_S p e below T57 m 15 #[sI p1, sI p2, sI p3, sI 1, sU, sU, sU, sU, sU] [(.ref b57)] _
      refine XS.dup X57.here hx rfl (hb hby at_15) rfl rfl ?_
      show own_S p e below T57 m 16 #[sI p1, sI p2, sI p3, sI 1, sU, sU, sU, sU, sU] [(.ref b57), (.ref b57)] _
      refine XS.iloadN X57.here hx rfl (hb hby at_16) rfl ?_
      show own_S p e below T57 m 17 #[sI p1, sI p2, sI p3, sI 1, sU, sU, sU, sU, sU] [(.int p1), (.ref b57), (.ref b57)] _
      refine XS.iloadN X57.here hx rfl (hb hby at_17) rfl ?_
      exact k)
    obtain ⟨_, _, ⟨T63, L63, k63, n63⟩, -, X63, ⟨Lc63, hQ63, l63, y63, z63⟩, st63⟩ := X57.specialBack hx (y := own_y1) rfl hown (mvT hZ hw3) (mvT hZ hw4) (mvT hZ hw5) (by decide) (backOf (W := 1) (own_rm1k1 l Z a0 hw [] b57 p1 (.int 0) (.int 0) h57 n0 f58 A57 f60 f61 g_b57) hZ hw5 hw2 (by decide) (by decide)) (g := (mkF m 18 #[sI p1, sI p2, sI p3, sI 1, sU, sU, sU, sU, sU] [(.int 1), (.int p1), (.ref b57), (.ref b57)])) rfl (by rw [hml]; rfl) (Steps.refl _) (a := b57) (argsL := [(.int p1), (.int 1)]) (rest := [(.ref b57)]) (lenOf own_pd_6 rfl) rfl (by show 2 * 0 + _ ≤ _; exact Nat.le_of_eq rfl) (hb hby at_18) (fun _ _ => ⟨rfl, e57, (by decide : 1 + 0 ≤ _), (by decide : 2 + 0 ≤ _)⟩)
    dsimp only [Pt.U, Pt.locs, Pt.cells, Pt.slots] at X63 l63 y63 z63 st63 hQ63
    subst l63 y63 z63
    obtain ⟨rfl, N63q, K63, ex63, fx63_0, fx63_1⟩ := hQ63
    have f64 := Nat.le_trans f58 K63.1
    have f65 := A57.keep K63
    have f66 := f59.keep K63 (allS g_b57 all0)
    have N63 := Fr.app N0 N63q
    have pre67 : ∀ t, own_S p e below T63 m 23 #[sI p1, sI p2, sI p3, sI 1, sR b57, sU, sU, sU, sU] [] t → R0 t := fun t k => pre62 t (by
      refine st63.trans ?_
      show own_S p e below T63 m 21 #[sI p1, sI p2, sI p3, sI 1, sU, sU, sU, sU, sU] [(.ref b57)] _
      refine XS.astore X63.here hx rfl (hb hby at_21) rfl rfl (l' := #[sI p1, sI p2, sI p3, sI 1, sR b57, sU, sU, sU, sU]) rfl ?_
      exact k)
    obtain ⟨T68, h68, X68, e68, E68, A68, D68, -, st68⟩ := newO X63 hx hZ hown hw0 hw1 hw2 rfl (g := (mkF m 23 #[sI p1, sI p2, sI p3, sI 1, sR b57, sU, sU, sU, sU] [])) rfl (hb hby at_23) (by decide) (by decide)
    obtain ⟨b68, g68⟩ : ∃ z, z = T63.heap.size := ⟨_, rfl⟩
    rw [← g68] at A68 D68 st68
    have lne69 : b57 < b68 := Nat.lt_of_lt_of_le ex63.lt (Nat.le_of_eq g68.symm)
    have ne69 : b57 ≠ b68 := Nat.ne_of_lt lne69
    have g_b68 : n0 ≤ b68 := Nat.le_trans f64 (Nat.le_of_eq g68.symm)
    have f70 := Nat.le_trans f64 E68.1
    have f71 := f66.ext E68
    have f72 := ex63.ext E68
    have f73 := fx63_0.ext E68
    have f74 := fx63_1.ext E68
    have f75 : Fld Z h68 b68 "com/example/tablier/tablier/arena/Result" "winner" "I" (.int 0) := D68 (Or.inr hw15) (ty := .int) (by decide)
    have f76 : Fld Z h68 b68 "com/example/tablier/tablier/arena/Result" "byDisqualification" "Z" (.int 0) := D68 (Or.inr hw17) (ty := .boolean) (by decide)
    have pre77 : ∀ t, own_S p e below T68 m 29 #[sI p1, sI p2, sI p3, sI 1, sR b57, sU, sU, sU, sU] [(.int 1), (.int p2), (.ref b68), (.ref b68)] t → R0 t := fun t k => pre67 t (by
      refine st68 _ ?_
      show own_S p e below T68 m 26 #[sI p1, sI p2, sI p3, sI 1, sR b57, sU, sU, sU, sU] [(.ref b68)] _
      refine XS.dup X68.here hx rfl (hb hby at_26) rfl rfl ?_
      show own_S p e below T68 m 27 #[sI p1, sI p2, sI p3, sI 1, sR b57, sU, sU, sU, sU] [(.ref b68), (.ref b68)] _
      refine XS.iloadN X68.here hx rfl (hb hby at_27) rfl ?_
      show own_S p e below T68 m 28 #[sI p1, sI p2, sI p3, sI 1, sR b57, sU, sU, sU, sU] [(.int p2), (.ref b68), (.ref b68)] _
      refine XS.iloadN X68.here hx rfl (hb hby at_28) rfl ?_
      exact k)
    obtain ⟨_, _, ⟨T78, L78, k78, n78⟩, -, X78, ⟨Lc78, hQ78, l78, y78, z78⟩, st78⟩ := X68.specialBack hx (y := own_y1) rfl hown (mvT hZ hw3) (mvT hZ hw4) (mvT hZ hw5) (by decide) (backOf (W := 1) (own_rm1k1 l Z a0 hw [] b68 p2 (.int 0) (.int 0) h68 n0 f70 A68 f75 f76 g_b68) hZ hw5 hw2 (by decide) (by decide)) (g := (mkF m 29 #[sI p1, sI p2, sI p3, sI 1, sR b57, sU, sU, sU, sU] [(.int 1), (.int p2), (.ref b68), (.ref b68)])) rfl (by rw [hml]; rfl) (Steps.refl _) (a := b68) (argsL := [(.int p2), (.int 1)]) (rest := [(.ref b68)]) (lenOf own_pd_6 rfl) rfl (by show 2 * 0 + _ ≤ _; exact Nat.le_of_eq rfl) (hb hby at_29) (fun _ _ => ⟨rfl, e68, (by decide : 2 + 0 ≤ _), (by decide : 4 + 0 ≤ _)⟩)
    dsimp only [Pt.U, Pt.locs, Pt.cells, Pt.slots] at X78 l78 y78 z78 st78 hQ78
    subst l78 y78 z78
    obtain ⟨rfl, N78q, K78, ex78, fx78_0, fx78_1⟩ := hQ78
    have f79 := Nat.le_trans f70 K78.1
    have f80 := f72.keep K78
    have f81 := f73.keep K78 (ninS ne69 nin0)
    have f82 := f74.keep K78 (ninS ne69 nin0)
    have f83 := A68.keep K78
    have f84 := f71.keep K78 (allS g_b68 all0)
    have N78 := Fr.app N63 N78q
    have pre85 : ∀ t, own_S p e below T78 m 36 #[sI p1, sI p2, sI p3, sI 1, sR b57, sR b68, sU, sU, sU] [(.ref b57)] t → R0 t := fun t k => pre77 t (by
      refine st78.trans ?_
      show own_S p e below T78 m 32 #[sI p1, sI p2, sI p3, sI 1, sR b57, sU, sU, sU, sU] [(.ref b68)] _
      refine XS.astore X78.here hx rfl (hb hby at_32) rfl rfl (l' := #[sI p1, sI p2, sI p3, sI 1, sR b57, sR b68, sU, sU, sU]) rfl ?_
      show own_S p e below T78 m 34 #[sI p1, sI p2, sI p3, sI 1, sR b57, sR b68, sU, sU, sU] [] _
      refine XS.aload X78.here hx rfl (hb hby at_34) rfl rfl ?_
      exact k)
    obtain ⟨cq86, kq86, q86a, q86b, q86c⟩ := isOf hZ rfl f80
    obtain ⟨_, _, ⟨T86, L86, k86, n86⟩, -, X86, hSince, -, ⟨hQ86, l86, y86, z86⟩, st86⟩ := X78.virtualBackS hx (y := own_y10) (z := own_y10) hown (mvT hZ hw18) (mvT hZ hw19) (notFace_of_selects (args := #[]) (mvT hZ hw21)) (mvT hZ hw21) (mvT hZ hw20) (by decide) (own_backC (W := 0) (own_c1 l Z a0 hw b57 T78.heap f82 f84.2 hh54 hcw) hZ (congrArg Vm.interned hvm) hw22 hw2 (by decide) (by decide)) q86a q86c (g := (mkF m 36 #[sI p1, sI p2, sI p3, sI 1, sR b57, sR b68, sU, sU, sU] [(.ref b57)])) rfl (by rw [hml]; rfl) (Steps.refl _) (argsL := []) (rest := []) (lenOf own_pd_7 rfl) rfl (by show 2 * 0 + _ ≤ _; exact Nat.le_of_eq rfl) (hb hby at_36) (fun _ _ => ⟨rfl, rfl, (by decide : 2 + 2 ≤ _), (by decide : 4 + 8 ≤ _)⟩)
    dsimp only [Pt.U, Pt.locs, Pt.cells, Pt.slots] at X86 l86 y86 z86 st86 hQ86 hSince
    subst l86 y86 z86
    obtain ⟨es, bs, ks, rfl, E86, Ex86, Fc86, Fv86, Va86, Li86⟩ := hQ86
    have hZ : Z.Warmed39 (s.setVm T86.vm).vm := State.Warmed39.trans (t := s) hZ hSince.1
    have hown : (s.setVm T86.vm).vm.findClass "com/example/tablier/tablier/arena/ResultEndingPinLaw" = some m.cls := by rw [show (s.setVm T86.vm).vm = T86.vm from rfl, hSince.1.alike.findClass]; exact hown
    have f87 := Nat.le_trans f79 E86.1
    have f88 := f80.ext E86
    have f89 := f81.ext E86
    have f90 := f82.ext E86
    have f91 := f84.ext E86
    have f92 := ex78.ext E86
    have f93 := fx78_0.ext E86
    have f94 := fx78_1.ext E86
    have pre95 : ∀ t, own_S p e below T86 m 43 #[sI p1, sI p2, sI p3, sI 1, sR b57, sR b68, sR es, sU, sU] [(.ref b68)] t → R0 t := fun t k => pre85 t (by
      refine st86.trans ?_
      show own_S p e below T86 m 39 #[sI p1, sI p2, sI p3, sI 1, sR b57, sR b68, sU, sU, sU] [(.ref es)] _
      refine XS.astore X86.here hx rfl (hb hby at_39) rfl rfl (l' := #[sI p1, sI p2, sI p3, sI 1, sR b57, sR b68, sR es, sU, sU]) rfl ?_
      show own_S p e below T86 m 41 #[sI p1, sI p2, sI p3, sI 1, sR b57, sR b68, sR es, sU, sU] [] _
      refine XS.aload X86.here hx rfl (hb hby at_41) rfl rfl ?_
      exact k)
    obtain ⟨cq96, kq96, q96a, q96b, q96c⟩ := isOf hZ rfl f92
    obtain ⟨_, _, ⟨T96, L96, k96, n96⟩, -, X96, ⟨Lc96, hQ96, l96, y96, z96⟩, st96⟩ := X86.virtualBack hx (y := own_y10) (z := own_y10) hown (mvT hZ hw18) (mvT hZ hw19) (notFace_of_selects (args := #[]) (mvT hZ hw21)) (mvT hZ hw21) (mvT hZ hw20) (by decide) (own_backA (W := 0) (own := "com/example/tablier/tablier/arena/Result") (own_a1 l Z a0 hw b68 T86.heap f94 es) hZ hw22 hw2 (by decide) (by decide)) q96a q96c (g := (mkF m 43 #[sI p1, sI p2, sI p3, sI 1, sR b57, sR b68, sR es, sU, sU] [(.ref b68)])) rfl (by rw [hml]; rfl) (Steps.refl _) (argsL := []) (rest := []) (lenOf own_pd_7 rfl) rfl (by show 2 * 0 + _ ≤ _; exact Nat.le_of_eq rfl) (hb hby at_43) (fun _ hv => ⟨rfl, rfl, Lit.stays Li86 hv.wide, (by decide : 4 + 0 ≤ _), (by decide : 12 + 0 ≤ _)⟩)
    dsimp only [Pt.U, Pt.locs, Pt.cells, Pt.slots] at X96 l96 y96 z96 st96 hQ96
    subst l96 y96 z96
    obtain ⟨rfl, rfl, eh96⟩ := hQ96
    have N96 := Fr.app N78 (Fr.nil n0)
    have pre97 : ∀ t, own_S p e below T96 m 60 #[sI p1, sI p2, sI p3, sI 1, sR b57, sR b68, sR es, sR es, sU] [] t → R0 t := fun t k => pre95 t (by
      refine st96.trans ?_
      show own_S p e below T96 m 46 #[sI p1, sI p2, sI p3, sI 1, sR b57, sR b68, sR es, sU, sU] [(.ref es)] _
      refine XS.astore X96.here hx rfl (hb hby at_46) rfl rfl (l' := #[sI p1, sI p2, sI p3, sI 1, sR b57, sR b68, sR es, sR es, sU]) rfl ?_
      show own_S p e below T96 m 48 #[sI p1, sI p2, sI p3, sI 1, sR b57, sR b68, sR es, sR es, sU] [] _
      refine XS.aload X96.here hx rfl (hb hby at_48) rfl rfl ?_
      show own_S p e below T96 m 50 #[sI p1, sI p2, sI p3, sI 1, sR b57, sR b68, sR es, sR es, sU] [(.ref es)] _
      refine XS.ifnullNo X96.here hx rfl (hb hby at_50) rfl ?_
      show own_S p e below T96 m 53 #[sI p1, sI p2, sI p3, sI 1, sR b57, sR b68, sR es, sR es, sU] [] _
      refine XS.aload X96.here hx rfl (hb hby at_53) rfl rfl ?_
      show own_S p e below T96 m 55 #[sI p1, sI p2, sI p3, sI 1, sR b57, sR b68, sR es, sR es, sU] [(.ref es)] _
      refine XS.ifnonnullYes X96.here hx rfl (pc0 := 55) (pc' := 60) rfl (hb hby at_55) rfl (by decide) (by decide) ?_
      exact k)
    have S_c := O2.ext f91.2
    have S_f := O4.ext f91.2
    have pre98 : ∀ t, own_S p e below T96 m 62 #[sI p1, sI p2, sI p3, sI 1, sR b57, sR b68, sR es, sR es, sU] [(.ref es)] t → R0 t := fun t k => pre97 t (by
      refine XS.aload X96.here hx rfl (hb hby at_60) rfl rfl ?_
      exact k)
    have hp99 : ¬ (G1 = (0 : Int32)) := hP5
    obtain ⟨cq100, kq100, q100a, q100b, q100c⟩ := isOf hZ eh96 Ex86
    obtain ⟨_, _, ⟨T100, L100, k100, n100⟩, -, X100, ⟨Lc100, hQ100, l100, y100, z100⟩, st100⟩ := X96.virtualBack hx (y := own_y5) (z := own_y5) hown (mvT hZ hw31) (mvT hZ hw32) (notFace_of_selects (args := #[]) (mvT hZ hw34)) (mvT hZ hw34) (mvT hZ hw33) (by decide) (backOf (W := 0) (own_rm5 l Z a0 hw [] es bs ks (68 : Int32) G1 T86.heap n0 f87 Ex86 Fc86 Fv86 Va86 S_c hp99) hZ hw35 hw24 (by decide) (by decide)) q100a q100c (g := (mkF m 62 #[sI p1, sI p2, sI p3, sI 1, sR b57, sR b68, sR es, sR es, sU] [(.ref es)])) rfl (by rw [hml]; rfl) (Steps.refl _) (argsL := []) (rest := []) (lenOf own_pd_8 rfl) rfl (by show 2 * 0 + _ ≤ _; exact Nat.le_of_eq rfl) (hb hby at_62) (fun _ _ => ⟨rfl, eh96, (by decide : 4 + 0 ≤ _), (by decide : 12 + 0 ≤ _)⟩)
    dsimp only [Pt.U, Pt.locs, Pt.cells, Pt.slots] at X100 l100 y100 z100 st100 hQ100
    subst l100 y100 z100
    obtain ⟨rfl, N100q, eh100⟩ := hQ100
    have N100 := Fr.app N96 N100q
    have pre101 : ∀ t, own_S p e below T100 m 66 #[sI p1, sI p2, sI p3, sI 1, sR b57, sR b68, sR es, sR es, sU] [(.int 1), (.int ((1 : Int32) >>> ((0 : Int32) &&& 31)))] t → R0 t := fun t k => pre98 t (by
      refine st100.trans ?_
      show own_S p e below T100 m 65 #[sI p1, sI p2, sI p3, sI 1, sR b57, sR b68, sR es, sR es, sU] [(.int ((1 : Int32) >>> ((0 : Int32) &&& 31)))] _
      refine XS.iconst X100.here hx rfl (hb hby at_65) ?_
      exact k)
    have hc102 : ((1 : Int32) >>> ((0 : Int32) &&& 31)) = (1 : Int32) := by decide
    have pre103 : ∀ t, own_S p e below T100 m 75 #[sI p1, sI p2, sI p3, sI 1, sR b57, sR b68, sR es, sR es, sU] [(.ref es), (.ref es)] t → R0 t := fun t k => pre101 t (by
      refine XS.icmpYes X100.here hx rfl (pc0 := 66) (pc' := 71) rfl (hb hby at_66) rfl (teq hc102).1 (by decide) (by decide) ?_
      show own_S p e below T100 m 71 #[sI p1, sI p2, sI p3, sI 1, sR b57, sR b68, sR es, sR es, sU] [] _
      refine XS.aload X100.here hx rfl (hb hby at_71) rfl rfl ?_
      show own_S p e below T100 m 73 #[sI p1, sI p2, sI p3, sI 1, sR b57, sR b68, sR es, sR es, sU] [(.ref es)] _
      refine XS.aload X100.here hx rfl (hb hby at_73) rfl rfl ?_
      exact k)
    obtain ⟨cq104, kq104, q104a, q104b, q104c⟩ := isOf hZ eh100 Ex86
    obtain ⟨_, _, ⟨T104, L104, k104, n104⟩, -, X104, ⟨Lc104, hQ104, l104, y104, z104⟩, st104⟩ := X100.virtualBack hx (y := own_y2) (z := own_y2) hown (mvT hZ hw44) (mvT hZ hw45) (notFace_of_selects (args := #[]) (mvT hZ hw47)) (mvT hZ hw47) (mvT hZ hw46) (by decide) (backOf (W := 0) (own_rm7 l Z a0 hw [] es T86.heap n0 f87 ) hZ hw48 hw24 (by decide) (by decide)) q104a q104c (g := (mkF m 75 #[sI p1, sI p2, sI p3, sI 1, sR b57, sR b68, sR es, sR es, sU] [(.ref es), (.ref es)])) rfl (by rw [hml]; rfl) (Steps.refl _) (argsL := [(.ref es)]) (rest := []) (lenOf own_pd_9 rfl) rfl (by show 2 * 0 + _ ≤ _; exact Nat.le_of_eq rfl) (hb hby at_75) (fun _ _ => ⟨rfl, eh100, (by decide : 4 + 0 ≤ _), (by decide : 12 + 0 ≤ _)⟩)
    dsimp only [Pt.U, Pt.locs, Pt.cells, Pt.slots] at X104 l104 y104 z104 st104 hQ104
    subst l104 y104 z104
    obtain ⟨rfl, N104q, eh104⟩ := hQ104
    have N104 := Fr.app N100 N104q
    have pre105 : ∀ t, own_S p e below T104 m 86 #[sI p1, sI p2, sI p3, sI 1, sR b57, sR b68, sR es, sR es, sU] [(.int 0), (.ref es)] t → R0 t := fun t k => pre103 t (by
      refine st104.trans ?_
      show own_S p e below T104 m 78 #[sI p1, sI p2, sI p3, sI 1, sR b57, sR b68, sR es, sR es, sU] [(.int 1)] _
      refine XS.ifYes X104.here hx rfl (pc0 := 78) (pc' := 83) rfl (hb hby at_78) rfl ((if0 _ _).trans (feq (by decide : ¬ ((1 : Int32) = (0 : Int32)))).2) (by decide) (by decide) ?_
      show own_S p e below T104 m 83 #[sI p1, sI p2, sI p3, sI 1, sR b57, sR b68, sR es, sR es, sU] [] _
      refine XS.aload X104.here hx rfl (hb hby at_83) rfl rfl ?_
      show own_S p e below T104 m 85 #[sI p1, sI p2, sI p3, sI 1, sR b57, sR b68, sR es, sR es, sU] [(.ref es)] _
      refine XS.iconst X104.here hx rfl (hb hby at_85) ?_
      exact k)
    have hp106 : ¬ (G1 = (0 : Int32)) := hP5
    have hp107 : fm.isRef = true := rG
    obtain ⟨cq108, kq108, q108a, q108b, q108c⟩ := isOf hZ eh104 Ex86
    obtain ⟨_, _, ⟨T108, L108, k108, n108⟩, -, X108, ⟨Lc108, hQ108, l108, y108, z108⟩, st108⟩ := X104.virtualBack hx (y := own_y9) (z := own_y9) hown (mvT hZ hw49) (mvT hZ hw50) (notFace_of_selects (args := #[]) (mvT hZ hw52)) (mvT hZ hw52) (mvT hZ hw51) (by decide) (backOf (W := 0) (own_rm8c68 l Z a0 hw [] es bs ks G1 fm T86.heap n0 f87 Ex86 Fc86 Fv86 Va86 S_c hp106 S_f hp107) hZ hw53 hw24 (by decide) (by decide)) q108a q108c (g := (mkF m 86 #[sI p1, sI p2, sI p3, sI 1, sR b57, sR b68, sR es, sR es, sU] [(.int 0), (.ref es)])) rfl (by rw [hml]; rfl) (Steps.refl _) (argsL := [(.int 0)]) (rest := []) (lenOf own_pd_10 rfl) rfl (by show 2 * 0 + _ ≤ _; exact Nat.le_of_eq rfl) (hb hby at_86) (fun _ _ => ⟨rfl, eh104, (by decide : 4 + 0 ≤ _), (by decide : 12 + 0 ≤ _)⟩)
    dsimp only [Pt.U, Pt.locs, Pt.cells, Pt.slots] at X108 l108 y108 z108 st108 hQ108
    subst l108 y108 z108
    obtain ⟨rfl, N108q, eh108⟩ := hQ108
    have N108 := Fr.app N104 N108q
    have pre109 : ∀ t, own_S p e below T108 m 107 #[sI p1, sI p2, sI p3, sI 1, sR b57, sR b68, sR es, sR es, sI 68] [(.int 1)] t → R0 t := fun t k => pre105 t (by
      refine st108.trans ?_
      show own_S p e below T108 m 89 #[sI p1, sI p2, sI p3, sI 1, sR b57, sR b68, sR es, sR es, sU] [(.int 68)] _
      refine XS.istore X108.here hx rfl (hb hby at_89) rfl (l' := #[sI p1, sI p2, sI p3, sI 1, sR b57, sR b68, sR es, sR es, sI 68]) rfl ?_
      show own_S p e below T108 m 91 #[sI p1, sI p2, sI p3, sI 1, sR b57, sR b68, sR es, sR es, sI 68] [] _
      refine XS.iloadN X108.here hx rfl (hb hby at_91) rfl ?_
      show own_S p e below T108 m 92 #[sI p1, sI p2, sI p3, sI 1, sR b57, sR b68, sR es, sR es, sI 68] [(.int 1)] _
      refine XS.ifNo X108.here hx rfl (hb hby at_92) rfl ((if0 _ _).trans (feq (by decide : ¬ ((1 : Int32) = (0 : Int32)))).1) ?_
      show own_S p e below T108 m 95 #[sI p1, sI p2, sI p3, sI 1, sR b57, sR b68, sR es, sR es, sI 68] [] _
      refine XS.iload X108.here hx rfl (hb hby at_95) rfl ?_
      show own_S p e below T108 m 97 #[sI p1, sI p2, sI p3, sI 1, sR b57, sR b68, sR es, sR es, sI 68] [(.int 68)] _
      refine XS.bipush X108.here hx rfl (hb hby at_97) ?_
      show own_S p e below T108 m 99 #[sI p1, sI p2, sI p3, sI 1, sR b57, sR b68, sR es, sR es, sI 68] [(.int 68), (.int 68)] _
      refine XS.icmpNo X108.here hx rfl (hb hby at_99) rfl (teq (by decide : (68 : Int32) = (68 : Int32))).2 ?_
      show own_S p e below T108 m 102 #[sI p1, sI p2, sI p3, sI 1, sR b57, sR b68, sR es, sR es, sI 68] [] _
      refine XS.iconst X108.here hx rfl (hb hby at_102) ?_
      show own_S p e below T108 m 103 #[sI p1, sI p2, sI p3, sI 1, sR b57, sR b68, sR es, sR es, sI 68] [(.int 1)] _
      refine XS.goto X108.here hx rfl (pc0 := 103) (pc' := 107) rfl (hb hby at_103) (by decide) (by decide) ?_
      exact k)
    obtain ⟨fs, hr, hrun, hended, hEnd⟩ := X108.leaveW hSince (by rw [eh108]; exact Nat.le_refl _) (v := some (.int 1)) (fun h => by rw [Bd.returns] at h; cases h)
    refine ⟨_, _, cast (congrFun hR0 _) (pre109 _ (retN X108 hx (t := .boolean) Bd.returns (by simp) (hb hby at_107) hr)), hrun, hended, _, _, rfl, ?_, hEnd.1, hEnd.2.1, hEnd.2.2.1, hEnd.2.2.2.mono (by decide) (by decide)⟩
    exact ⟨rfl, N108⟩
set_option maxRecDepth 65536 in
set_option maxHeartbeats 40000000 in
theorem own_comes {Post : Tables → Env → Array Value → State → Outcome → State → Prop} (hpost : ∀ tb e args s v u, (limb_1_1.after args s (.returned v) u = true ∧ limb_1_2.after args s (.returned v) u = true ∧ True) → ReturnedEndW s (.returned v) u (Jvm.fieldLocs frame_1_writes args s ++ Jvm.arrayLocs frame_1_arrays args s ++ Jvm.staticLocs frame_1_statics s) 16 2176 → Post tb e args s (.returned v) u) :
    ArmFor flags0 classFile x code maxLocals ret World_1 tables_1 room_1 Calls_1 rest_1 Pre_1 Post := by
  intro l hfl _ _ p e ha hc hk s m args below hf hA hF happ hP
  obtain ⟨hcalls, hrest, hpre⟩ := hP
  obtain ⟨-, -, -, hnamed, -, -, -, hat⟩ := (Spec.applies_iff hf).mp happ
  obtain ⟨hg, hn⟩ := and_e (Cond.before_iff.mp (show (Jvm.Cond.and given_1 narrow_1).before args s = true from hpre))
  obtain ⟨hcount, hg0⟩ := and_e hg
  obtain ⟨ha0, hg1⟩ := and_e hg0
  obtain ⟨ha1, hg2⟩ := and_e hg1
  have ha2 := hg2
  obtain ⟨w0, w1, w2, rfl⟩ : ∃ w0 w1 w2 : Value, args = #[w0, w1, w2] := by
    have hs : args.size = 3 := by simpa [Cond.value, given_1] using hcount
    obtain ⟨L⟩ := args
    match L, hs with
    | [w0, w1, w2], _ => exact ⟨w0, w1, w2, rfl⟩
  have hw := fun d (hd : d ∈ tables_1) => atoms_spec (ws := Jvm.Cond.code x code maxLocals ret :: tables_1) hat d (List.mem_cons_of_mem _ hd)
  have hfit : Fit s := fun {y c} hc i hi => by
    obtain ⟨ha, rfl⟩ := Array.getElem?_eq_some_iff.mp hc
    have q := List.all_eq_true.mp ((Array.all_eq_true_iff_forall_mem.mp hF) _ (Array.getElem_mem ha)) i (List.mem_range.mpr hi)
    simpa [Array.getElem?_eq_getElem hi] using q
  obtain ⟨i0, ei0⟩ := is_v ha0
  obtain rfl : w0 = (.int i0) := Option.some.inj ei0
  obtain ⟨i1, ei1⟩ := is_v ha1
  obtain rfl : w1 = (.int i1) := Option.some.inj ei1
  obtain ⟨i2, ei2⟩ := is_v ha2
  obtain rfl : w2 = (.int i2) := Option.some.inj ei2
  obtain ⟨hsets, hown0⟩ := atoms_of _ (rest_1_c_eq ▸ (show rest_1_c.before _ s = true from hrest))
  have n3 := not_v (Cond.before_iff.mp (hsets _ (List.mem_of_getElem? (i := 2) rfl)))
  obtain ⟨i7, e6⟩ := is_v (Cond.before_iff.mp (hsets _ (List.mem_of_getElem? (i := 1) rfl)))
  have S8 : Sta s s.heap "java/lang/String" "COMPACT_STRINGS" "Z" (.int i7) := Sta.start e6 (Or.inl (hsets _ (List.mem_of_getElem? (i := 0) rfl)))
  have c9 : ¬ (i7 = (0 : Int32)) := gotF (Cond.eq_ints e6 (Term.int_eval (0))) n3
  obtain ⟨fm, e8, rG⟩ := isR_v (Cond.before_iff.mp (hsets _ (List.mem_of_getElem? (i := 8) rfl)))
  have S9 : Sta s s.heap "jdk/internal/util/Preconditions" "SIOOBE_FORMATTER" "Ljava/util/function/BiFunction;" fm := Sta.start e8 (Or.inl (hsets _ (List.mem_of_getElem? (i := 7) rfl)))
  have hh54 : Jvm.Lit.constHeld s "com/example/tablier/tablier/arena/Result" 54 := hcalls.1 ("com/example/tablier/tablier/arena/Result", 54) (by simp [consts_1])
  have hh66 : Jvm.Lit.constHeld s "com/example/tablier/tablier/arena/Result" 66 := hcalls.1 ("com/example/tablier/tablier/arena/Result", 66) (by simp [consts_1])
  have hcw : Jvm.Lit.compactW.before _ s = true := hsets _ (List.mem_of_getElem? (i := 2) rfl)
  obtain ⟨n, o, h1, h2, h3, _, L, rfl, ⟨rfl, N⟩, hq⟩ := own_rm0 l s _ hw tables_1 i0 i1 i2 i7 fm s.heap s.heap.size (Nat.le_refl _) S8 c9 S9 rG (Old.start s) hh54 hh66 hcw p e ha hc hk s m _ below hf ((Spec.applies_iff_loose hf).mp happ).1 ⟨rfl, State.Warmed39.refl s, rfl, rfl⟩ trivial
  refine ⟨n, _, h1, h2, h3, hpost _ _ _ _ _ _ ⟨Cond.after_iff.mpr rfl, Cond.after_iff.mpr (eq_i res_at (Term.int_eval (1)) rfl), trivial⟩ ⟨hq.1, hq.2.1, hq.2.2.1, (hq.2.2.2.sift fun y hy => Or.inr (N y hy)).mono (by decide) (by decide)⟩⟩
theorem main_1_1 : Claimed_1_1 := own_comes fun _ _ _ _ _ _ h hF => ⟨h.1, hF⟩
theorem main_1_2 : Claimed_1_2 := own_comes fun _ _ _ _ _ _ h hF => ⟨h.2.1, hF⟩
end Jvm.Pilot.@@N@@
namespace Jvm.Pilot.@@N@@
open Jvm Jvm.ClassFile Sem Op Lib Jvm.Free Jvm.Stand Jvm.Pilot.@@N@@.Jvm.D
/-! MADE BY PROGRAM (witnessworld.py) out of the Statement's table words and the real class files: 18 classes; the members and pool entries that the words name. The judged class is class 1, her method 1. -/
namespace start1
open Jvm.ClassFile
def u (s : String) : CpInfo := .utf8 (stringToUtf16 s)
/-- a pool by its gaps: so many unusable entries, then the entry; so many at the end -/
def gap : Nat → List CpInfo → List CpInfo
  | 0, r => r
  | n + 1, r => .unusable :: gap n r
def poolList (es : List (Nat × CpInfo)) (last : Nat) : List CpInfo := es.foldr (fun e r => gap e.1 (e.2 :: r)) (gap last [])
def pool (es : List (Nat × CpInfo)) (last : Nat) : Array CpInfo := ⟨poolList es last⟩
def fileOf (pool : Array CpInfo) (this : Nat) (attrs : Array Attribute := #[]) (ms : Array MethodInfo := #[]) (fl : Nat := 33) (sup : Nat := 0) (ifs : Array Nat := #[]) (fds : Array FieldInfo := #[]) : ClassFile where
  minorVersion := 0
  majorVersion := 65
  constantPool := pool
  accessFlags := fl
  thisClass := this
  superClass := sup
  interfaces := ifs
  fields := fds
  methods := ms
  attributes := attrs
def plain (name : String) (sup : Option ClassId) : Class where
  name := name
  kind := .ordinary
  loader := none
  accessFlags := 33
  super := sup
  interfaces := #[]
  cf := none
  fields := #[]
  methods := #[]
  instanceTypes := #[]
  staticTypes := #[]
  resolved := #[]
  callSites := []
  init := .initialized
  statics := none
  mirror := none

def pool0 : Array CpInfo := pool [(5, u "<init>"), (0, u "()V"), (1, .class_ 10), (1, u "java/lang/Object")] 113

def k0c0 : Code := { maxStack := 0, maxLocals := 1, code := object_method_1_code, exceptionTable := #[], attributes := #[] }
def k0m0 : Method := { name := "<init>", desc := "()V", sig := { parameters := [], returnType := none }, accessFlags := 1, code := some k0c0 }
/-- java/lang/Object -/
def k0 : Class := { plain "java/lang/Object" none with
  accessFlags := 33
  interfaces := #[]
  cf := some (fileOf pool0 8 #[] #[{ accessFlags := 1, nameIndex := 5, descriptorIndex := 6, attributes := #[] }] 33 0 #[] #[])
  fields := #[]
  methods := #[k0m0]
  instanceTypes := #[]
  staticTypes := #[]
  resolved := Array.replicate 124 none
  statics := none }

def pool1 : Array CpInfo := pool [(2, .class_ 4), (1, u "java/lang/Object"), (0, u "<init>"), (0, u "()V"), (0, .class_ 8), (0, u "com/example/tablier/tablier/arena/Result"), (0, .methodref 7 10), (0, .nameAndType 5 11), (0, u "(IZ)V"), (0, .methodref 7 13), (0, .nameAndType 14 15), (0, u "ending"), (0, u "()Ljava/lang/String;"), (0, .methodref 17 18), (0, .class_ 19), (0, .nameAndType 20 21), (0, u "java/lang/String"), (0, u "length"), (0, u "()I"), (0, .methodref 17 23), (0, .nameAndType 24 25), (0, u "equals"), (0, u "(Ljava/lang/Object;)Z"), (0, .methodref 17 27), (0, .nameAndType 28 29), (0, u "charAt"), (0, u "(I)C"), (0, .class_ 31), (0, u "com/example/tablier/tablier/arena/ResultEndingPinLaw"), (2, u "law"), (0, u "(III)Z")] 3

def k1m0 : Method := { name := "<init>", desc := "()V", sig := { parameters := [], returnType := none }, accessFlags := 1, code := none }
def k1c1 : Code := { maxStack := 4, maxLocals := 9, code := code, exceptionTable := #[], attributes := #[] }
def k1m1 : Method := { name := "law", desc := "(III)Z", sig := { parameters := [.int, .int, .int], returnType := some .boolean }, accessFlags := 9, code := some k1c1 }
/-- com/example/tablier/tablier/arena/ResultEndingPinLaw -/
def k1 : Class := { plain "com/example/tablier/tablier/arena/ResultEndingPinLaw" (some 0) with
  accessFlags := 49
  interfaces := #[]
  cf := some (fileOf pool1 30 #[] #[{ accessFlags := 1, nameIndex := 5, descriptorIndex := 6, attributes := #[] }, { accessFlags := 9, nameIndex := 34, descriptorIndex := 35, attributes := #[] }] 49 2 #[] #[])
  fields := #[]
  methods := #[k1m0, k1m1]
  instanceTypes := #[]
  staticTypes := #[]
  resolved := Array.replicate 39 none
  statics := none }

def pool2 : Array CpInfo := pool [(1, .methodref 2 3), (0, .class_ 4), (0, .nameAndType 5 6), (0, u "java/lang/Object"), (0, u "<init>"), (0, u "()V"), (0, .class_ 8), (0, u "java/lang/Record")] 13

def k2c0 : Code := { maxStack := 1, maxLocals := 1, code := jdk_30_method_1_code, exceptionTable := #[], attributes := #[] }
def k2m0 : Method := { name := "<init>", desc := "()V", sig := { parameters := [], returnType := none }, accessFlags := 4, code := some k2c0 }
/-- java/lang/Record -/
def k2 : Class := { plain "java/lang/Record" (some 0) with
  accessFlags := 1057
  interfaces := #[]
  cf := some (fileOf pool2 7 #[] #[{ accessFlags := 4, nameIndex := 5, descriptorIndex := 6, attributes := #[] }] 1057 2 #[] #[])
  fields := #[]
  methods := #[k2m0]
  instanceTypes := #[]
  staticTypes := #[]
  resolved := Array.replicate 22 none
  statics := none }

def pool3 : Array CpInfo := pool [(1, .methodref 2 3), (0, .class_ 4), (0, .nameAndType 5 6), (0, u "java/lang/Record"), (0, u "<init>"), (0, u "()V"), (0, .fieldref 8 9), (0, .class_ 10), (0, .nameAndType 11 12), (0, u "com/example/tablier/tablier/arena/Result"), (0, u "winner"), (0, u "I"), (0, .fieldref 8 14), (0, .nameAndType 15 16), (0, u "byDisqualification"), (0, u "Z"), (37, .string 55), (0, u "D"), (2, u "(IZ)V"), (2, u "ending"), (0, u "()Ljava/lang/String;"), (3, .string 67), (0, u "N"), (11, u "WORD"), (0, u "Ljava/lang/String;")] 43

def k3c0 : Code := { maxStack := 2, maxLocals := 3, code := prog_22_method_1_code, exceptionTable := #[], attributes := #[] }
def k3m0 : Method := { name := "<init>", desc := "(IZ)V", sig := { parameters := [.int, .boolean], returnType := none }, accessFlags := 1, code := some k3c0 }
def k3c1 : Code := { maxStack := 1, maxLocals := 1, code := prog_22_method_4_code, exceptionTable := #[], attributes := #[] }
def k3m1 : Method := { name := "ending", desc := "()Ljava/lang/String;", sig := { parameters := [], returnType := some (.object "java/lang/String") }, accessFlags := 0, code := some k3c1 }
/-- com/example/tablier/tablier/arena/Result -/
def k3 : Class := { plain "com/example/tablier/tablier/arena/Result" (some 2) with
  accessFlags := 49
  interfaces := #[]
  cf := some (fileOf pool3 8 #[] #[{ accessFlags := 1, nameIndex := 5, descriptorIndex := 58, attributes := #[] }, { accessFlags := 0, nameIndex := 61, descriptorIndex := 62, attributes := #[] }] 49 2 #[] #[{ accessFlags := 18, nameIndex := 11, descriptorIndex := 12, attributes := #[] }, { accessFlags := 18, nameIndex := 15, descriptorIndex := 16, attributes := #[] }, { accessFlags := 26, nameIndex := 79, descriptorIndex := 80, attributes := #[] }])
  fields := #[{ name := "winner", type := .int, accessFlags := 18, slot := 0, constantValue := 0 }, { name := "byDisqualification", type := .boolean, accessFlags := 18, slot := 1, constantValue := 0 }, { name := "WORD", type := (.object "java/lang/String"), accessFlags := 26, slot := 0, constantValue := 0 }]
  methods := #[k3m0, k3m1]
  instanceTypes := #[.int, .boolean]
  staticTypes := #[(.object "java/lang/String")]
  resolved := Array.replicate 124 none
  statics := none }

def pool4 : Array CpInfo := pool [(1, .class_ 2), (0, u "java/io/Serializable"), (0, .class_ 4), (0, u "java/lang/Object")] 2

/-- java/io/Serializable -/
def k4 : Class := { plain "java/io/Serializable" (some 0) with
  accessFlags := 1537
  interfaces := #[]
  cf := some (fileOf pool4 1 #[] #[] 1537 3 #[] #[])
  fields := #[]
  methods := #[]
  instanceTypes := #[]
  staticTypes := #[]
  resolved := Array.replicate 7 none
  statics := none }

def pool5 : Array CpInfo := pool [(1, .class_ 2), (0, u "java/lang/Comparable"), (0, .class_ 4), (0, u "java/lang/Object")] 7

/-- java/lang/Comparable -/
def k5 : Class := { plain "java/lang/Comparable" (some 0) with
  accessFlags := 1537
  interfaces := #[]
  cf := some (fileOf pool5 1 #[] #[] 1537 3 #[] #[])
  fields := #[]
  methods := #[]
  instanceTypes := #[]
  staticTypes := #[]
  resolved := Array.replicate 12 none
  statics := none }

def pool6 : Array CpInfo := pool [(2, .class_ 4), (1, u "java/lang/CharSequence"), (42, .class_ 48), (0, u "java/lang/CharSequence$1CodePointIterator"), (10, .class_ 60), (0, u "java/lang/CharSequence$1CharIterator"), (5, .class_ 67), (0, u "java/lang/Object")] 63

/-- java/lang/CharSequence -/
def k6 : Class := { plain "java/lang/CharSequence" (some 0) with
  accessFlags := 1537
  interfaces := #[]
  cf := some (fileOf pool6 2 #[.nestMembers #[47, 59]] #[] 1537 66 #[] #[])
  fields := #[]
  methods := #[]
  instanceTypes := #[]
  staticTypes := #[]
  resolved := Array.replicate 131 none
  statics := none }

def pool7 : Array CpInfo := pool [(1, .class_ 2), (0, u "java/lang/constant/Constable"), (0, .class_ 4), (0, u "java/lang/Object")] 6

/-- java/lang/constant/Constable -/
def k7 : Class := { plain "java/lang/constant/Constable" (some 0) with
  accessFlags := 1537
  interfaces := #[]
  cf := some (fileOf pool7 1 #[] #[] 1537 3 #[] #[])
  fields := #[]
  methods := #[]
  instanceTypes := #[]
  staticTypes := #[]
  resolved := Array.replicate 11 none
  statics := none }

def pool8 : Array CpInfo := pool [(1, .class_ 2), (0, u "java/lang/constant/ConstantDesc"), (0, .class_ 4), (0, u "java/lang/Object")] 32

/-- java/lang/constant/ConstantDesc -/
def k8 : Class := { plain "java/lang/constant/ConstantDesc" (some 0) with
  accessFlags := 1537
  interfaces := #[]
  cf := some (fileOf pool8 1 #[] #[] 1537 3 #[] #[])
  fields := #[]
  methods := #[]
  instanceTypes := #[]
  staticTypes := #[]
  resolved := Array.replicate 37 none
  statics := none }

def pool9 : Array CpInfo := pool [(2, .class_ 4), (1, u "java/lang/Object"), (0, u "<init>"), (0, u "()V"), (2, .fieldref 10 11), (0, .class_ 12), (0, .nameAndType 13 14), (0, u "java/lang/String"), (0, u "value"), (0, u "[B"), (0, .fieldref 10 16), (0, .nameAndType 17 18), (0, u "coder"), (0, u "B"), (2, u "hash"), (0, u "I"), (2, u "hashIsZero"), (0, u "Z"), (11, .fieldref 10 39), (0, .nameAndType 40 26), (0, u "COMPACT_STRINGS"), (66, .class_ 109), (1, u "java/lang/StringLatin1"), (32, u "()Z"), (191, u "()I"), (0, .methodref 10 336), (0, .nameAndType 17 337), (0, u "()B"), (25, u "([BI)C"), (27, u "(II)V"), (35, u "(I)C"), (64, .methodref 10 493), (0, .nameAndType 494 142), (0, u "isLatin1"), (0, .methodref 107 496), (0, .nameAndType 497 363), (0, u "charAt"), (3, u "checkIndex"), (5, u "length"), (35, u "equals"), (29, u "(Ljava/lang/Object;)Z"), (1, .class_ 576), (0, u "java/lang/CharSequence"), (22, u "CASE_INSENSITIVE_ORDER"), (0, u "Ljava/util/Comparator;"), (452, .fieldref 1054 1055), (0, .class_ 1056), (0, .nameAndType 1057 1058), (0, u "jdk/internal/util/Preconditions"), (0, u "SIOOBE_FORMATTER"), (0, u "Ljava/util/function/BiFunction;"), (0, .methodref 1054 1060), (0, .nameAndType 501 1061), (0, u "(IILjava/util/function/BiFunction;)I"), (39, u "serialPersistentFields"), (0, u "[Ljava/io/ObjectStreamField;"), (0, .class_ 1104), (0, u "java/lang/String$CaseInsensitiveComparator"), (1, .class_ 1107), (0, u "java/io/Serializable"), (0, .class_ 1109), (0, u "java/lang/Comparable"), (0, .class_ 1111), (0, u "java/lang/constant/Constable"), (0, .class_ 1113), (0, u "java/lang/constant/ConstantDesc"), (2, u "serialVersionUID"), (0, u "J"), (3, u "REPL"), (0, u "C"), (2, u "LATIN1"), (1, u "UTF16")] 323

def k9m0 : Method := { name := "<init>", desc := "()V", sig := { parameters := [], returnType := none }, accessFlags := 1, code := none }
def k9c1 : Code := { maxStack := 2, maxLocals := 1, code := jdk_42_method_54_code, exceptionTable := #[], attributes := #[] }
def k9m1 : Method := { name := "length", desc := "()I", sig := { parameters := [], returnType := some .int }, accessFlags := 1, code := some k9c1 }
def k9c2 : Code := { maxStack := 2, maxLocals := 2, code := jdk_42_method_56_code, exceptionTable := #[], attributes := #[] }
def k9m2 : Method := { name := "charAt", desc := "(I)C", sig := { parameters := [.int], returnType := some .char }, accessFlags := 1, code := some k9c2 }
def k9c3 : Code := { maxStack := 2, maxLocals := 3, code := jdk_42_method_66_code, exceptionTable := #[], attributes := #[] }
def k9m3 : Method := { name := "equals", desc := "(Ljava/lang/Object;)Z", sig := { parameters := [(.object "java/lang/Object")], returnType := some .boolean }, accessFlags := 1, code := some k9c3 }
def k9c4 : Code := { maxStack := 1, maxLocals := 1, code := jdk_42_method_152_code, exceptionTable := #[], attributes := #[] }
def k9m4 : Method := { name := "coder", desc := "()B", sig := { parameters := [], returnType := some .byte }, accessFlags := 0, code := some k9c4 }
def k9c5 : Code := { maxStack := 1, maxLocals := 1, code := jdk_42_method_154_code, exceptionTable := #[], attributes := #[] }
def k9m5 : Method := { name := "isLatin1", desc := "()Z", sig := { parameters := [], returnType := some .boolean }, accessFlags := 0, code := some k9c5 }
def k9c6 : Code := { maxStack := 3, maxLocals := 2, code := jdk_42_method_155_code, exceptionTable := #[], attributes := #[] }
def k9m6 : Method := { name := "checkIndex", desc := "(II)V", sig := { parameters := [.int, .int], returnType := none }, accessFlags := 8, code := some k9c6 }
/-- java/lang/String -/
def k9 : Class := { plain "java/lang/String" (some 0) with
  accessFlags := 49
  interfaces := #[4, 5, 6, 7, 8]
  cf := some (fileOf pool9 10 #[.nestMembers #[1103]] #[{ accessFlags := 1, nameIndex := 5, descriptorIndex := 6, attributes := #[] }, { accessFlags := 1, nameIndex := 507, descriptorIndex := 334, attributes := #[] }, { accessFlags := 1, nameIndex := 497, descriptorIndex := 427, attributes := #[] }, { accessFlags := 1, nameIndex := 543, descriptorIndex := 573, attributes := #[] }, { accessFlags := 0, nameIndex := 17, descriptorIndex := 337, attributes := #[] }, { accessFlags := 0, nameIndex := 494, descriptorIndex := 142, attributes := #[] }, { accessFlags := 8, nameIndex := 501, descriptorIndex := 391, attributes := #[] }] 49 2 #[1106, 1108, 575, 1110, 1112] #[{ accessFlags := 18, nameIndex := 13, descriptorIndex := 14, attributes := #[] }, { accessFlags := 18, nameIndex := 17, descriptorIndex := 18, attributes := #[] }, { accessFlags := 2, nameIndex := 21, descriptorIndex := 22, attributes := #[] }, { accessFlags := 2, nameIndex := 25, descriptorIndex := 26, attributes := #[] }, { accessFlags := 26, nameIndex := 1116, descriptorIndex := 1117, attributes := #[] }, { accessFlags := 24, nameIndex := 40, descriptorIndex := 26, attributes := #[] }, { accessFlags := 26, nameIndex := 1101, descriptorIndex := 1102, attributes := #[] }, { accessFlags := 26, nameIndex := 1121, descriptorIndex := 1122, attributes := #[] }, { accessFlags := 25, nameIndex := 599, descriptorIndex := 600, attributes := #[] }, { accessFlags := 24, nameIndex := 1125, descriptorIndex := 18, attributes := #[] }, { accessFlags := 24, nameIndex := 1127, descriptorIndex := 18, attributes := #[] }])
  fields := #[{ name := "value", type := (.array .byte), accessFlags := 18, slot := 0, constantValue := 0 }, { name := "coder", type := .byte, accessFlags := 18, slot := 1, constantValue := 0 }, { name := "hash", type := .int, accessFlags := 2, slot := 2, constantValue := 0 }, { name := "hashIsZero", type := .boolean, accessFlags := 2, slot := 3, constantValue := 0 }, { name := "serialVersionUID", type := .long, accessFlags := 26, slot := 0, constantValue := 0 }, { name := "COMPACT_STRINGS", type := .boolean, accessFlags := 24, slot := 1, constantValue := 0 }, { name := "serialPersistentFields", type := (.array (.object "java/io/ObjectStreamField")), accessFlags := 26, slot := 2, constantValue := 0 }, { name := "REPL", type := .char, accessFlags := 26, slot := 3, constantValue := 0 }, { name := "CASE_INSENSITIVE_ORDER", type := (.object "java/util/Comparator"), accessFlags := 25, slot := 4, constantValue := 0 }, { name := "LATIN1", type := .byte, accessFlags := 24, slot := 5, constantValue := 0 }, { name := "UTF16", type := .byte, accessFlags := 24, slot := 6, constantValue := 0 }]
  methods := #[k9m0, k9m1, k9m2, k9m3, k9m4, k9m5, k9m6]
  instanceTypes := #[(.array .byte), .byte, .int, .boolean]
  staticTypes := #[.long, .boolean, (.array (.object "java/io/ObjectStreamField")), .char, (.object "java/util/Comparator"), .byte, .byte]
  resolved := Array.replicate 1451 none
  statics := some 0 }

def pool10 : Array CpInfo := pool [(1, .class_ 2), (0, u "java/lang/String"), (1, .class_ 6), (1, u "java/lang/Object"), (0, u "<init>"), (0, u "()V"), (0, .methodref 1 10), (0, .nameAndType 11 12), (0, u "checkIndex"), (0, u "(II)V"), (1, .class_ 16), (1, u "java/lang/StringLatin1"), (36, u "([BI)C"), (67, u "$assertionsDisabled"), (0, u "Z"), (98, .class_ 223), (1, u "java/lang/StringLatin1$LinesSpliterator"), (28, u "charAt"), (137, .class_ 391), (0, u "java/lang/StringLatin1$CharsSpliterator")] 3

def k10m0 : Method := { name := "<init>", desc := "()V", sig := { parameters := [], returnType := none }, accessFlags := 0, code := none }
def k10c1 : Code := { maxStack := 2, maxLocals := 2, code := jdk_43_method_2_code, exceptionTable := #[], attributes := #[] }
def k10m1 : Method := { name := "charAt", desc := "([BI)C", sig := { parameters := [(.array .byte), .int], returnType := some .char }, accessFlags := 9, code := some k10c1 }
/-- java/lang/StringLatin1 -/
def k10 : Class := { plain "java/lang/StringLatin1" (some 0) with
  accessFlags := 48
  interfaces := #[]
  cf := some (fileOf pool10 14 #[.nestMembers #[390, 221]] #[{ accessFlags := 0, nameIndex := 7, descriptorIndex := 8, attributes := #[] }, { accessFlags := 9, nameIndex := 252, descriptorIndex := 53, attributes := #[] }] 48 4 #[] #[{ accessFlags := 4120, nameIndex := 121, descriptorIndex := 122, attributes := #[] }])
  fields := #[{ name := "$assertionsDisabled", type := .boolean, accessFlags := 4120, slot := 0, constantValue := 0 }]
  methods := #[k10m0, k10m1]
  instanceTypes := #[]
  staticTypes := #[.boolean]
  resolved := Array.replicate 395 none
  statics := none }

def pool11 : Array CpInfo := pool [(2, .class_ 4), (1, u "java/lang/Object"), (0, u "<init>"), (0, u "()V"), (17, .class_ 26), (1, u "jdk/internal/util/Preconditions"), (6, u "checkIndex"), (21, .class_ 56), (0, u "jdk/internal/util/Preconditions$4"), (57, .class_ 115), (0, u "jdk/internal/util/Preconditions$1"), (7, u "SIOOBE_FORMATTER"), (0, u "Ljava/util/function/BiFunction;"), (0, .class_ 126), (0, u "jdk/internal/util/Preconditions$2"), (3, u "AIOOBE_FORMATTER"), (0, .class_ 132), (0, u "jdk/internal/util/Preconditions$3"), (3, u "IOOBE_FORMATTER"), (41, u "(IILjava/util/function/BiFunction;)I")] 15

def k11m0 : Method := { name := "<init>", desc := "()V", sig := { parameters := [], returnType := none }, accessFlags := 1, code := none }
def k11c1 : Code := { maxStack := 3, maxLocals := 3, code := jdk_41_method_11_code, exceptionTable := #[], attributes := #[] }
def k11m1 : Method := { name := "checkIndex", desc := "(IILjava/util/function/BiFunction;)I", sig := { parameters := [.int, .int, (.object "java/util/function/BiFunction")], returnType := some .int }, accessFlags := 9, code := some k11c1 }
/-- jdk/internal/util/Preconditions -/
def k11 : Class := { plain "jdk/internal/util/Preconditions" (some 0) with
  accessFlags := 33
  interfaces := #[]
  cf := some (fileOf pool11 24 #[.nestMembers #[55, 131, 125, 114]] #[{ accessFlags := 1, nameIndex := 5, descriptorIndex := 6, attributes := #[] }, { accessFlags := 9, nameIndex := 33, descriptorIndex := 178, attributes := #[] }] 33 2 #[] #[{ accessFlags := 25, nameIndex := 123, descriptorIndex := 124, attributes := #[] }, { accessFlags := 25, nameIndex := 130, descriptorIndex := 124, attributes := #[] }, { accessFlags := 25, nameIndex := 136, descriptorIndex := 124, attributes := #[] }])
  fields := #[{ name := "SIOOBE_FORMATTER", type := (.object "java/util/function/BiFunction"), accessFlags := 25, slot := 0, constantValue := 0 }, { name := "AIOOBE_FORMATTER", type := (.object "java/util/function/BiFunction"), accessFlags := 25, slot := 1, constantValue := 0 }, { name := "IOOBE_FORMATTER", type := (.object "java/util/function/BiFunction"), accessFlags := 25, slot := 2, constantValue := 0 }]
  methods := #[k11m0, k11m1]
  instanceTypes := #[]
  staticTypes := #[(.object "java/util/function/BiFunction"), (.object "java/util/function/BiFunction"), (.object "java/util/function/BiFunction")]
  resolved := Array.replicate 194 none
  statics := some 1 }

def pool12 : Array CpInfo := pool [(9, u "<init>"), (6, .class_ 18), (1, u "java/lang/Object"), (0, u "()V"), (1, .class_ 23), (1, u "jdk/internal/util/ArraysSupport"), (0, u "LOG2_ARRAY_LONG_INDEX_SCALE"), (0, u "I"), (2, u "U"), (0, u "Ljdk/internal/misc/Unsafe;"), (8, u "BIG_ENDIAN"), (0, u "Z"), (8, u "LOG2_BYTE_BIT_SIZE"), (4, u "LOG2_ARRAY_INT_INDEX_SCALE"), (54, u "JLA"), (0, u "Ljdk/internal/access/JavaLangAccess;"), (11, u "LOG2_ARRAY_BOOLEAN_INDEX_SCALE"), (9, u "LOG2_ARRAY_BYTE_INDEX_SCALE"), (5, u "LOG2_ARRAY_CHAR_INDEX_SCALE"), (5, u "LOG2_ARRAY_SHORT_INDEX_SCALE"), (18, u "LOG2_ARRAY_FLOAT_INDEX_SCALE"), (24, u "LOG2_ARRAY_DOUBLE_INDEX_SCALE"), (89, u "T_BOOLEAN"), (2, u "T_CHAR"), (1, u "T_FLOAT"), (1, u "T_DOUBLE"), (1, u "T_BYTE"), (1, u "T_SHORT"), (1, u "T_INT"), (1, u "T_LONG"), (1, u "SOFT_MAX_ARRAY_LENGTH")] 83

def k12m0 : Method := { name := "<init>", desc := "()V", sig := { parameters := [], returnType := none }, accessFlags := 2, code := none }
/-- jdk/internal/util/ArraysSupport -/
def k12 : Class := { plain "jdk/internal/util/ArraysSupport" (some 0) with
  accessFlags := 33
  interfaces := #[]
  cf := some (fileOf pool12 21 #[] #[{ accessFlags := 2, nameIndex := 9, descriptorIndex := 19, attributes := #[] }] 33 16 #[] #[{ accessFlags := 24, nameIndex := 28, descriptorIndex := 29, attributes := #[] }, { accessFlags := 26, nameIndex := 38, descriptorIndex := 39, attributes := #[] }, { accessFlags := 25, nameIndex := 121, descriptorIndex := 25, attributes := #[] }, { accessFlags := 25, nameIndex := 131, descriptorIndex := 25, attributes := #[] }, { accessFlags := 25, nameIndex := 137, descriptorIndex := 25, attributes := #[] }, { accessFlags := 25, nameIndex := 143, descriptorIndex := 25, attributes := #[] }, { accessFlags := 25, nameIndex := 53, descriptorIndex := 25, attributes := #[] }, { accessFlags := 25, nameIndex := 24, descriptorIndex := 25, attributes := #[] }, { accessFlags := 25, nameIndex := 162, descriptorIndex := 25, attributes := #[] }, { accessFlags := 25, nameIndex := 187, descriptorIndex := 25, attributes := #[] }, { accessFlags := 26, nameIndex := 48, descriptorIndex := 25, attributes := #[] }, { accessFlags := 25, nameIndex := 277, descriptorIndex := 25, attributes := #[] }, { accessFlags := 25, nameIndex := 280, descriptorIndex := 25, attributes := #[] }, { accessFlags := 25, nameIndex := 282, descriptorIndex := 25, attributes := #[] }, { accessFlags := 25, nameIndex := 284, descriptorIndex := 25, attributes := #[] }, { accessFlags := 25, nameIndex := 286, descriptorIndex := 25, attributes := #[] }, { accessFlags := 25, nameIndex := 288, descriptorIndex := 25, attributes := #[] }, { accessFlags := 25, nameIndex := 290, descriptorIndex := 25, attributes := #[] }, { accessFlags := 25, nameIndex := 292, descriptorIndex := 25, attributes := #[] }, { accessFlags := 26, nameIndex := 108, descriptorIndex := 109, attributes := #[] }, { accessFlags := 25, nameIndex := 294, descriptorIndex := 25, attributes := #[] }])
  fields := #[{ name := "U", type := (.object "jdk/internal/misc/Unsafe"), accessFlags := 24, slot := 0, constantValue := 0 }, { name := "BIG_ENDIAN", type := .boolean, accessFlags := 26, slot := 1, constantValue := 0 }, { name := "LOG2_ARRAY_BOOLEAN_INDEX_SCALE", type := .int, accessFlags := 25, slot := 2, constantValue := 0 }, { name := "LOG2_ARRAY_BYTE_INDEX_SCALE", type := .int, accessFlags := 25, slot := 3, constantValue := 0 }, { name := "LOG2_ARRAY_CHAR_INDEX_SCALE", type := .int, accessFlags := 25, slot := 4, constantValue := 0 }, { name := "LOG2_ARRAY_SHORT_INDEX_SCALE", type := .int, accessFlags := 25, slot := 5, constantValue := 0 }, { name := "LOG2_ARRAY_INT_INDEX_SCALE", type := .int, accessFlags := 25, slot := 6, constantValue := 0 }, { name := "LOG2_ARRAY_LONG_INDEX_SCALE", type := .int, accessFlags := 25, slot := 7, constantValue := 0 }, { name := "LOG2_ARRAY_FLOAT_INDEX_SCALE", type := .int, accessFlags := 25, slot := 8, constantValue := 0 }, { name := "LOG2_ARRAY_DOUBLE_INDEX_SCALE", type := .int, accessFlags := 25, slot := 9, constantValue := 0 }, { name := "LOG2_BYTE_BIT_SIZE", type := .int, accessFlags := 26, slot := 10, constantValue := 0 }, { name := "T_BOOLEAN", type := .int, accessFlags := 25, slot := 11, constantValue := 0 }, { name := "T_CHAR", type := .int, accessFlags := 25, slot := 12, constantValue := 0 }, { name := "T_FLOAT", type := .int, accessFlags := 25, slot := 13, constantValue := 0 }, { name := "T_DOUBLE", type := .int, accessFlags := 25, slot := 14, constantValue := 0 }, { name := "T_BYTE", type := .int, accessFlags := 25, slot := 15, constantValue := 0 }, { name := "T_SHORT", type := .int, accessFlags := 25, slot := 16, constantValue := 0 }, { name := "T_INT", type := .int, accessFlags := 25, slot := 17, constantValue := 0 }, { name := "T_LONG", type := .int, accessFlags := 25, slot := 18, constantValue := 0 }, { name := "JLA", type := (.object "jdk/internal/access/JavaLangAccess"), accessFlags := 26, slot := 19, constantValue := 0 }, { name := "SOFT_MAX_ARRAY_LENGTH", type := .int, accessFlags := 25, slot := 20, constantValue := 0 }]
  methods := #[k12m0]
  instanceTypes := #[]
  staticTypes := #[(.object "jdk/internal/misc/Unsafe"), .boolean, .int, .int, .int, .int, .int, .int, .int, .int, .int, .int, .int, .int, .int, .int, .int, .int, .int, (.object "jdk/internal/access/JavaLangAccess"), .int]
  resolved := Array.replicate 378 none
  statics := none }

def pool13 : Array CpInfo := pool [(1, u "java/lang/Cloneable"), (0, .class_ 1), (0, u "java/lang/Object"), (0, .class_ 3)] 3

/-- java/lang/Cloneable -/
def k13 : Class := { plain "java/lang/Cloneable" (some 0) with
  accessFlags := 1537
  interfaces := #[]
  cf := some (fileOf pool13 2 #[] #[] 1537 4 #[] #[])
  fields := #[]
  methods := #[]
  instanceTypes := #[]
  staticTypes := #[]
  resolved := Array.replicate 8 none
  statics := none }

/-- the primitive byte -/
def k14 : Class := { plain "byte" none with kind := .primitive 'B', accessFlags := 0x411 }
/-- [B -/
def k15 : Class := { plain "[B" (some 0) with kind := .array 14 .byte, interfaces := #[13, 4], accessFlags := 1041 }

/-- the primitive int -/
def k16 : Class := { plain "int" none with kind := .primitive 'I', accessFlags := 0x411 }
/-- [I -/
def k17 : Class := { plain "[I" (some 0) with kind := .array 16 .int, interfaces := #[13, 4], accessFlags := 1041 }

def heap : Heap := #[{ cls := 9, slots := #[.long 0, .int 1, .null, .int 0, .null, .int 0, .int 0], vm := .statics 9 },
  { cls := 11, slots := #[.null, .null, .null], vm := .statics 11 }]
def classes : Array Class := #[k0, k1, k2, k3, k4, k5, k6, k7, k8, k9, k10, k11, k12, k13, k14, k15, k16, k17]
def interned : List (Array UInt16 × Addr) := []
def slotsUsed : Nat := 10
def theMethod : MethodId := ⟨1, 1⟩
def args0 : Array Value := #[.int 5, .int 6, .int 7]
def aboutOver (below : List Frame) : State where
  vm := { classes := classes, interned := interned.toArray }
  heap := heap
  slotsUsed := slotsUsed
  threads := #[{ frames := .invoking theMethod args0 :: below }]
def below0 : List Frame := [.native { method := ⟨0, 0⟩, args := #[] }]
def about1 : State := aboutOver below0
def p0 : Program := .bare "" "" ""
def e0 : Env := launch0.env 0 0 0
theorem w_frames : about1.frames = Frame.invoking theMethod args0 :: below0 := rfl
set_option maxRecDepth 65536 in
theorem w_args : argsFit about1.vm theMethod args0 = true := by decide +kernel
set_option maxRecDepth 65536 in
theorem w_heap : heapFits about1 = true := by decide +kernel
set_option maxRecDepth 65536 in
theorem w_runnable : about1.curStatus? = some .runnable := by decide +kernel
set_option maxRecDepth 65536 in
theorem w_alone : about1.alone = true := by decide +kernel
set_option maxRecDepth 65536 in
theorem w_named : about1.methodNamed? x = some theMethod := by decide +kernel
set_option maxRecDepth 65536 in
theorem w_hears : about1.hears theMethod below0 = true := by decide +kernel
set_option maxRecDepth 65536 in
theorem w_ripe : about1.ripe theMethod args0 below0 = true := by decide +kernel
theorem w_running : about1.status = .running := rfl
set_option maxRecDepth 65536 in
theorem w_room : about1.hasRoom e0.platform room_1 = true :=
  launch0.hasRoom_least _ room_1 (by decide +kernel) (by decide +kernel) (by decide +kernel) (by decide +kernel) (by decide +kernel) (by decide +kernel)
theorem allAtoms_all (ts : List Jvm.Cond) (a : Array Jvm.Value) (st : Jvm.State) : (allAtoms ts).before a st = ts.all (fun c => c.before a st) := by
  induction ts with
  | nil => rfl
  | cons c t ih =>
    show (Jvm.Cond.and c (allAtoms t)).before a st = _
    rw [Jvm.Cond.before_and, ih, List.all_cons]
def words1 : List Jvm.Cond := Jvm.Cond.code x code maxLocals ret :: tables_1
/-- a 'code' word, met by the world's own term for the bytes: nothing is compared byte by byte -/
theorem code_word {y : MethodName} {bytes : ByteArray} {mx : Nat} {rt : Option FieldType} {a : Array Value} {s : State} {m : MethodId} {meth : Method} {c : Code} (h1 : s.methodNamed? y = some m) (h2 : s.vm.method? m = some meth) (h3 : meth.code = some c) (h4 : c.code = bytes)
    (h5 : (c.maxLocals == mx && c.exceptionTable.isEmpty && decide (c.maxStack ≤ mostOperands) && decide (meth.sig.returnType = rt) && !meth.locks && decide (parseMethodDescriptor y.desc = some meth.sig)) = true) : (Jvm.Cond.code y bytes mx rt).before a s = true := by
  simp only [Bool.and_eq_true, beq_iff_eq, Bool.not_eq_true', decide_eq_true_eq] at h5
  obtain ⟨⟨⟨⟨⟨g1, g2⟩, g3⟩, g4⟩, g5⟩, g6⟩ := h5
  simp [Cond.before, Cond.holds, Cond.value, h1, h2, h3, h4, g1, g2, g3, g4, g5, g6]
def isCode : Jvm.Cond → Bool
  | .code _ _ _ _ => true
  | _ => false
theorem all_split {L : List Jvm.Cond} {P : Jvm.Cond → Bool} (h1 : L.all (fun c => isCode c || P c) = true) (h2 : ∀ c ∈ L.filter isCode, P c = true) : L.all P = true := by
  refine List.all_eq_true.mpr fun c hc => ?_
  have h := List.all_eq_true.mp h1 c hc
  rcases Bool.eq_false_or_eq_true (isCode c) with hi | hi
  · exact h2 c (List.mem_filter.mpr ⟨hc, hi⟩)
  · simpa [hi] using h
set_option maxRecDepth 65536 in
theorem w_c0 : (Jvm.Cond.code x code maxLocals ret).before args0 about1 = true := code_word (m := ⟨1, 1⟩) (meth := k1m1) (c := k1c1) (by decide +kernel) rfl rfl rfl (by decide +kernel)
set_option maxRecDepth 65536 in
theorem w_c1 : (Jvm.Cond.code ({ cls := "com/example/tablier/tablier/arena/Result", name := "<init>", desc := "(IZ)V" } : Jvm.MethodName) prog_22_method_1_code (3 : Nat) (Option.none : Option Jvm.ClassFile.FieldType)).before args0 about1 = true := code_word (m := ⟨3, 0⟩) (meth := k3m0) (c := k3c0) (by decide +kernel) rfl rfl rfl (by decide +kernel)
set_option maxRecDepth 65536 in
theorem w_c2 : (Jvm.Cond.code ({ cls := "java/lang/Record", name := "<init>", desc := "()V" } : Jvm.MethodName) jdk_30_method_1_code (1 : Nat) (Option.none : Option Jvm.ClassFile.FieldType)).before args0 about1 = true := code_word (m := ⟨2, 0⟩) (meth := k2m0) (c := k2c0) (by decide +kernel) rfl rfl rfl (by decide +kernel)
set_option maxRecDepth 65536 in
theorem w_c3 : (Jvm.Cond.code ({ cls := "java/lang/Object", name := "<init>", desc := "()V" } : Jvm.MethodName) object_method_1_code (1 : Nat) (Option.none : Option Jvm.ClassFile.FieldType)).before args0 about1 = true := code_word (m := ⟨0, 0⟩) (meth := k0m0) (c := k0c0) (by decide +kernel) rfl rfl rfl (by decide +kernel)
set_option maxRecDepth 65536 in
theorem w_c4 : (Jvm.Cond.code ({ cls := "com/example/tablier/tablier/arena/Result", name := "ending", desc := "()Ljava/lang/String;" } : Jvm.MethodName) prog_22_method_4_code (1 : Nat) (Option.some (Jvm.ClassFile.FieldType.object "java/lang/String"))).before args0 about1 = true := code_word (m := ⟨3, 1⟩) (meth := k3m1) (c := k3c1) (by decide +kernel) rfl rfl rfl (by decide +kernel)
set_option maxRecDepth 65536 in
theorem w_c5 : (Jvm.Cond.code ({ cls := "java/lang/String", name := "length", desc := "()I" } : Jvm.MethodName) jdk_42_method_54_code (1 : Nat) (Option.some Jvm.ClassFile.FieldType.int)).before args0 about1 = true := code_word (m := ⟨9, 1⟩) (meth := k9m1) (c := k9c1) (by decide +kernel) rfl rfl rfl (by decide +kernel)
set_option maxRecDepth 65536 in
theorem w_c6 : (Jvm.Cond.code ({ cls := "java/lang/String", name := "coder", desc := "()B" } : Jvm.MethodName) jdk_42_method_152_code (1 : Nat) (Option.some Jvm.ClassFile.FieldType.byte)).before args0 about1 = true := code_word (m := ⟨9, 4⟩) (meth := k9m4) (c := k9c4) (by decide +kernel) rfl rfl rfl (by decide +kernel)
set_option maxRecDepth 65536 in
theorem w_c7 : (Jvm.Cond.code ({ cls := "java/lang/String", name := "equals", desc := "(Ljava/lang/Object;)Z" } : Jvm.MethodName) jdk_42_method_66_code (3 : Nat) (Option.some Jvm.ClassFile.FieldType.boolean)).before args0 about1 = true := code_word (m := ⟨9, 3⟩) (meth := k9m3) (c := k9c3) (by decide +kernel) rfl rfl rfl (by decide +kernel)
set_option maxRecDepth 65536 in
theorem w_c8 : (Jvm.Cond.code ({ cls := "java/lang/String", name := "charAt", desc := "(I)C" } : Jvm.MethodName) jdk_42_method_56_code (2 : Nat) (Option.some Jvm.ClassFile.FieldType.char)).before args0 about1 = true := code_word (m := ⟨9, 2⟩) (meth := k9m2) (c := k9c2) (by decide +kernel) rfl rfl rfl (by decide +kernel)
set_option maxRecDepth 65536 in
theorem w_c9 : (Jvm.Cond.code ({ cls := "java/lang/String", name := "isLatin1", desc := "()Z" } : Jvm.MethodName) jdk_42_method_154_code (1 : Nat) (Option.some Jvm.ClassFile.FieldType.boolean)).before args0 about1 = true := code_word (m := ⟨9, 5⟩) (meth := k9m5) (c := k9c5) (by decide +kernel) rfl rfl rfl (by decide +kernel)
set_option maxRecDepth 65536 in
theorem w_c10 : (Jvm.Cond.code ({ cls := "java/lang/StringLatin1", name := "charAt", desc := "([BI)C" } : Jvm.MethodName) jdk_43_method_2_code (2 : Nat) (Option.some Jvm.ClassFile.FieldType.char)).before args0 about1 = true := code_word (m := ⟨10, 1⟩) (meth := k10m1) (c := k10c1) (by decide +kernel) rfl rfl rfl (by decide +kernel)
set_option maxRecDepth 65536 in
theorem w_c11 : (Jvm.Cond.code ({ cls := "java/lang/String", name := "checkIndex", desc := "(II)V" } : Jvm.MethodName) jdk_42_method_155_code (2 : Nat) (Option.none : Option Jvm.ClassFile.FieldType)).before args0 about1 = true := code_word (m := ⟨9, 6⟩) (meth := k9m6) (c := k9c6) (by decide +kernel) rfl rfl rfl (by decide +kernel)
set_option maxRecDepth 65536 in
theorem w_c12 : (Jvm.Cond.code ({ cls := "jdk/internal/util/Preconditions", name := "checkIndex", desc := "(IILjava/util/function/BiFunction;)I" } : Jvm.MethodName) jdk_41_method_11_code (3 : Nat) (Option.some Jvm.ClassFile.FieldType.int)).before args0 about1 = true := code_word (m := ⟨11, 1⟩) (meth := k11m1) (c := k11c1) (by decide +kernel) rfl rfl rfl (by decide +kernel)
def codes1 : List Jvm.Cond := [Jvm.Cond.code x code maxLocals ret, Jvm.Cond.code ({ cls := "com/example/tablier/tablier/arena/Result", name := "<init>", desc := "(IZ)V" } : Jvm.MethodName) prog_22_method_1_code (3 : Nat) (Option.none : Option Jvm.ClassFile.FieldType), Jvm.Cond.code ({ cls := "java/lang/Record", name := "<init>", desc := "()V" } : Jvm.MethodName) jdk_30_method_1_code (1 : Nat) (Option.none : Option Jvm.ClassFile.FieldType), Jvm.Cond.code ({ cls := "java/lang/Object", name := "<init>", desc := "()V" } : Jvm.MethodName) object_method_1_code (1 : Nat) (Option.none : Option Jvm.ClassFile.FieldType), Jvm.Cond.code ({ cls := "com/example/tablier/tablier/arena/Result", name := "ending", desc := "()Ljava/lang/String;" } : Jvm.MethodName) prog_22_method_4_code (1 : Nat) (Option.some (Jvm.ClassFile.FieldType.object "java/lang/String")), Jvm.Cond.code ({ cls := "java/lang/String", name := "length", desc := "()I" } : Jvm.MethodName) jdk_42_method_54_code (1 : Nat) (Option.some Jvm.ClassFile.FieldType.int), Jvm.Cond.code ({ cls := "java/lang/String", name := "coder", desc := "()B" } : Jvm.MethodName) jdk_42_method_152_code (1 : Nat) (Option.some Jvm.ClassFile.FieldType.byte), Jvm.Cond.code ({ cls := "java/lang/String", name := "equals", desc := "(Ljava/lang/Object;)Z" } : Jvm.MethodName) jdk_42_method_66_code (3 : Nat) (Option.some Jvm.ClassFile.FieldType.boolean), Jvm.Cond.code ({ cls := "java/lang/String", name := "charAt", desc := "(I)C" } : Jvm.MethodName) jdk_42_method_56_code (2 : Nat) (Option.some Jvm.ClassFile.FieldType.char), Jvm.Cond.code ({ cls := "java/lang/String", name := "isLatin1", desc := "()Z" } : Jvm.MethodName) jdk_42_method_154_code (1 : Nat) (Option.some Jvm.ClassFile.FieldType.boolean), Jvm.Cond.code ({ cls := "java/lang/StringLatin1", name := "charAt", desc := "([BI)C" } : Jvm.MethodName) jdk_43_method_2_code (2 : Nat) (Option.some Jvm.ClassFile.FieldType.char), Jvm.Cond.code ({ cls := "java/lang/String", name := "checkIndex", desc := "(II)V" } : Jvm.MethodName) jdk_42_method_155_code (2 : Nat) (Option.none : Option Jvm.ClassFile.FieldType), Jvm.Cond.code ({ cls := "jdk/internal/util/Preconditions", name := "checkIndex", desc := "(IILjava/util/function/BiFunction;)I" } : Jvm.MethodName) jdk_41_method_11_code (3 : Nat) (Option.some Jvm.ClassFile.FieldType.int)]
set_option maxRecDepth 65536 in
theorem codes_eq : words1.filter isCode = codes1 := rfl
theorem w_codes : ∀ c ∈ words1.filter isCode, c.before args0 about1 = true := by
  rw [codes_eq]
  intro c hc
  simp only [codes1, List.mem_cons, List.not_mem_nil, or_false] at hc
  rcases hc with rfl | rfl | rfl | rfl | rfl | rfl | rfl | rfl | rfl | rfl | rfl | rfl | rfl
  · exact w_c0
  · exact w_c1
  · exact w_c2
  · exact w_c3
  · exact w_c4
  · exact w_c5
  · exact w_c6
  · exact w_c7
  · exact w_c8
  · exact w_c9
  · exact w_c10
  · exact w_c11
  · exact w_c12
set_option maxRecDepth 65536 in
theorem w_t1 : (words1.take 24).all (fun c => isCode c || c.before args0 about1) = true := by decide +kernel
set_option maxRecDepth 65536 in
theorem w_t2 : ((words1.drop 24).take 24).all (fun c => isCode c || c.before args0 about1) = true := by decide +kernel
set_option maxRecDepth 65536 in
theorem w_t3 : (((words1.drop 24).drop 24).take 24).all (fun c => isCode c || c.before args0 about1) = true := by decide +kernel
set_option maxRecDepth 65536 in
theorem w_t4 : (((words1.drop 24).drop 24).drop 24).all (fun c => isCode c || c.before args0 about1) = true := by decide +kernel
theorem w_tables : (allAtoms (Jvm.Cond.code x code maxLocals ret :: tables_1)).before args0 about1 = true := by
  rw [allAtoms_all]
  show words1.all (fun c => c.before args0 about1) = true
  refine all_split ?_ w_codes
  rw [← List.take_append_drop 24 words1, List.all_append, w_t1, ← List.take_append_drop 24 (words1.drop 24), List.all_append, w_t2, ← List.take_append_drop 24 ((words1.drop 24).drop 24), List.all_append, w_t3, w_t4]
  rfl
set_option maxRecDepth 65536 in
theorem w_rest : rest_1_c.before args0 about1 = true := by decide +kernel
set_option maxRecDepth 65536 in
theorem w_case : (Jvm.Cond.and given_1 narrow_1).before args0 about1 = true := by decide +kernel
set_option maxRecDepth 65536 in
theorem w_consts : constsHeld consts_1 about1 := Jvm.Lit.constsHeldB_iff.mp (by decide +kernel)
theorem w_applies : (headSpec (Jvm.Cond.code x code maxLocals ret :: tables_1) room_1).applies x e0.platform about1 = true :=
  (Spec.applies_iff w_frames).mpr ⟨w_running, w_runnable, w_alone, w_named, w_hears, w_ripe, w_room, w_tables⟩
theorem atStart : AtStart classFile x code maxLocals ret World_1 tables_1 room_1 Calls_1 rest_1 Pre_1 launch0 p0 e0 about1 theMethod args0 below0 :=
  ⟨lists_1, trivial, launch0.admits_env _ _ _, launch0.least_env, fairChoices_fair.cas, fairChoices_fair.clock, w_frames, w_args, w_heap, w_applies, ⟨w_consts, trivial⟩, w_rest, w_case⟩
end start1
theorem witness_1 : WitnessClaimed_1 := ⟨start1.p0, start1.e0, start1.about1, start1.theMethod, start1.args0, start1.below0, start1.atStart⟩
end Jvm.Pilot.@@N@@
