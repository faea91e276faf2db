import JvmDerived
import JvmDerived.Pilot.@@N@@Statement
import JvmDerived.Pilot.@@N@@Code
set_option linter.unusedVariables false
set_option linter.unusedSimpArgs false
namespace Jvm.Pilot.@@N@@
open Jvm Jvm.ClassFile Sem Op Lib Jvm.Free Jvm.Stand Jvm.LawKit Jvm.RoadKit Bundle Jvm.Pilot.@@N@@.Jvm.D
abbrev sI (x : Int32) : Slot := .val (.int x)
abbrev sJ (x : Int64) : Slot := .val (.long x)
abbrev sR (a : Addr) : Slot := .val (.ref a)
abbrev sN : Slot := .val .null
abbrev sU : Slot := .unset
abbrev sW : Slot := .second
abbrev own_S (p : Program) (e : Env) (below : List Frame) (T : State) (m : MethodId) (pc : Nat) (L : Array Slot) (S : List Value) (t : State) : Prop := Steps p.tables e below (T.setTop (mkF m pc L S)) t
theorem own_d2_0 : decode jdk_30_method_1_code 0 = .ok (.aload_n 0, 1) := by decide +kernel
theorem own_d2_1 : decode jdk_30_method_1_code 1 = .ok (.invokespecial 1, 3) := by decide +kernel
theorem own_d2_4 : decode jdk_30_method_1_code 4 = .ok (.return_, 1) := by decide +kernel
theorem own_pn_0 : plainName "java/lang/Record" = true := by first | (simp [plainName, overriddenIn]; done) | decide +kernel
theorem own_ef_2 (m : MethodId) (x0 : Addr) : entryFrame m #[(.ref x0)] 1 = mkF m 0 #[sR x0] [] := by first | (simp [entryFrame, mkF, argsToLocals, Value.category]; done) | rfl
def own_Q2 (Z : State) (a1 : Addr) (h0 : Heap) (n0 : Nat) (v : Option Value) (h : Heap) (L : List Loc) : Prop := v = none ∧ Fr n0 L ∧ h = h0
abbrev own_y0 : MethodName := ⟨"java/lang/Record", "<init>", "()V"⟩
set_option maxRecDepth 65536 in
set_option maxHeartbeats 40000000 in
theorem own_rm2 (l : Launch) (Z : State) (a0 : Array Value) (hw : ∀ d ∈ tables_1, d.before a0 Z = true) (ws : List Jvm.Cond) (a1 : Addr) (h0 : Heap) (n0 : Nat) (Z0 : n0 ≤ h0.size)  :
    MetFree l own_y0 (head1 (Jvm.Cond.code own_y0 jdk_30_method_1_code 1 none :: ws) ({ frames := 1, cells := 0, slots := 0, locals := 12 } : Room)) (fun a U => a = #[(.ref a1)] ∧ Z.Warmed39 U.vm ∧ U.heap = h0) (fun _ _ _ _ _ => True) (fun _ U o U' => ∃ v L, o = .returned v ∧ own_Q2 Z a1 h0 n0 v U'.heap L ∧ FrameEnd U o U' L ({ frames := 1, cells := 0, slots := 0, locals := 12 } : Room).cells ({ frames := 1, cells := 0, slots := 0, locals := 12 } : Room).slots) := by
  refine MetFree.of_bodySF (plainFor_of_name own_pn_0) hisR ?_
  intro p e s m args below meth c s₁ Bd hml0 hP hK
  obtain ⟨rfl, hZ, hh⟩ := hP
  have hw11 := hw _ (List.mem_of_getElem? (i := 11) rfl)
  have hw12 := hw _ (List.mem_of_getElem? (i := 12) rfl)
  have hw13 := hw _ (List.mem_of_getElem? (i := 13) rfl)
  have hx := Bd.exec
  have hby := Bd.bytes
  have hml : c.maxLocals = 1 := hml0
  have hown : s.vm.findClass "java/lang/Record" = some m.cls := findClass_of_methodNamed Bd.named
  have hnm := (name_of_methodNamed Bd.named Bd.method).1
  have X0 : Stand p l e ({ frames := 1, cells := 0, slots := 0, locals := 12 } : Room) s m #[(.ref a1)] below meth c s₁ [] 0 0 := Stand.of_body Bd
  have e0 : s₁.heap = h0 := by rw [← hh, Bd.state]; rfl
  have N0 := Fr.nil n0
  obtain ⟨R0, hR0⟩ : ∃ R : State → Prop, R = fun t => Steps p.tables e below (s₁.setTop (entryFrame m #[(.ref a1)] 1)) t := ⟨_, rfl⟩
  have pre0 : ∀ t, Steps p.tables e below (s₁.setTop (mkF m 0 #[sR a1] [])) t → R0 t := fun t k => by rw [hR0]; exact castTop (own_ef_2 m a1) k
  have pre1 : ∀ t, own_S p e below s₁ m 1 #[sR a1] [(.ref a1)] t → R0 t := fun t k => pre0 t (by
    refine XS.aloadN X0.here hx rfl (hb hby own_d2_0) rfl rfl ?_
    exact k)
  obtain ⟨T2, X2, e2, st2⟩ := initO X0 hx hZ hown hw11 hw12 hw13 e0 (g := (mkF m 1 #[sR a1] [(.ref a1)])) rfl (by rw [hml]; rfl) rfl (hb hby own_d2_1) (by decide) (W := 0) (by show 2 * 0 + _ ≤ _; exact Nat.le_of_eq rfl) (by decide)
  have pre3 : ∀ t, own_S p e below T2 m 4 #[sR a1] [] t → R0 t := fun t k => pre1 t (by
    refine st2 _ ?_
    exact k)
  obtain ⟨fs, hr, hrun, hended, hW, hsame⟩ := X2.leave (v := none) (fun _ => rfl)
  refine ⟨_, _, cast (congrFun hR0 _) (pre3 _ (X2.returnOut hx Bd.returns (hb hby own_d2_4) hr)), hrun, hended, _, _, rfl, ?_, ⟨_, rfl⟩, hW, hsame.mono (by decide) (by decide)⟩
  show own_Q2 Z _ h0 n0 _ T2.heap _
  rw [e2]
  exact ⟨rfl, N0, rfl⟩
theorem own_pd_0 : parseMethodDescriptor "()V" = some ⟨[], none⟩ := by decide +kernel
theorem own_d1_0 : decode prog_12_method_1_code 0 = .ok (.aload_n 0, 1) := by decide +kernel
theorem own_d1_1 : decode prog_12_method_1_code 1 = .ok (.invokespecial 1, 3) := by decide +kernel
theorem own_d1_4 : decode prog_12_method_1_code 4 = .ok (.aload_n 0, 1) := by decide +kernel
theorem own_d1_5 : decode prog_12_method_1_code 5 = .ok (.iload_n 1, 1) := by decide +kernel
theorem own_d1_6 : decode prog_12_method_1_code 6 = .ok (.putfield 7, 3) := by decide +kernel
theorem own_d1_9 : decode prog_12_method_1_code 9 = .ok (.aload_n 0, 1) := by decide +kernel
theorem own_d1_10 : decode prog_12_method_1_code 10 = .ok (.iload_n 2, 1) := by decide +kernel
theorem own_d1_11 : decode prog_12_method_1_code 11 = .ok (.putfield 13, 3) := by decide +kernel
theorem own_d1_14 : decode prog_12_method_1_code 14 = .ok (.aload_n 0, 1) := by decide +kernel
theorem own_d1_15 : decode prog_12_method_1_code 15 = .ok (.iload_n 3, 1) := by decide +kernel
theorem own_d1_16 : decode prog_12_method_1_code 16 = .ok (.putfield 16, 3) := by decide +kernel
theorem own_d1_19 : decode prog_12_method_1_code 19 = .ok (.aload_n 0, 1) := by decide +kernel
theorem own_d1_20 : decode prog_12_method_1_code 20 = .ok (.aload 4, 2) := by decide +kernel
theorem own_d1_22 : decode prog_12_method_1_code 22 = .ok (.putfield 19, 3) := by decide +kernel
theorem own_d1_25 : decode prog_12_method_1_code 25 = .ok (.return_, 1) := by decide +kernel
theorem own_pn_1 : plainName "com/example/tablier/tablier/arena/Match$Summary" = true := by first | (simp [plainName, overriddenIn]; done) | decide +kernel
theorem own_ef_1 (m : MethodId) (x0 : Addr) (x1 : Int32) (x2 : Int32) (x3 : Int32) : entryFrame m #[(.ref x0), (.int x1), (.int x2), (.int x3), .null] 5 = mkF m 0 #[sR x0, sI x1, sI x2, sI x3, sN] [] := by first | (simp [entryFrame, mkF, argsToLocals, Value.category]; done) | rfl
def own_Q1 (Z : State) (a1 : Addr) (p2 : Int32) (p3 : Int32) (p4 : Int32) (u0 : Value) (u1 : Value) (u2 : Value) (u3 : Value) (h0 : Heap) (n0 : Nat) (v : Option Value) (h : Heap) (L : List Loc) : Prop := v = none ∧ Fr n0 L ∧ Keep h0 h [a1] ∧ Exa Z h a1 "com/example/tablier/tablier/arena/Match$Summary" ∧ Fld Z h a1 "com/example/tablier/tablier/arena/Match$Summary" "winsOfA" "I" (.int p2) ∧ Fld Z h a1 "com/example/tablier/tablier/arena/Match$Summary" "winsOfB" "I" (.int p3) ∧ Fld Z h a1 "com/example/tablier/tablier/arena/Match$Summary" "draws" "I" (.int p4) ∧ Fld Z h a1 "com/example/tablier/tablier/arena/Match$Summary" "points" "Ljava/util/Optional;" .null
abbrev own_y1 : MethodName := ⟨"com/example/tablier/tablier/arena/Match$Summary", "<init>", "(IIILjava/util/Optional;)V"⟩
set_option maxRecDepth 65536 in
set_option maxHeartbeats 40000000 in
theorem own_rm1 (l : Launch) (Z : State) (a0 : Array Value) (hw : ∀ d ∈ tables_1, d.before a0 Z = true) (ws : List Jvm.Cond) (a1 : Addr) (p2 : Int32) (p3 : Int32) (p4 : Int32) (u0 : Value) (u1 : Value) (u2 : Value) (u3 : Value) (h0 : Heap) (n0 : Nat) (Z0 : n0 ≤ h0.size) (E_a1 : Exa Z h0 a1 "com/example/tablier/tablier/arena/Match$Summary") (F_winsOfA_a1 : Fld Z h0 a1 "com/example/tablier/tablier/arena/Match$Summary" "winsOfA" "I" u0) (F_winsOfB_a1 : Fld Z h0 a1 "com/example/tablier/tablier/arena/Match$Summary" "winsOfB" "I" u1) (F_draws_a1 : Fld Z h0 a1 "com/example/tablier/tablier/arena/Match$Summary" "draws" "I" u2) (F_points_a1 : Fld Z h0 a1 "com/example/tablier/tablier/arena/Match$Summary" "points" "Ljava/util/Optional;" u3) (g_a1 : n0 ≤ a1) :
    MetFree l own_y1 (head1 (Jvm.Cond.code own_y1 prog_12_method_1_code 5 none :: ws) ({ frames := 2, cells := 0, slots := 0, locals := 24 } : Room)) (fun a U => a = #[(.ref a1), (.int p2), (.int p3), (.int p4), .null] ∧ Z.Warmed39 U.vm ∧ U.heap = h0) (fun _ _ _ _ _ => True) (fun _ U o U' => ∃ v L, o = .returned v ∧ own_Q1 Z a1 p2 p3 p4 u0 u1 u2 u3 h0 n0 v U'.heap L ∧ FrameEnd U o U' L ({ frames := 2, cells := 0, slots := 0, locals := 24 } : Room).cells ({ frames := 2, cells := 0, slots := 0, locals := 24 } : Room).slots) := by
  refine MetFree.of_bodySF (plainFor_of_name own_pn_1) hisR ?_
  intro p e s m args below meth c s₁ Bd hml0 hP hK
  obtain ⟨rfl, hZ, hh⟩ := hP
  have hw1 := hw _ (List.mem_of_getElem? (i := 1) rfl)
  have hw6 := hw _ (List.mem_of_getElem? (i := 6) rfl)
  have hw7 := hw _ (List.mem_of_getElem? (i := 7) rfl)
  have hw9 := hw _ (List.mem_of_getElem? (i := 9) rfl)
  have hw10 := hw _ (List.mem_of_getElem? (i := 10) rfl)
  have hw14 := hw _ (List.mem_of_getElem? (i := 14) rfl)
  have hw15 := hw _ (List.mem_of_getElem? (i := 15) rfl)
  have hw16 := hw _ (List.mem_of_getElem? (i := 16) rfl)
  have hw17 := hw _ (List.mem_of_getElem? (i := 17) rfl)
  have hw18 := hw _ (List.mem_of_getElem? (i := 18) rfl)
  have hw19 := hw _ (List.mem_of_getElem? (i := 19) rfl)
  have hw20 := hw _ (List.mem_of_getElem? (i := 20) rfl)
  have hw21 := hw _ (List.mem_of_getElem? (i := 21) rfl)
  have hx := Bd.exec
  have hby := Bd.bytes
  have hml : c.maxLocals = 5 := hml0
  have hown : s.vm.findClass "com/example/tablier/tablier/arena/Match$Summary" = some m.cls := findClass_of_methodNamed Bd.named
  have hnm := (name_of_methodNamed Bd.named Bd.method).1
  have X0 : Stand p l e ({ frames := 2, cells := 0, slots := 0, locals := 24 } : Room) s m #[(.ref a1), (.int p2), (.int p3), (.int p4), .null] below meth c s₁ [] 0 0 := Stand.of_body Bd
  have e0 : s₁.heap = h0 := by rw [← hh, Bd.state]; rfl
  have N0 := Fr.nil n0
  obtain ⟨R0, hR0⟩ : ∃ R : State → Prop, R = fun t => Steps p.tables e below (s₁.setTop (entryFrame m #[(.ref a1), (.int p2), (.int p3), (.int p4), .null] 5)) t := ⟨_, rfl⟩
  have pre0 : ∀ t, Steps p.tables e below (s₁.setTop (mkF m 0 #[sR a1, sI p2, sI p3, sI p4, sN] [])) t → R0 t := fun t k => by rw [hR0]; exact castTop (own_ef_1 m a1 p2 p3 p4) k
  have pre1 : ∀ t, own_S p e below s₁ m 1 #[sR a1, sI p2, sI p3, sI p4, sN] [(.ref a1)] t → R0 t := fun t k => pre0 t (by
    refine XS.aloadN X0.here hx rfl (hb hby own_d1_0) rfl rfl ?_
    exact k)
  obtain ⟨_, _, ⟨T2, L2, k2, n2⟩, -, X2, ⟨Lc2, hQ2, l2, y2, z2⟩, st2⟩ := X0.specialBack hx (y := own_y0) rfl hown (mvT hZ hw6) (mvT hZ hw7) (mvT hZ hw10) (by decide) (backOf (W := 0) (own_rm2 l Z a0 hw [] a1 h0 n0 Z0 ) hZ hw10 hw9 (by decide) (by decide)) (g := (mkF m 1 #[sR a1, sI p2, sI p3, sI p4, sN] [(.ref a1)])) rfl (by rw [hml]; rfl) (Steps.refl _) (a := a1) (argsL := []) (rest := []) (lenOf own_pd_0 rfl) rfl (by show 2 * 0 + _ ≤ _; exact Nat.le_of_eq rfl) (hb hby own_d1_1) (fun _ _ => ⟨rfl, e0, (by decide : 0 + 0 ≤ _), (by decide : 0 + 0 ≤ _)⟩)
  dsimp only [Pt.U, Pt.locs, Pt.cells, Pt.slots] at X2 l2 y2 z2 st2 hQ2
  subst l2 y2 z2
  obtain ⟨rfl, N2q, eh2⟩ := hQ2
  have N2 := Fr.app N0 N2q
  have pre3 : ∀ t, own_S p e below T2 m 6 #[sR a1, sI p2, sI p3, sI p4, sN] [(.int p2), (.ref a1)] t → R0 t := fun t k => pre1 t (by
    refine st2.trans ?_
    show own_S p e below T2 m 4 #[sR a1, sI p2, sI p3, sI p4, sN] [] _
    refine XS.aloadN X2.here hx rfl (hb hby own_d1_4) rfl rfl ?_
    show own_S p e below T2 m 5 #[sR a1, sI p2, sI p3, sI p4, sN] [(.ref a1)] _
    refine XS.iloadN X2.here hx rfl (hb hby own_d1_5) rfl ?_
    exact k)
  obtain ⟨T4, h4, X4, e4, W4, st4⟩ := putF X2 hx hZ hown (host := "") (Or.inl hw14) Via.refl eh2 F_winsOfA_a1 E_a1 (Or.inr ⟨hw15, rfl, hnm⟩) hw1 (ty := .int) (by decide) rfl rfl (g := (mkF m 6 #[sR a1, sI p2, sI p3, sI p4, sN] [(.int p2), (.ref a1)])) rfl rfl (hb hby own_d1_6)
  have f5 := Nat.le_trans Z0 (Keep.of_wr W4).1
  have f6 := E_a1.wr W4
  have f7 := F_winsOfB_a1.other W4 (Or.inr (slot_ne (Or.inr hw17) (Or.inr hw15) (by decide) (t := .int) (t' := .int) (by decide) (by decide)))
  have f8 := F_draws_a1.other W4 (Or.inr (slot_ne (Or.inr hw19) (Or.inr hw15) (by decide) (t := .int) (t' := .int) (by decide) (by decide)))
  have f9 := F_points_a1.other W4 (Or.inr (slot_ne (Or.inr hw21) (Or.inr hw15) (by decide) (t := (.object "java/util/Optional")) (t' := .int) (by decide) (by decide)))
  have f10 := F_winsOfA_a1.same W4
  have N11 := Fr.snoc X4 N2 g_a1
  have K12 : Keep h0 h4 [a1] := (Keep.refl h0 [a1]).wr W4 (Or.inl (List.mem_of_getElem? (i := 0) rfl))
  have pre13 : ∀ t, own_S p e below T4 m 11 #[sR a1, sI p2, sI p3, sI p4, sN] [(.int p3), (.ref a1)] t → R0 t := fun t k => pre3 t (by
    refine st4 _ ?_
    show own_S p e below T4 m 9 #[sR a1, sI p2, sI p3, sI p4, sN] [] _
    refine XS.aloadN X4.here hx rfl (hb hby own_d1_9) rfl rfl ?_
    show own_S p e below T4 m 10 #[sR a1, sI p2, sI p3, sI p4, sN] [(.ref a1)] _
    refine XS.iloadN X4.here hx rfl (hb hby own_d1_10) rfl ?_
    exact k)
  obtain ⟨T14, h14, X14, e14, W14, st14⟩ := putF X4 hx hZ hown (host := "") (Or.inl hw16) Via.refl e4 f7 f6 (Or.inr ⟨hw17, rfl, hnm⟩) hw1 (ty := .int) (by decide) rfl rfl (g := (mkF m 11 #[sR a1, sI p2, sI p3, sI p4, sN] [(.int p3), (.ref a1)])) rfl rfl (hb hby own_d1_11)
  have f15 := Nat.le_trans f5 (Keep.of_wr W14).1
  have f16 := f6.wr W14
  have f17 := f8.other W14 (Or.inr (slot_ne (Or.inr hw19) (Or.inr hw17) (by decide) (t := .int) (t' := .int) (by decide) (by decide)))
  have f18 := f9.other W14 (Or.inr (slot_ne (Or.inr hw21) (Or.inr hw17) (by decide) (t := (.object "java/util/Optional")) (t' := .int) (by decide) (by decide)))
  have f19 := f10.other W14 (Or.inr (slot_ne (Or.inr hw15) (Or.inr hw17) (by decide) (t := .int) (t' := .int) (by decide) (by decide)))
  have f20 := f7.same W14
  have N21 := Fr.snoc X14 N11 g_a1
  have K22 : Keep h0 h14 [a1] := K12.wr W14 (Or.inl (List.mem_of_getElem? (i := 0) rfl))
  have pre23 : ∀ t, own_S p e below T14 m 16 #[sR a1, sI p2, sI p3, sI p4, sN] [(.int p4), (.ref a1)] t → R0 t := fun t k => pre13 t (by
    refine st14 _ ?_
    show own_S p e below T14 m 14 #[sR a1, sI p2, sI p3, sI p4, sN] [] _
    refine XS.aloadN X14.here hx rfl (hb hby own_d1_14) rfl rfl ?_
    show own_S p e below T14 m 15 #[sR a1, sI p2, sI p3, sI p4, sN] [(.ref a1)] _
    refine XS.iloadN X14.here hx rfl (hb hby own_d1_15) rfl ?_
    exact k)
  obtain ⟨T24, h24, X24, e24, W24, st24⟩ := putF X14 hx hZ hown (host := "") (Or.inl hw18) Via.refl e14 f17 f16 (Or.inr ⟨hw19, rfl, hnm⟩) hw1 (ty := .int) (by decide) rfl rfl (g := (mkF m 16 #[sR a1, sI p2, sI p3, sI p4, sN] [(.int p4), (.ref a1)])) rfl rfl (hb hby own_d1_16)
  have f25 := Nat.le_trans f15 (Keep.of_wr W24).1
  have f26 := f16.wr W24
  have f27 := f18.other W24 (Or.inr (slot_ne (Or.inr hw21) (Or.inr hw19) (by decide) (t := (.object "java/util/Optional")) (t' := .int) (by decide) (by decide)))
  have f28 := f19.other W24 (Or.inr (slot_ne (Or.inr hw15) (Or.inr hw19) (by decide) (t := .int) (t' := .int) (by decide) (by decide)))
  have f29 := f20.other W24 (Or.inr (slot_ne (Or.inr hw17) (Or.inr hw19) (by decide) (t := .int) (t' := .int) (by decide) (by decide)))
  have f30 := f17.same W24
  have N31 := Fr.snoc X24 N21 g_a1
  have K32 : Keep h0 h24 [a1] := K22.wr W24 (Or.inl (List.mem_of_getElem? (i := 0) rfl))
  have pre33 : ∀ t, own_S p e below T24 m 22 #[sR a1, sI p2, sI p3, sI p4, sN] [.null, (.ref a1)] t → R0 t := fun t k => pre23 t (by
    refine st24 _ ?_
    show own_S p e below T24 m 19 #[sR a1, sI p2, sI p3, sI p4, sN] [] _
    refine XS.aloadN X24.here hx rfl (hb hby own_d1_19) rfl rfl ?_
    show own_S p e below T24 m 20 #[sR a1, sI p2, sI p3, sI p4, sN] [(.ref a1)] _
    refine XS.aload X24.here hx rfl (hb hby own_d1_20) rfl rfl ?_
    exact k)
  obtain ⟨T34, h34, X34, e34, W34, st34⟩ := putF X24 hx hZ hown (host := "") (Or.inl hw20) Via.refl e24 f27 f26 (Or.inr ⟨hw21, rfl, hnm⟩) hw1 (ty := (.object "java/util/Optional")) (by decide) rfl rfl (g := (mkF m 22 #[sR a1, sI p2, sI p3, sI p4, sN] [.null, (.ref a1)])) rfl rfl (hb hby own_d1_22)
  have f35 := Nat.le_trans f25 (Keep.of_wr W34).1
  have f36 := f26.wr W34
  have f37 := f28.other W34 (Or.inr (slot_ne (Or.inr hw15) (Or.inr hw21) (by decide) (t := .int) (t' := (.object "java/util/Optional")) (by decide) (by decide)))
  have f38 := f29.other W34 (Or.inr (slot_ne (Or.inr hw17) (Or.inr hw21) (by decide) (t := .int) (t' := (.object "java/util/Optional")) (by decide) (by decide)))
  have f39 := f30.other W34 (Or.inr (slot_ne (Or.inr hw19) (Or.inr hw21) (by decide) (t := .int) (t' := (.object "java/util/Optional")) (by decide) (by decide)))
  have f40 := f27.same W34
  have N41 := Fr.snoc X34 N31 g_a1
  have K42 : Keep h0 h34 [a1] := K32.wr W34 (Or.inl (List.mem_of_getElem? (i := 0) rfl))
  have pre43 : ∀ t, own_S p e below T34 m 25 #[sR a1, sI p2, sI p3, sI p4, sN] [] t → R0 t := fun t k => pre33 t (by
    refine st34 _ ?_
    exact k)
  obtain ⟨fs, hr, hrun, hended, hW, hsame⟩ := X34.leave (v := none) (fun _ => rfl)
  refine ⟨_, _, cast (congrFun hR0 _) (pre43 _ (X34.returnOut hx Bd.returns (hb hby own_d1_25) hr)), hrun, hended, _, _, rfl, ?_, ⟨_, rfl⟩, hW, hsame.mono (by decide) (by decide)⟩
  show own_Q1 Z _ _ _ _ _ _ _ _ h0 n0 _ T34.heap _
  rw [e34]
  exact ⟨rfl, N41, K42, f36, f37, f38, f39, f40⟩
theorem own_d4_0 : decode prog_12_method_2_code 0 = .ok (.aload_n 0, 1) := by decide +kernel
theorem own_d4_1 : decode prog_12_method_2_code 1 = .ok (.getfield 7, 3) := by decide +kernel
theorem own_d4_4 : decode prog_12_method_2_code 4 = .ok (.aload_n 0, 1) := by decide +kernel
theorem own_d4_5 : decode prog_12_method_2_code 5 = .ok (.getfield 13, 3) := by decide +kernel
theorem own_d4_8 : decode prog_12_method_2_code 8 = .ok (.iadd, 1) := by decide +kernel
theorem own_d4_9 : decode prog_12_method_2_code 9 = .ok (.aload_n 0, 1) := by decide +kernel
theorem own_d4_10 : decode prog_12_method_2_code 10 = .ok (.getfield 16, 3) := by decide +kernel
theorem own_d4_13 : decode prog_12_method_2_code 13 = .ok (.iadd, 1) := by decide +kernel
theorem own_d4_14 : decode prog_12_method_2_code 14 = .ok (.ireturn, 1) := by decide +kernel
theorem own_ef_4 (m : MethodId) (x0 : Addr) : entryFrame m #[(.ref x0)] 1 = mkF m 0 #[sR x0] [] := by first | (simp [entryFrame, mkF, argsToLocals, Value.category]; done) | rfl
def own_Q4 (Z : State) (a1 : Addr) (w1 : Int32) (w2 : Int32) (w3 : Int32) (h0 : Heap) (n0 : Nat) (v : Option Value) (h : Heap) (L : List Loc) : Prop := v = some (.int ((w1 + w2) + w3)) ∧ Fr n0 L ∧ h = h0
abbrev own_y2 : MethodName := ⟨"com/example/tablier/tablier/arena/Match$Summary", "games", "()I"⟩
set_option maxRecDepth 65536 in
set_option maxHeartbeats 40000000 in
theorem own_rm4 (l : Launch) (Z : State) (a0 : Array Value) (hw : ∀ d ∈ tables_1, d.before a0 Z = true) (ws : List Jvm.Cond) (a1 : Addr) (w1 : Int32) (w2 : Int32) (w3 : Int32) (h0 : Heap) (n0 : Nat) (Z0 : n0 ≤ h0.size) (F_winsOfA_a1 : Fld Z h0 a1 "com/example/tablier/tablier/arena/Match$Summary" "winsOfA" "I" (.int w1)) (F_winsOfB_a1 : Fld Z h0 a1 "com/example/tablier/tablier/arena/Match$Summary" "winsOfB" "I" (.int w2)) (F_draws_a1 : Fld Z h0 a1 "com/example/tablier/tablier/arena/Match$Summary" "draws" "I" (.int w3)) :
    MetFree l own_y2 (head1 (Jvm.Cond.code own_y2 prog_12_method_2_code 1 (some .int) :: ws) ({ frames := 0, cells := 0, slots := 0, locals := 0 } : Room)) (fun a U => a = #[(.ref a1)] ∧ Z.Warmed39 U.vm ∧ U.heap = h0) (fun _ _ _ _ _ => True) (fun _ U o U' => ∃ v L, o = .returned v ∧ own_Q4 Z a1 w1 w2 w3 h0 n0 v U'.heap L ∧ FrameEnd U o U' L ({ frames := 0, cells := 0, slots := 0, locals := 0 } : Room).cells ({ frames := 0, cells := 0, slots := 0, locals := 0 } : Room).slots) := by
  refine MetFree.of_bodySF (plainFor_of_name own_pn_1) hisR ?_
  intro p e s m args below meth c s₁ Bd hml0 hP hK
  obtain ⟨rfl, hZ, hh⟩ := hP
  have hw14 := hw _ (List.mem_of_getElem? (i := 14) rfl)
  have hw16 := hw _ (List.mem_of_getElem? (i := 16) rfl)
  have hw18 := hw _ (List.mem_of_getElem? (i := 18) rfl)
  have hx := Bd.exec
  have hby := Bd.bytes
  have hml : c.maxLocals = 1 := hml0
  have hown : s.vm.findClass "com/example/tablier/tablier/arena/Match$Summary" = some m.cls := findClass_of_methodNamed Bd.named
  have hnm := (name_of_methodNamed Bd.named Bd.method).1
  have X0 : Stand p l e ({ frames := 0, cells := 0, slots := 0, locals := 0 } : Room) s m #[(.ref a1)] below meth c s₁ [] 0 0 := Stand.of_body Bd
  have e0 : s₁.heap = h0 := by rw [← hh, Bd.state]; rfl
  have N0 := Fr.nil n0
  obtain ⟨R0, hR0⟩ : ∃ R : State → Prop, R = fun t => Steps p.tables e below (s₁.setTop (entryFrame m #[(.ref a1)] 1)) t := ⟨_, rfl⟩
  have pre0 : ∀ t, Steps p.tables e below (s₁.setTop (mkF m 0 #[sR a1] [])) t → R0 t := fun t k => by rw [hR0]; exact castTop (own_ef_4 m a1) k
  have pre1 : ∀ t, own_S p e below s₁ m 1 #[sR a1] [(.ref a1)] t → R0 t := fun t k => pre0 t (by
    refine XS.aloadN X0.here hx rfl (hb hby own_d4_0) rfl rfl ?_
    exact k)
  obtain ⟨T2, X2, e2, st2⟩ := getF X0 hx hZ hown (host := "") (Or.inl hw14) Via.refl e0 F_winsOfA_a1 (g := (mkF m 1 #[sR a1] [(.ref a1)])) rfl rfl (hb hby own_d4_1)
  have pre3 : ∀ t, own_S p e below T2 m 5 #[sR a1] [(.ref a1), (.int w1)] t → R0 t := fun t k => pre1 t (by
    refine st2 _ ?_
    show own_S p e below T2 m 4 #[sR a1] [(.int w1)] _
    refine XS.aloadN X2.here hx rfl (hb hby own_d4_4) rfl rfl ?_
    exact k)
  obtain ⟨T4, X4, e4, st4⟩ := getF X2 hx hZ hown (host := "") (Or.inl hw16) Via.refl e2 F_winsOfB_a1 (g := (mkF m 5 #[sR a1] [(.ref a1), (.int w1)])) rfl rfl (hb hby own_d4_5)
  have pre5 : ∀ t, own_S p e below T4 m 10 #[sR a1] [(.ref a1), (.int (w1 + w2))] t → R0 t := fun t k => pre3 t (by
    refine st4 _ ?_
    show own_S p e below T4 m 8 #[sR a1] [(.int w2), (.int w1)] _
    refine XS.iadd X4.here hx rfl (hb hby own_d4_8) rfl ?_
    show own_S p e below T4 m 9 #[sR a1] [(.int (w1 + w2))] _
    refine XS.aloadN X4.here hx rfl (hb hby own_d4_9) rfl rfl ?_
    exact k)
  obtain ⟨T6, X6, e6, st6⟩ := getF X4 hx hZ hown (host := "") (Or.inl hw18) Via.refl e4 F_draws_a1 (g := (mkF m 10 #[sR a1] [(.ref a1), (.int (w1 + w2))])) rfl rfl (hb hby own_d4_10)
  have pre7 : ∀ t, own_S p e below T6 m 14 #[sR a1] [(.int ((w1 + w2) + w3))] t → R0 t := fun t k => pre5 t (by
    refine st6 _ ?_
    show own_S p e below T6 m 13 #[sR a1] [(.int w3), (.int (w1 + w2))] _
    refine XS.iadd X6.here hx rfl (hb hby own_d4_13) rfl ?_
    exact k)
  obtain ⟨fs, hr, hrun, hended, hW, hsame⟩ := X6.leave (v := some (.int ((w1 + w2) + w3))) (fun h => by rw [Bd.returns] at h; cases h)
  refine ⟨_, _, cast (congrFun hR0 _) (pre7 _ (retOut X6 hx Bd.returns rfl (Or.inl ⟨rfl, Or.inl rfl, _, rfl⟩) (hb hby own_d4_14) hr)), hrun, hended, _, _, rfl, ?_, ⟨_, rfl⟩, hW, hsame.mono (by decide) (by decide)⟩
  show own_Q4 Z _ _ _ _ h0 n0 _ T6.heap _
  rw [e6]
  exact ⟨rfl, N0, rfl⟩
theorem own_pd_1 : parseMethodDescriptor "(IIILjava/util/Optional;)V" = some ⟨[.int, .int, .int, (.object "java/util/Optional")], none⟩ := by decide +kernel
theorem own_pd_2 : parseMethodDescriptor "()I" = some ⟨[], some .int⟩ := by decide +kernel
theorem own_pn_2 : plainName "com/example/tablier/tablier/arena/SummaryGamesPinLaw" = true := by first | (simp [plainName, overriddenIn]; done) | decide +kernel
theorem own_ef_0 (m : MethodId) (x0 : Int32) (x1 : Int32) (x2 : Int32) : entryFrame m #[(.int x0), (.int x1), (.int x2)] maxLocals = mkF m 0 #[sI x0, sI x1, sI x2, .unset, .unset, .unset, .unset, .unset, .unset, .unset, .unset, .unset, .unset, .unset] [] := by first | (simp [entryFrame, mkF, argsToLocals, Value.category, maxLocals]; done) | rfl
def own_Q0 (Z : State) (p1 : Int32) (p2 : Int32) (p3 : Int32) (h0 : Heap) (n0 : Nat) (v : Option Value) (h : Heap) (L : List Loc) : Prop := v = some (.int 1) ∧ Fr n0 L
set_option maxRecDepth 65536 in
set_option maxHeartbeats 40000000 in
theorem own_rm0 (l : Launch) (Z : State) (a0 : Array Value) (hw : ∀ d ∈ tables_1, d.before a0 Z = true) (ws : List Jvm.Cond) (p1 : Int32) (p2 : Int32) (p3 : Int32) (h0 : Heap) (n0 : Nat) (Z0 : n0 ≤ h0.size)  :
    MetFree l x (head1 (Jvm.Cond.code x code maxLocals ret :: ws) room_1) (fun a U => a = #[(.int p1), (.int p2), (.int p3)] ∧ Z.Warmed39 U.vm ∧ U.heap = h0) (fun _ _ _ _ _ => True) (fun _ U o U' => ∃ v L, o = .returned v ∧ own_Q0 Z p1 p2 p3 h0 n0 v U'.heap L ∧ FrameEnd U o U' L room_1.cells room_1.slots) := by
  refine MetFree.of_bodySF (plainFor_of_name own_pn_2) hisR ?_
  intro p e s m args below meth c s₁ Bd hml0 hP hK
  obtain ⟨rfl, hZ, hh⟩ := hP
  have hw0 := hw _ (List.mem_of_getElem? (i := 0) rfl)
  have hw1 := hw _ (List.mem_of_getElem? (i := 1) rfl)
  have hw2 := hw _ (List.mem_of_getElem? (i := 2) rfl)
  have hw3 := hw _ (List.mem_of_getElem? (i := 3) rfl)
  have hw4 := hw _ (List.mem_of_getElem? (i := 4) rfl)
  have hw5 := hw _ (List.mem_of_getElem? (i := 5) rfl)
  have hw15 := hw _ (List.mem_of_getElem? (i := 15) rfl)
  have hw17 := hw _ (List.mem_of_getElem? (i := 17) rfl)
  have hw19 := hw _ (List.mem_of_getElem? (i := 19) rfl)
  have hw21 := hw _ (List.mem_of_getElem? (i := 21) rfl)
  have hw22 := hw _ (List.mem_of_getElem? (i := 22) rfl)
  have hw23 := hw _ (List.mem_of_getElem? (i := 23) rfl)
  have hw24 := hw _ (List.mem_of_getElem? (i := 24) rfl)
  have hw25 := hw _ (List.mem_of_getElem? (i := 25) rfl)
  have hw26 := hw _ (List.mem_of_getElem? (i := 26) rfl)
  have hx := Bd.exec
  have hby := Bd.bytes
  have hml : c.maxLocals = 14 := hml0
  have hown : s.vm.findClass "com/example/tablier/tablier/arena/SummaryGamesPinLaw" = some m.cls := findClass_of_methodNamed Bd.named
  have hnm := (name_of_methodNamed Bd.named Bd.method).1
  have X0 : Stand p l e room_1 s m #[(.int p1), (.int p2), (.int p3)] below meth c s₁ [] 0 0 := Stand.of_body Bd
  have e0 : s₁.heap = h0 := by rw [← hh, Bd.state]; rfl
  have N0 := Fr.nil n0
  obtain ⟨R0, hR0⟩ : ∃ R : State → Prop, R = fun t => Steps p.tables e below (s₁.setTop (entryFrame m #[(.int p1), (.int p2), (.int p3)] maxLocals)) t := ⟨_, rfl⟩
  have pre0 : ∀ t, Steps p.tables e below (s₁.setTop (mkF m 0 #[sI p1, sI p2, sI p3, sU, sU, sU, sU, sU, sU, sU, sU, sU, sU, sU] [])) t → R0 t := fun t k => by rw [hR0]; exact castTop (own_ef_0 m p1 p2 p3) k
  obtain ⟨T1, h1, X1, e1, E1, A1, D1, -, st1⟩ := newO X0 hx hZ hown hw0 hw1 hw2 e0 (g := (mkF m 0 #[sI p1, sI p2, sI p3, sU, sU, sU, sU, sU, sU, sU, sU, sU, sU, sU] [])) rfl (hb hby at_0) (by decide) (by decide)
  obtain ⟨b1, g1⟩ : ∃ z, z = h0.size := ⟨_, rfl⟩
  rw [← g1] at A1 D1 st1
  have g_b1 : n0 ≤ b1 := Nat.le_trans Z0 (Nat.le_of_eq g1.symm)
  have f2 := Nat.le_trans Z0 E1.1
  have f3 : Fld Z h1 b1 "com/example/tablier/tablier/arena/Match$Summary" "winsOfA" "I" (.int 0) := D1 (Or.inr hw15) (ty := .int) (by decide)
  have f4 : Fld Z h1 b1 "com/example/tablier/tablier/arena/Match$Summary" "winsOfB" "I" (.int 0) := D1 (Or.inr hw17) (ty := .int) (by decide)
  have f5 : Fld Z h1 b1 "com/example/tablier/tablier/arena/Match$Summary" "draws" "I" (.int 0) := D1 (Or.inr hw19) (ty := .int) (by decide)
  have f6 : Fld Z h1 b1 "com/example/tablier/tablier/arena/Match$Summary" "points" "Ljava/util/Optional;" .null := D1 (Or.inr hw21) (ty := (.object "java/util/Optional")) (by decide)
  have pre7 : ∀ t, own_S p e below T1 m 8 #[sI p1, sI p2, sI p3, sU, sU, sU, sU, sU, sU, sU, sU, sU, sU, sU] [.null, (.int p3), (.int p2), (.int p1), (.ref b1), (.ref b1)] t → R0 t := fun t k => pre0 t (by
    refine st1 _ ?_
    show own_S p e below T1 m 3 #[sI p1, sI p2, sI p3, sU, sU, sU, sU, sU, sU, sU, sU, sU, sU, sU] [(.ref b1)] _
    refine XS.dup X1.here hx rfl (hb hby at_3) rfl rfl ?_
    show own_S p e below T1 m 4 #[sI p1, sI p2, sI p3, sU, sU, sU, sU, sU, sU, sU, sU, sU, sU, sU] [(.ref b1), (.ref b1)] _
    refine XS.iloadN X1.here hx rfl (hb hby at_4) rfl ?_
    show own_S p e below T1 m 5 #[sI p1, sI p2, sI p3, sU, sU, sU, sU, sU, sU, sU, sU, sU, sU, sU] [(.int p1), (.ref b1), (.ref b1)] _
    refine XS.iloadN X1.here hx rfl (hb hby at_5) rfl ?_
    show own_S p e below T1 m 6 #[sI p1, sI p2, sI p3, sU, sU, sU, sU, sU, sU, sU, sU, sU, sU, sU] [(.int p2), (.int p1), (.ref b1), (.ref b1)] _
    refine XS.iloadN X1.here hx rfl (hb hby at_6) rfl ?_
    show own_S p e below T1 m 7 #[sI p1, sI p2, sI p3, sU, sU, sU, sU, sU, sU, sU, sU, sU, sU, sU] [(.int p3), (.int p2), (.int p1), (.ref b1), (.ref b1)] _
    refine XS.aconstNull X1.here hx rfl (hb hby at_7) ?_
    exact k)
  obtain ⟨_, _, ⟨T8, L8, k8, n8⟩, -, X8, ⟨Lc8, hQ8, l8, y8, z8⟩, st8⟩ := X1.specialBack hx (y := own_y1) rfl hown (mvT hZ hw3) (mvT hZ hw4) (mvT hZ hw5) (by decide) (backOf (W := 1) (own_rm1 l Z a0 hw [] b1 p1 p2 p3 (.int 0) (.int 0) (.int 0) .null h1 n0 f2 A1 f3 f4 f5 f6 g_b1) hZ hw5 hw2 (by decide) (by decide)) (g := (mkF m 8 #[sI p1, sI p2, sI p3, sU, sU, sU, sU, sU, sU, sU, sU, sU, sU, sU] [.null, (.int p3), (.int p2), (.int p1), (.ref b1), (.ref b1)])) rfl (by rw [hml]; rfl) (Steps.refl _) (a := b1) (argsL := [(.int p1), (.int p2), (.int p3), .null]) (rest := [(.ref b1)]) (lenOf own_pd_1 rfl) rfl (by show 2 * 0 + _ ≤ _; exact Nat.le_of_eq rfl) (hb hby at_8) (fun _ _ => ⟨rfl, e1, (by decide : 1 + 0 ≤ _), (by decide : 4 + 0 ≤ _)⟩)
  dsimp only [Pt.U, Pt.locs, Pt.cells, Pt.slots] at X8 l8 y8 z8 st8 hQ8
  subst l8 y8 z8
  obtain ⟨rfl, N8q, K8, ex8, fx8_0, fx8_1, fx8_2, fx8_3⟩ := hQ8
  have f9 := Nat.le_trans f2 K8.1
  have f10 := A1.keep K8
  have N8 := Fr.app N0 N8q
  have pre11 : ∀ t, own_S p e below T8 m 12 #[sI p1, sI p2, sI p3, sR b1, sU, sU, sU, sU, sU, sU, sU, sU, sU, sU] [] t → R0 t := fun t k => pre7 t (by
    refine st8.trans ?_
    show own_S p e below T8 m 11 #[sI p1, sI p2, sI p3, sU, sU, sU, sU, sU, sU, sU, sU, sU, sU, sU] [(.ref b1)] _
    refine XS.astoreN X8.here hx rfl (hb hby at_11) rfl rfl (l' := #[sI p1, sI p2, sI p3, sR b1, sU, sU, sU, sU, sU, sU, sU, sU, sU, sU]) rfl ?_
    exact k)
  obtain ⟨T12, h12, X12, e12, E12, A12, D12, -, st12⟩ := newO X8 hx hZ hown hw0 hw1 hw2 rfl (g := (mkF m 12 #[sI p1, sI p2, sI p3, sR b1, sU, sU, sU, sU, sU, sU, sU, sU, sU, sU] [])) rfl (hb hby at_12) (by decide) (by decide)
  obtain ⟨b12, g12⟩ : ∃ z, z = T8.heap.size := ⟨_, rfl⟩
  rw [← g12] at A12 D12 st12
  have lne13 : b1 < b12 := Nat.lt_of_lt_of_le ex8.lt (Nat.le_of_eq g12.symm)
  have ne13 : b1 ≠ b12 := Nat.ne_of_lt lne13
  have g_b12 : n0 ≤ b12 := Nat.le_trans f9 (Nat.le_of_eq g12.symm)
  have f14 := Nat.le_trans f9 E12.1
  have f15 := ex8.ext E12
  have f16 := fx8_0.ext E12
  have f17 := fx8_1.ext E12
  have f18 := fx8_2.ext E12
  have f19 := fx8_3.ext E12
  have f20 : Fld Z h12 b12 "com/example/tablier/tablier/arena/Match$Summary" "winsOfA" "I" (.int 0) := D12 (Or.inr hw15) (ty := .int) (by decide)
  have f21 : Fld Z h12 b12 "com/example/tablier/tablier/arena/Match$Summary" "winsOfB" "I" (.int 0) := D12 (Or.inr hw17) (ty := .int) (by decide)
  have f22 : Fld Z h12 b12 "com/example/tablier/tablier/arena/Match$Summary" "draws" "I" (.int 0) := D12 (Or.inr hw19) (ty := .int) (by decide)
  have f23 : Fld Z h12 b12 "com/example/tablier/tablier/arena/Match$Summary" "points" "Ljava/util/Optional;" .null := D12 (Or.inr hw21) (ty := (.object "java/util/Optional")) (by decide)
  have pre24 : ∀ t, own_S p e below T12 m 20 #[sI p1, sI p2, sI p3, sR b1, sU, sU, sU, sU, sU, sU, sU, sU, sU, sU] [.null, (.int 0), (.int 0), (.int p1), (.ref b12), (.ref b12)] t → R0 t := fun t k => pre11 t (by
    refine st12 _ ?_
    show own_S p e below T12 m 15 #[sI p1, sI p2, sI p3, sR b1, sU, sU, sU, sU, sU, sU, sU, sU, sU, sU] [(.ref b12)] _
    refine XS.dup X12.here hx rfl (hb hby at_15) rfl rfl ?_
    show own_S p e below T12 m 16 #[sI p1, sI p2, sI p3, sR b1, sU, sU, sU, sU, sU, sU, sU, sU, sU, sU] [(.ref b12), (.ref b12)] _
    refine XS.iloadN X12.here hx rfl (hb hby at_16) rfl ?_
    show own_S p e below T12 m 17 #[sI p1, sI p2, sI p3, sR b1, sU, sU, sU, sU, sU, sU, sU, sU, sU, sU] [(.int p1), (.ref b12), (.ref b12)] _
    refine XS.iconst X12.here hx rfl (hb hby at_17) ?_
    show own_S p e below T12 m 18 #[sI p1, sI p2, sI p3, sR b1, sU, sU, sU, sU, sU, sU, sU, sU, sU, sU] [(.int 0), (.int p1), (.ref b12), (.ref b12)] _
    refine XS.iconst X12.here hx rfl (hb hby at_18) ?_
    show own_S p e below T12 m 19 #[sI p1, sI p2, sI p3, sR b1, sU, sU, sU, sU, sU, sU, sU, sU, sU, sU] [(.int 0), (.int 0), (.int p1), (.ref b12), (.ref b12)] _
    refine XS.aconstNull X12.here hx rfl (hb hby at_19) ?_
    exact k)
  obtain ⟨_, _, ⟨T25, L25, k25, n25⟩, -, X25, ⟨Lc25, hQ25, l25, y25, z25⟩, st25⟩ := X12.specialBack hx (y := own_y1) rfl hown (mvT hZ hw3) (mvT hZ hw4) (mvT hZ hw5) (by decide) (backOf (W := 1) (own_rm1 l Z a0 hw [] b12 p1 (0 : Int32) (0 : Int32) (.int 0) (.int 0) (.int 0) .null h12 n0 f14 A12 f20 f21 f22 f23 g_b12) hZ hw5 hw2 (by decide) (by decide)) (g := (mkF m 20 #[sI p1, sI p2, sI p3, sR b1, sU, sU, sU, sU, sU, sU, sU, sU, sU, sU] [.null, (.int 0), (.int 0), (.int p1), (.ref b12), (.ref b12)])) rfl (by rw [hml]; rfl) (Steps.refl _) (a := b12) (argsL := [(.int p1), (.int 0), (.int 0), .null]) (rest := [(.ref b12)]) (lenOf own_pd_1 rfl) rfl (by show 2 * 0 + _ ≤ _; exact Nat.le_of_eq rfl) (hb hby at_20) (fun _ _ => ⟨rfl, e12, (by decide : 2 + 0 ≤ _), (by decide : 8 + 0 ≤ _)⟩)
  dsimp only [Pt.U, Pt.locs, Pt.cells, Pt.slots] at X25 l25 y25 z25 st25 hQ25
  subst l25 y25 z25
  obtain ⟨rfl, N25q, K25, ex25, fx25_0, fx25_1, fx25_2, fx25_3⟩ := hQ25
  have f26 := Nat.le_trans f14 K25.1
  have f27 := f15.keep K25
  have f28 := f16.keep K25 (ninS ne13 nin0)
  have f29 := f17.keep K25 (ninS ne13 nin0)
  have f30 := f18.keep K25 (ninS ne13 nin0)
  have f31 := f19.keep K25 (ninS ne13 nin0)
  have f32 := A12.keep K25
  have N25 := Fr.app N8 N25q
  have pre33 : ∀ t, own_S p e below T25 m 25 #[sI p1, sI p2, sI p3, sR b1, sR b12, sU, sU, sU, sU, sU, sU, sU, sU, sU] [] t → R0 t := fun t k => pre24 t (by
    refine st25.trans ?_
    show own_S p e below T25 m 23 #[sI p1, sI p2, sI p3, sR b1, sU, sU, sU, sU, sU, sU, sU, sU, sU, sU] [(.ref b12)] _
    refine XS.astore X25.here hx rfl (hb hby at_23) rfl rfl (l' := #[sI p1, sI p2, sI p3, sR b1, sR b12, sU, sU, sU, sU, sU, sU, sU, sU, sU]) rfl ?_
    exact k)
  obtain ⟨T34, h34, X34, e34, E34, A34, D34, -, st34⟩ := newO X25 hx hZ hown hw0 hw1 hw2 rfl (g := (mkF m 25 #[sI p1, sI p2, sI p3, sR b1, sR b12, sU, sU, sU, sU, sU, sU, sU, sU, sU] [])) rfl (hb hby at_25) (by decide) (by decide)
  obtain ⟨b34, g34⟩ : ∃ z, z = T25.heap.size := ⟨_, rfl⟩
  rw [← g34] at A34 D34 st34
  have lne35 : b1 < b34 := Nat.lt_of_lt_of_le f27.lt (Nat.le_of_eq g34.symm)
  have ne35 : b1 ≠ b34 := Nat.ne_of_lt lne35
  have lne36 : b12 < b34 := Nat.lt_of_lt_of_le ex25.lt (Nat.le_of_eq g34.symm)
  have ne36 : b12 ≠ b34 := Nat.ne_of_lt lne36
  have g_b34 : n0 ≤ b34 := Nat.le_trans f26 (Nat.le_of_eq g34.symm)
  have f37 := Nat.le_trans f26 E34.1
  have f38 := f27.ext E34
  have f39 := f28.ext E34
  have f40 := f29.ext E34
  have f41 := f30.ext E34
  have f42 := f31.ext E34
  have f43 := ex25.ext E34
  have f44 := fx25_0.ext E34
  have f45 := fx25_1.ext E34
  have f46 := fx25_2.ext E34
  have f47 := fx25_3.ext E34
  have f48 : Fld Z h34 b34 "com/example/tablier/tablier/arena/Match$Summary" "winsOfA" "I" (.int 0) := D34 (Or.inr hw15) (ty := .int) (by decide)
  have f49 : Fld Z h34 b34 "com/example/tablier/tablier/arena/Match$Summary" "winsOfB" "I" (.int 0) := D34 (Or.inr hw17) (ty := .int) (by decide)
  have f50 : Fld Z h34 b34 "com/example/tablier/tablier/arena/Match$Summary" "draws" "I" (.int 0) := D34 (Or.inr hw19) (ty := .int) (by decide)
  have f51 : Fld Z h34 b34 "com/example/tablier/tablier/arena/Match$Summary" "points" "Ljava/util/Optional;" .null := D34 (Or.inr hw21) (ty := (.object "java/util/Optional")) (by decide)
  have pre52 : ∀ t, own_S p e below T34 m 33 #[sI p1, sI p2, sI p3, sR b1, sR b12, sU, sU, sU, sU, sU, sU, sU, sU, sU] [.null, (.int 0), (.int p2), (.int 0), (.ref b34), (.ref b34)] t → R0 t := fun t k => pre33 t (by
    refine st34 _ ?_
    show own_S p e below T34 m 28 #[sI p1, sI p2, sI p3, sR b1, sR b12, sU, sU, sU, sU, sU, sU, sU, sU, sU] [(.ref b34)] _
    refine XS.dup X34.here hx rfl (hb hby at_28) rfl rfl ?_
    show own_S p e below T34 m 29 #[sI p1, sI p2, sI p3, sR b1, sR b12, sU, sU, sU, sU, sU, sU, sU, sU, sU] [(.ref b34), (.ref b34)] _
    refine XS.iconst X34.here hx rfl (hb hby at_29) ?_
    show own_S p e below T34 m 30 #[sI p1, sI p2, sI p3, sR b1, sR b12, sU, sU, sU, sU, sU, sU, sU, sU, sU] [(.int 0), (.ref b34), (.ref b34)] _
    refine XS.iloadN X34.here hx rfl (hb hby at_30) rfl ?_
    show own_S p e below T34 m 31 #[sI p1, sI p2, sI p3, sR b1, sR b12, sU, sU, sU, sU, sU, sU, sU, sU, sU] [(.int p2), (.int 0), (.ref b34), (.ref b34)] _
    refine XS.iconst X34.here hx rfl (hb hby at_31) ?_
    show own_S p e below T34 m 32 #[sI p1, sI p2, sI p3, sR b1, sR b12, sU, sU, sU, sU, sU, sU, sU, sU, sU] [(.int 0), (.int p2), (.int 0), (.ref b34), (.ref b34)] _
    refine XS.aconstNull X34.here hx rfl (hb hby at_32) ?_
    exact k)
  obtain ⟨_, _, ⟨T53, L53, k53, n53⟩, -, X53, ⟨Lc53, hQ53, l53, y53, z53⟩, st53⟩ := X34.specialBack hx (y := own_y1) rfl hown (mvT hZ hw3) (mvT hZ hw4) (mvT hZ hw5) (by decide) (backOf (W := 1) (own_rm1 l Z a0 hw [] b34 (0 : Int32) p2 (0 : Int32) (.int 0) (.int 0) (.int 0) .null h34 n0 f37 A34 f48 f49 f50 f51 g_b34) hZ hw5 hw2 (by decide) (by decide)) (g := (mkF m 33 #[sI p1, sI p2, sI p3, sR b1, sR b12, sU, sU, sU, sU, sU, sU, sU, sU, sU] [.null, (.int 0), (.int p2), (.int 0), (.ref b34), (.ref b34)])) rfl (by rw [hml]; rfl) (Steps.refl _) (a := b34) (argsL := [(.int 0), (.int p2), (.int 0), .null]) (rest := [(.ref b34)]) (lenOf own_pd_1 rfl) rfl (by show 2 * 0 + _ ≤ _; exact Nat.le_of_eq rfl) (hb hby at_33) (fun _ _ => ⟨rfl, e34, (by decide : 3 + 0 ≤ _), (by decide : 12 + 0 ≤ _)⟩)
  dsimp only [Pt.U, Pt.locs, Pt.cells, Pt.slots] at X53 l53 y53 z53 st53 hQ53
  subst l53 y53 z53
  obtain ⟨rfl, N53q, K53, ex53, fx53_0, fx53_1, fx53_2, fx53_3⟩ := hQ53
  have f54 := Nat.le_trans f37 K53.1
  have f55 := f38.keep K53
  have f56 := f39.keep K53 (ninS ne35 nin0)
  have f57 := f40.keep K53 (ninS ne35 nin0)
  have f58 := f41.keep K53 (ninS ne35 nin0)
  have f59 := f42.keep K53 (ninS ne35 nin0)
  have f60 := f43.keep K53
  have f61 := f44.keep K53 (ninS ne36 nin0)
  have f62 := f45.keep K53 (ninS ne36 nin0)
  have f63 := f46.keep K53 (ninS ne36 nin0)
  have f64 := f47.keep K53 (ninS ne36 nin0)
  have f65 := A34.keep K53
  have N53 := Fr.app N25 N53q
  have pre66 : ∀ t, own_S p e below T53 m 38 #[sI p1, sI p2, sI p3, sR b1, sR b12, sR b34, sU, sU, sU, sU, sU, sU, sU, sU] [] t → R0 t := fun t k => pre52 t (by
    refine st53.trans ?_
    show own_S p e below T53 m 36 #[sI p1, sI p2, sI p3, sR b1, sR b12, sU, sU, sU, sU, sU, sU, sU, sU, sU] [(.ref b34)] _
    refine XS.astore X53.here hx rfl (hb hby at_36) rfl rfl (l' := #[sI p1, sI p2, sI p3, sR b1, sR b12, sR b34, sU, sU, sU, sU, sU, sU, sU, sU]) rfl ?_
    exact k)
  obtain ⟨T67, h67, X67, e67, E67, A67, D67, -, st67⟩ := newO X53 hx hZ hown hw0 hw1 hw2 rfl (g := (mkF m 38 #[sI p1, sI p2, sI p3, sR b1, sR b12, sR b34, sU, sU, sU, sU, sU, sU, sU, sU] [])) rfl (hb hby at_38) (by decide) (by decide)
  obtain ⟨b67, g67⟩ : ∃ z, z = T53.heap.size := ⟨_, rfl⟩
  rw [← g67] at A67 D67 st67
  have lne68 : b1 < b67 := Nat.lt_of_lt_of_le f55.lt (Nat.le_of_eq g67.symm)
  have ne68 : b1 ≠ b67 := Nat.ne_of_lt lne68
  have lne69 : b12 < b67 := Nat.lt_of_lt_of_le f60.lt (Nat.le_of_eq g67.symm)
  have ne69 : b12 ≠ b67 := Nat.ne_of_lt lne69
  have lne70 : b34 < b67 := Nat.lt_of_lt_of_le ex53.lt (Nat.le_of_eq g67.symm)
  have ne70 : b34 ≠ b67 := Nat.ne_of_lt lne70
  have g_b67 : n0 ≤ b67 := Nat.le_trans f54 (Nat.le_of_eq g67.symm)
  have f71 := Nat.le_trans f54 E67.1
  have f72 := f55.ext E67
  have f73 := f56.ext E67
  have f74 := f57.ext E67
  have f75 := f58.ext E67
  have f76 := f59.ext E67
  have f77 := f60.ext E67
  have f78 := f61.ext E67
  have f79 := f62.ext E67
  have f80 := f63.ext E67
  have f81 := f64.ext E67
  have f82 := ex53.ext E67
  have f83 := fx53_0.ext E67
  have f84 := fx53_1.ext E67
  have f85 := fx53_2.ext E67
  have f86 := fx53_3.ext E67
  have f87 : Fld Z h67 b67 "com/example/tablier/tablier/arena/Match$Summary" "winsOfA" "I" (.int 0) := D67 (Or.inr hw15) (ty := .int) (by decide)
  have f88 : Fld Z h67 b67 "com/example/tablier/tablier/arena/Match$Summary" "winsOfB" "I" (.int 0) := D67 (Or.inr hw17) (ty := .int) (by decide)
  have f89 : Fld Z h67 b67 "com/example/tablier/tablier/arena/Match$Summary" "draws" "I" (.int 0) := D67 (Or.inr hw19) (ty := .int) (by decide)
  have f90 : Fld Z h67 b67 "com/example/tablier/tablier/arena/Match$Summary" "points" "Ljava/util/Optional;" .null := D67 (Or.inr hw21) (ty := (.object "java/util/Optional")) (by decide)
  have pre91 : ∀ t, own_S p e below T67 m 46 #[sI p1, sI p2, sI p3, sR b1, sR b12, sR b34, sU, sU, sU, sU, sU, sU, sU, sU] [.null, (.int p3), (.int 0), (.int 0), (.ref b67), (.ref b67)] t → R0 t := fun t k => pre66 t (by
    refine st67 _ ?_
    show own_S p e below T67 m 41 #[sI p1, sI p2, sI p3, sR b1, sR b12, sR b34, sU, sU, sU, sU, sU, sU, sU, sU] [(.ref b67)] _
    refine XS.dup X67.here hx rfl (hb hby at_41) rfl rfl ?_
    show own_S p e below T67 m 42 #[sI p1, sI p2, sI p3, sR b1, sR b12, sR b34, sU, sU, sU, sU, sU, sU, sU, sU] [(.ref b67), (.ref b67)] _
    refine XS.iconst X67.here hx rfl (hb hby at_42) ?_
    show own_S p e below T67 m 43 #[sI p1, sI p2, sI p3, sR b1, sR b12, sR b34, sU, sU, sU, sU, sU, sU, sU, sU] [(.int 0), (.ref b67), (.ref b67)] _
    refine XS.iconst X67.here hx rfl (hb hby at_43) ?_
    show own_S p e below T67 m 44 #[sI p1, sI p2, sI p3, sR b1, sR b12, sR b34, sU, sU, sU, sU, sU, sU, sU, sU] [(.int 0), (.int 0), (.ref b67), (.ref b67)] _
    refine XS.iloadN X67.here hx rfl (hb hby at_44) rfl ?_
    show own_S p e below T67 m 45 #[sI p1, sI p2, sI p3, sR b1, sR b12, sR b34, sU, sU, sU, sU, sU, sU, sU, sU] [(.int p3), (.int 0), (.int 0), (.ref b67), (.ref b67)] _
    refine XS.aconstNull X67.here hx rfl (hb hby at_45) ?_
    exact k)
  obtain ⟨_, _, ⟨T92, L92, k92, n92⟩, -, X92, ⟨Lc92, hQ92, l92, y92, z92⟩, st92⟩ := X67.specialBack hx (y := own_y1) rfl hown (mvT hZ hw3) (mvT hZ hw4) (mvT hZ hw5) (by decide) (backOf (W := 1) (own_rm1 l Z a0 hw [] b67 (0 : Int32) (0 : Int32) p3 (.int 0) (.int 0) (.int 0) .null h67 n0 f71 A67 f87 f88 f89 f90 g_b67) hZ hw5 hw2 (by decide) (by decide)) (g := (mkF m 46 #[sI p1, sI p2, sI p3, sR b1, sR b12, sR b34, sU, sU, sU, sU, sU, sU, sU, sU] [.null, (.int p3), (.int 0), (.int 0), (.ref b67), (.ref b67)])) rfl (by rw [hml]; rfl) (Steps.refl _) (a := b67) (argsL := [(.int 0), (.int 0), (.int p3), .null]) (rest := [(.ref b67)]) (lenOf own_pd_1 rfl) rfl (by show 2 * 0 + _ ≤ _; exact Nat.le_of_eq rfl) (hb hby at_46) (fun _ _ => ⟨rfl, e67, (by decide : 4 + 0 ≤ _), (by decide : 16 + 0 ≤ _)⟩)
  dsimp only [Pt.U, Pt.locs, Pt.cells, Pt.slots] at X92 l92 y92 z92 st92 hQ92
  subst l92 y92 z92
  obtain ⟨rfl, N92q, K92, ex92, fx92_0, fx92_1, fx92_2, fx92_3⟩ := hQ92
  have f93 := Nat.le_trans f71 K92.1
  have f94 := f72.keep K92
  have f95 := f73.keep K92 (ninS ne68 nin0)
  have f96 := f74.keep K92 (ninS ne68 nin0)
  have f97 := f75.keep K92 (ninS ne68 nin0)
  have f98 := f76.keep K92 (ninS ne68 nin0)
  have f99 := f77.keep K92
  have f100 := f78.keep K92 (ninS ne69 nin0)
  have f101 := f79.keep K92 (ninS ne69 nin0)
  have f102 := f80.keep K92 (ninS ne69 nin0)
  have f103 := f81.keep K92 (ninS ne69 nin0)
  have f104 := f82.keep K92
  have f105 := f83.keep K92 (ninS ne70 nin0)
  have f106 := f84.keep K92 (ninS ne70 nin0)
  have f107 := f85.keep K92 (ninS ne70 nin0)
  have f108 := f86.keep K92 (ninS ne70 nin0)
  have f109 := A67.keep K92
  have N92 := Fr.app N53 N92q
  have pre110 : ∀ t, own_S p e below T92 m 51 #[sI p1, sI p2, sI p3, sR b1, sR b12, sR b34, sR b67, sU, sU, sU, sU, sU, sU, sU] [] t → R0 t := fun t k => pre91 t (by
    refine st92.trans ?_
    show own_S p e below T92 m 49 #[sI p1, sI p2, sI p3, sR b1, sR b12, sR b34, sU, sU, sU, sU, sU, sU, sU, sU] [(.ref b67)] _
    refine XS.astore X92.here hx rfl (hb hby at_49) rfl rfl (l' := #[sI p1, sI p2, sI p3, sR b1, sR b12, sR b34, sR b67, sU, sU, sU, sU, sU, sU, sU]) rfl ?_
    exact k)
  obtain ⟨T111, h111, X111, e111, E111, A111, D111, -, st111⟩ := newO X92 hx hZ hown hw0 hw1 hw2 rfl (g := (mkF m 51 #[sI p1, sI p2, sI p3, sR b1, sR b12, sR b34, sR b67, sU, sU, sU, sU, sU, sU, sU] [])) rfl (hb hby at_51) (by decide) (by decide)
  obtain ⟨b111, g111⟩ : ∃ z, z = T92.heap.size := ⟨_, rfl⟩
  rw [← g111] at A111 D111 st111
  have lne112 : b1 < b111 := Nat.lt_of_lt_of_le f94.lt (Nat.le_of_eq g111.symm)
  have ne112 : b1 ≠ b111 := Nat.ne_of_lt lne112
  have lne113 : b12 < b111 := Nat.lt_of_lt_of_le f99.lt (Nat.le_of_eq g111.symm)
  have ne113 : b12 ≠ b111 := Nat.ne_of_lt lne113
  have lne114 : b34 < b111 := Nat.lt_of_lt_of_le f104.lt (Nat.le_of_eq g111.symm)
  have ne114 : b34 ≠ b111 := Nat.ne_of_lt lne114
  have lne115 : b67 < b111 := Nat.lt_of_lt_of_le ex92.lt (Nat.le_of_eq g111.symm)
  have ne115 : b67 ≠ b111 := Nat.ne_of_lt lne115
  have g_b111 : n0 ≤ b111 := Nat.le_trans f93 (Nat.le_of_eq g111.symm)
  have f116 := Nat.le_trans f93 E111.1
  have f117 := f94.ext E111
  have f118 := f95.ext E111
  have f119 := f96.ext E111
  have f120 := f97.ext E111
  have f121 := f98.ext E111
  have f122 := f99.ext E111
  have f123 := f100.ext E111
  have f124 := f101.ext E111
  have f125 := f102.ext E111
  have f126 := f103.ext E111
  have f127 := f104.ext E111
  have f128 := f105.ext E111
  have f129 := f106.ext E111
  have f130 := f107.ext E111
  have f131 := f108.ext E111
  have f132 := ex92.ext E111
  have f133 := fx92_0.ext E111
  have f134 := fx92_1.ext E111
  have f135 := fx92_2.ext E111
  have f136 := fx92_3.ext E111
  have f137 : Fld Z h111 b111 "com/example/tablier/tablier/arena/Match$Summary" "winsOfA" "I" (.int 0) := D111 (Or.inr hw15) (ty := .int) (by decide)
  have f138 : Fld Z h111 b111 "com/example/tablier/tablier/arena/Match$Summary" "winsOfB" "I" (.int 0) := D111 (Or.inr hw17) (ty := .int) (by decide)
  have f139 : Fld Z h111 b111 "com/example/tablier/tablier/arena/Match$Summary" "draws" "I" (.int 0) := D111 (Or.inr hw19) (ty := .int) (by decide)
  have f140 : Fld Z h111 b111 "com/example/tablier/tablier/arena/Match$Summary" "points" "Ljava/util/Optional;" .null := D111 (Or.inr hw21) (ty := (.object "java/util/Optional")) (by decide)
  have pre141 : ∀ t, own_S p e below T111 m 59 #[sI p1, sI p2, sI p3, sR b1, sR b12, sR b34, sR b67, sU, sU, sU, sU, sU, sU, sU] [.null, (.int 0), (.int 0), (.int 0), (.ref b111), (.ref b111)] t → R0 t := fun t k => pre110 t (by
    refine st111 _ ?_
    show own_S p e below T111 m 54 #[sI p1, sI p2, sI p3, sR b1, sR b12, sR b34, sR b67, sU, sU, sU, sU, sU, sU, sU] [(.ref b111)] _
    refine XS.dup X111.here hx rfl (hb hby at_54) rfl rfl ?_
    show own_S p e below T111 m 55 #[sI p1, sI p2, sI p3, sR b1, sR b12, sR b34, sR b67, sU, sU, sU, sU, sU, sU, sU] [(.ref b111), (.ref b111)] _
    refine XS.iconst X111.here hx rfl (hb hby at_55) ?_
    show own_S p e below T111 m 56 #[sI p1, sI p2, sI p3, sR b1, sR b12, sR b34, sR b67, sU, sU, sU, sU, sU, sU, sU] [(.int 0), (.ref b111), (.ref b111)] _
    refine XS.iconst X111.here hx rfl (hb hby at_56) ?_
    show own_S p e below T111 m 57 #[sI p1, sI p2, sI p3, sR b1, sR b12, sR b34, sR b67, sU, sU, sU, sU, sU, sU, sU] [(.int 0), (.int 0), (.ref b111), (.ref b111)] _
    refine XS.iconst X111.here hx rfl (hb hby at_57) ?_
    show own_S p e below T111 m 58 #[sI p1, sI p2, sI p3, sR b1, sR b12, sR b34, sR b67, sU, sU, sU, sU, sU, sU, sU] [(.int 0), (.int 0), (.int 0), (.ref b111), (.ref b111)] _
    refine XS.aconstNull X111.here hx rfl (hb hby at_58) ?_
    exact k)
  obtain ⟨_, _, ⟨T142, L142, k142, n142⟩, -, X142, ⟨Lc142, hQ142, l142, y142, z142⟩, st142⟩ := X111.specialBack hx (y := own_y1) rfl hown (mvT hZ hw3) (mvT hZ hw4) (mvT hZ hw5) (by decide) (backOf (W := 1) (own_rm1 l Z a0 hw [] b111 (0 : Int32) (0 : Int32) (0 : Int32) (.int 0) (.int 0) (.int 0) .null h111 n0 f116 A111 f137 f138 f139 f140 g_b111) hZ hw5 hw2 (by decide) (by decide)) (g := (mkF m 59 #[sI p1, sI p2, sI p3, sR b1, sR b12, sR b34, sR b67, sU, sU, sU, sU, sU, sU, sU] [.null, (.int 0), (.int 0), (.int 0), (.ref b111), (.ref b111)])) rfl (by rw [hml]; rfl) (Steps.refl _) (a := b111) (argsL := [(.int 0), (.int 0), (.int 0), .null]) (rest := [(.ref b111)]) (lenOf own_pd_1 rfl) rfl (by show 2 * 0 + _ ≤ _; exact Nat.le_of_eq rfl) (hb hby at_59) (fun _ _ => ⟨rfl, e111, (by decide : 5 + 0 ≤ _), (by decide : 20 + 0 ≤ _)⟩)
  dsimp only [Pt.U, Pt.locs, Pt.cells, Pt.slots] at X142 l142 y142 z142 st142 hQ142
  subst l142 y142 z142
  obtain ⟨rfl, N142q, K142, ex142, fx142_0, fx142_1, fx142_2, fx142_3⟩ := hQ142
  have f143 := Nat.le_trans f116 K142.1
  have f144 := f117.keep K142
  have f145 := f118.keep K142 (ninS ne112 nin0)
  have f146 := f119.keep K142 (ninS ne112 nin0)
  have f147 := f120.keep K142 (ninS ne112 nin0)
  have f148 := f121.keep K142 (ninS ne112 nin0)
  have f149 := f122.keep K142
  have f150 := f123.keep K142 (ninS ne113 nin0)
  have f151 := f124.keep K142 (ninS ne113 nin0)
  have f152 := f125.keep K142 (ninS ne113 nin0)
  have f153 := f126.keep K142 (ninS ne113 nin0)
  have f154 := f127.keep K142
  have f155 := f128.keep K142 (ninS ne114 nin0)
  have f156 := f129.keep K142 (ninS ne114 nin0)
  have f157 := f130.keep K142 (ninS ne114 nin0)
  have f158 := f131.keep K142 (ninS ne114 nin0)
  have f159 := f132.keep K142
  have f160 := f133.keep K142 (ninS ne115 nin0)
  have f161 := f134.keep K142 (ninS ne115 nin0)
  have f162 := f135.keep K142 (ninS ne115 nin0)
  have f163 := f136.keep K142 (ninS ne115 nin0)
  have f164 := A111.keep K142
  have N142 := Fr.app N92 N142q
  have pre165 : ∀ t, own_S p e below T142 m 66 #[sI p1, sI p2, sI p3, sR b1, sR b12, sR b34, sR b67, sR b111, sU, sU, sU, sU, sU, sU] [(.ref b12)] t → R0 t := fun t k => pre141 t (by
    refine st142.trans ?_
    show own_S p e below T142 m 62 #[sI p1, sI p2, sI p3, sR b1, sR b12, sR b34, sR b67, sU, sU, sU, sU, sU, sU, sU] [(.ref b111)] _
    refine XS.astore X142.here hx rfl (hb hby at_62) rfl rfl (l' := #[sI p1, sI p2, sI p3, sR b1, sR b12, sR b34, sR b67, sR b111, sU, sU, sU, sU, sU, sU]) rfl ?_
    show own_S p e below T142 m 64 #[sI p1, sI p2, sI p3, sR b1, sR b12, sR b34, sR b67, sR b111, sU, sU, sU, sU, sU, sU] [] _
    refine XS.aload X142.here hx rfl (hb hby at_64) rfl rfl ?_
    exact k)
  obtain ⟨cq166, kq166, q166a, q166b, q166c⟩ := isOf hZ rfl f149
  obtain ⟨_, _, ⟨T166, L166, k166, n166⟩, -, X166, ⟨Lc166, hQ166, l166, y166, z166⟩, st166⟩ := X142.virtualBack hx (y := own_y2) (z := own_y2) hown (mvT hZ hw22) (mvT hZ hw23) (notFace_of_selects (args := #[]) (mvT hZ hw25)) (mvT hZ hw25) (mvT hZ hw24) (by decide) (backOf (W := 0) (own_rm4 l Z a0 hw [] b12 p1 (0 : Int32) (0 : Int32) T142.heap n0 f143 f150 f151 f152) hZ hw26 hw2 (by decide) (by decide)) q166a q166c (g := (mkF m 66 #[sI p1, sI p2, sI p3, sR b1, sR b12, sR b34, sR b67, sR b111, sU, sU, sU, sU, sU, sU] [(.ref b12)])) rfl (by rw [hml]; rfl) (Steps.refl _) (argsL := []) (rest := []) (lenOf own_pd_2 rfl) rfl (by show 2 * 0 + _ ≤ _; exact Nat.le_of_eq rfl) (hb hby at_66) (fun _ _ => ⟨rfl, rfl, (by decide : 5 + 0 ≤ _), (by decide : 20 + 0 ≤ _)⟩)
  dsimp only [Pt.U, Pt.locs, Pt.cells, Pt.slots] at X166 l166 y166 z166 st166 hQ166
  subst l166 y166 z166
  obtain ⟨rfl, N166q, eh166⟩ := hQ166
  have N166 := Fr.app N142 N166q
  have pre167 : ∀ t, own_S p e below T166 m 73 #[sI p1, sI p2, sI p3, sR b1, sR b12, sR b34, sR b67, sR b111, sI ((p1 + (0 : Int32)) + (0 : Int32)), sU, sU, sU, sU, sU] [(.ref b34)] t → R0 t := fun t k => pre165 t (by
    refine st166.trans ?_
    show own_S p e below T166 m 69 #[sI p1, sI p2, sI p3, sR b1, sR b12, sR b34, sR b67, sR b111, sU, sU, sU, sU, sU, sU] [(.int ((p1 + (0 : Int32)) + (0 : Int32)))] _
    refine XS.istore X166.here hx rfl (hb hby at_69) rfl (l' := #[sI p1, sI p2, sI p3, sR b1, sR b12, sR b34, sR b67, sR b111, sI ((p1 + (0 : Int32)) + (0 : Int32)), sU, sU, sU, sU, sU]) rfl ?_
    show own_S p e below T166 m 71 #[sI p1, sI p2, sI p3, sR b1, sR b12, sR b34, sR b67, sR b111, sI ((p1 + (0 : Int32)) + (0 : Int32)), sU, sU, sU, sU, sU] [] _
    refine XS.aload X166.here hx rfl (hb hby at_71) rfl rfl ?_
    exact k)
  obtain ⟨cq168, kq168, q168a, q168b, q168c⟩ := isOf hZ eh166 f154
  obtain ⟨_, _, ⟨T168, L168, k168, n168⟩, -, X168, ⟨Lc168, hQ168, l168, y168, z168⟩, st168⟩ := X166.virtualBack hx (y := own_y2) (z := own_y2) hown (mvT hZ hw22) (mvT hZ hw23) (notFace_of_selects (args := #[]) (mvT hZ hw25)) (mvT hZ hw25) (mvT hZ hw24) (by decide) (backOf (W := 0) (own_rm4 l Z a0 hw [] b34 (0 : Int32) p2 (0 : Int32) T142.heap n0 f143 f155 f156 f157) hZ hw26 hw2 (by decide) (by decide)) q168a q168c (g := (mkF m 73 #[sI p1, sI p2, sI p3, sR b1, sR b12, sR b34, sR b67, sR b111, sI ((p1 + (0 : Int32)) + (0 : Int32)), sU, sU, sU, sU, sU] [(.ref b34)])) rfl (by rw [hml]; rfl) (Steps.refl _) (argsL := []) (rest := []) (lenOf own_pd_2 rfl) rfl (by show 2 * 0 + _ ≤ _; exact Nat.le_of_eq rfl) (hb hby at_73) (fun _ _ => ⟨rfl, eh166, (by decide : 5 + 0 ≤ _), (by decide : 20 + 0 ≤ _)⟩)
  dsimp only [Pt.U, Pt.locs, Pt.cells, Pt.slots] at X168 l168 y168 z168 st168 hQ168
  subst l168 y168 z168
  obtain ⟨rfl, N168q, eh168⟩ := hQ168
  have N168 := Fr.app N166 N168q
  have pre169 : ∀ t, own_S p e below T168 m 80 #[sI p1, sI p2, sI p3, sR b1, sR b12, sR b34, sR b67, sR b111, sI ((p1 + (0 : Int32)) + (0 : Int32)), sI (((0 : Int32) + p2) + (0 : Int32)), sU, sU, sU, sU] [(.ref b67)] t → R0 t := fun t k => pre167 t (by
    refine st168.trans ?_
    show own_S p e below T168 m 76 #[sI p1, sI p2, sI p3, sR b1, sR b12, sR b34, sR b67, sR b111, sI ((p1 + (0 : Int32)) + (0 : Int32)), sU, sU, sU, sU, sU] [(.int (((0 : Int32) + p2) + (0 : Int32)))] _
    refine XS.istore X168.here hx rfl (hb hby at_76) rfl (l' := #[sI p1, sI p2, sI p3, sR b1, sR b12, sR b34, sR b67, sR b111, sI ((p1 + (0 : Int32)) + (0 : Int32)), sI (((0 : Int32) + p2) + (0 : Int32)), sU, sU, sU, sU]) rfl ?_
    show own_S p e below T168 m 78 #[sI p1, sI p2, sI p3, sR b1, sR b12, sR b34, sR b67, sR b111, sI ((p1 + (0 : Int32)) + (0 : Int32)), sI (((0 : Int32) + p2) + (0 : Int32)), sU, sU, sU, sU] [] _
    refine XS.aload X168.here hx rfl (hb hby at_78) rfl rfl ?_
    exact k)
  obtain ⟨cq170, kq170, q170a, q170b, q170c⟩ := isOf hZ eh168 f159
  obtain ⟨_, _, ⟨T170, L170, k170, n170⟩, -, X170, ⟨Lc170, hQ170, l170, y170, z170⟩, st170⟩ := X168.virtualBack hx (y := own_y2) (z := own_y2) hown (mvT hZ hw22) (mvT hZ hw23) (notFace_of_selects (args := #[]) (mvT hZ hw25)) (mvT hZ hw25) (mvT hZ hw24) (by decide) (backOf (W := 0) (own_rm4 l Z a0 hw [] b67 (0 : Int32) (0 : Int32) p3 T142.heap n0 f143 f160 f161 f162) hZ hw26 hw2 (by decide) (by decide)) q170a q170c (g := (mkF m 80 #[sI p1, sI p2, sI p3, sR b1, sR b12, sR b34, sR b67, sR b111, sI ((p1 + (0 : Int32)) + (0 : Int32)), sI (((0 : Int32) + p2) + (0 : Int32)), sU, sU, sU, sU] [(.ref b67)])) rfl (by rw [hml]; rfl) (Steps.refl _) (argsL := []) (rest := []) (lenOf own_pd_2 rfl) rfl (by show 2 * 0 + _ ≤ _; exact Nat.le_of_eq rfl) (hb hby at_80) (fun _ _ => ⟨rfl, eh168, (by decide : 5 + 0 ≤ _), (by decide : 20 + 0 ≤ _)⟩)
  dsimp only [Pt.U, Pt.locs, Pt.cells, Pt.slots] at X170 l170 y170 z170 st170 hQ170
  subst l170 y170 z170
  obtain ⟨rfl, N170q, eh170⟩ := hQ170
  have N170 := Fr.app N168 N170q
  have pre171 : ∀ t, own_S p e below T170 m 87 #[sI p1, sI p2, sI p3, sR b1, sR b12, sR b34, sR b67, sR b111, sI ((p1 + (0 : Int32)) + (0 : Int32)), sI (((0 : Int32) + p2) + (0 : Int32)), sI (((0 : Int32) + (0 : Int32)) + p3), sU, sU, sU] [(.ref b111)] t → R0 t := fun t k => pre169 t (by
    refine st170.trans ?_
    show own_S p e below T170 m 83 #[sI p1, sI p2, sI p3, sR b1, sR b12, sR b34, sR b67, sR b111, sI ((p1 + (0 : Int32)) + (0 : Int32)), sI (((0 : Int32) + p2) + (0 : Int32)), sU, sU, sU, sU] [(.int (((0 : Int32) + (0 : Int32)) + p3))] _
    refine XS.istore X170.here hx rfl (hb hby at_83) rfl (l' := #[sI p1, sI p2, sI p3, sR b1, sR b12, sR b34, sR b67, sR b111, sI ((p1 + (0 : Int32)) + (0 : Int32)), sI (((0 : Int32) + p2) + (0 : Int32)), sI (((0 : Int32) + (0 : Int32)) + p3), sU, sU, sU]) rfl ?_
    show own_S p e below T170 m 85 #[sI p1, sI p2, sI p3, sR b1, sR b12, sR b34, sR b67, sR b111, sI ((p1 + (0 : Int32)) + (0 : Int32)), sI (((0 : Int32) + p2) + (0 : Int32)), sI (((0 : Int32) + (0 : Int32)) + p3), sU, sU, sU] [] _
    refine XS.aload X170.here hx rfl (hb hby at_85) rfl rfl ?_
    exact k)
  obtain ⟨cq172, kq172, q172a, q172b, q172c⟩ := isOf hZ eh170 ex142
  obtain ⟨_, _, ⟨T172, L172, k172, n172⟩, -, X172, ⟨Lc172, hQ172, l172, y172, z172⟩, st172⟩ := X170.virtualBack hx (y := own_y2) (z := own_y2) hown (mvT hZ hw22) (mvT hZ hw23) (notFace_of_selects (args := #[]) (mvT hZ hw25)) (mvT hZ hw25) (mvT hZ hw24) (by decide) (backOf (W := 0) (own_rm4 l Z a0 hw [] b111 (0 : Int32) (0 : Int32) (0 : Int32) T142.heap n0 f143 fx142_0 fx142_1 fx142_2) hZ hw26 hw2 (by decide) (by decide)) q172a q172c (g := (mkF m 87 #[sI p1, sI p2, sI p3, sR b1, sR b12, sR b34, sR b67, sR b111, sI ((p1 + (0 : Int32)) + (0 : Int32)), sI (((0 : Int32) + p2) + (0 : Int32)), sI (((0 : Int32) + (0 : Int32)) + p3), sU, sU, sU] [(.ref b111)])) rfl (by rw [hml]; rfl) (Steps.refl _) (argsL := []) (rest := []) (lenOf own_pd_2 rfl) rfl (by show 2 * 0 + _ ≤ _; exact Nat.le_of_eq rfl) (hb hby at_87) (fun _ _ => ⟨rfl, eh170, (by decide : 5 + 0 ≤ _), (by decide : 20 + 0 ≤ _)⟩)
  dsimp only [Pt.U, Pt.locs, Pt.cells, Pt.slots] at X172 l172 y172 z172 st172 hQ172
  subst l172 y172 z172
  obtain ⟨rfl, N172q, eh172⟩ := hQ172
  have N172 := Fr.app N170 N172q
  have pre173 : ∀ t, own_S p e below T172 m 90 #[sI p1, sI p2, sI p3, sR b1, sR b12, sR b34, sR b67, sR b111, sI ((p1 + (0 : Int32)) + (0 : Int32)), sI (((0 : Int32) + p2) + (0 : Int32)), sI (((0 : Int32) + (0 : Int32)) + p3), sU, sU, sU] [(.int (((0 : Int32) + (0 : Int32)) + (0 : Int32)))] t → R0 t := fun t k => pre171 t (by
    refine st172.trans ?_
    exact k)
  have hc174 : (((0 : Int32) + (0 : Int32)) + (0 : Int32)) = (0 : Int32) := by decide
  have pre175 : ∀ t, own_S p e below T172 m 103 #[sI p1, sI p2, sI p3, sR b1, sR b12, sR b34, sR b67, sR b111, sI ((p1 + (0 : Int32)) + (0 : Int32)), sI (((0 : Int32) + p2) + (0 : Int32)), sI (((0 : Int32) + (0 : Int32)) + p3), sI 1, sU, sU] [(.int p1), (.int ((p1 + (0 : Int32)) + (0 : Int32)))] t → R0 t := fun t k => pre173 t (by
    refine XS.ifNo X172.here hx rfl (hb hby at_90) rfl ((if0 _ _).trans (teq hc174).2) ?_
    show own_S p e below T172 m 93 #[sI p1, sI p2, sI p3, sR b1, sR b12, sR b34, sR b67, sR b111, sI ((p1 + (0 : Int32)) + (0 : Int32)), sI (((0 : Int32) + p2) + (0 : Int32)), sI (((0 : Int32) + (0 : Int32)) + p3), sU, sU, sU] [] _
    refine XS.iconst X172.here hx rfl (hb hby at_93) ?_
    show own_S p e below T172 m 94 #[sI p1, sI p2, sI p3, sR b1, sR b12, sR b34, sR b67, sR b111, sI ((p1 + (0 : Int32)) + (0 : Int32)), sI (((0 : Int32) + p2) + (0 : Int32)), sI (((0 : Int32) + (0 : Int32)) + p3), sU, sU, sU] [(.int 1)] _
    refine XS.goto X172.here hx rfl (pc0 := 94) (pc' := 98) rfl (hb hby at_94) (by decide) (by decide) ?_
    show own_S p e below T172 m 98 #[sI p1, sI p2, sI p3, sR b1, sR b12, sR b34, sR b67, sR b111, sI ((p1 + (0 : Int32)) + (0 : Int32)), sI (((0 : Int32) + p2) + (0 : Int32)), sI (((0 : Int32) + (0 : Int32)) + p3), sU, sU, sU] [(.int 1)] _
    refine XS.istore X172.here hx rfl (hb hby at_98) rfl (l' := #[sI p1, sI p2, sI p3, sR b1, sR b12, sR b34, sR b67, sR b111, sI ((p1 + (0 : Int32)) + (0 : Int32)), sI (((0 : Int32) + p2) + (0 : Int32)), sI (((0 : Int32) + (0 : Int32)) + p3), sI 1, sU, sU]) rfl ?_
    show own_S p e below T172 m 100 #[sI p1, sI p2, sI p3, sR b1, sR b12, sR b34, sR b67, sR b111, sI ((p1 + (0 : Int32)) + (0 : Int32)), sI (((0 : Int32) + p2) + (0 : Int32)), sI (((0 : Int32) + (0 : Int32)) + p3), sI 1, sU, sU] [] _
    refine XS.iload X172.here hx rfl (hb hby at_100) rfl ?_
    show own_S p e below T172 m 102 #[sI p1, sI p2, sI p3, sR b1, sR b12, sR b34, sR b67, sR b111, sI ((p1 + (0 : Int32)) + (0 : Int32)), sI (((0 : Int32) + p2) + (0 : Int32)), sI (((0 : Int32) + (0 : Int32)) + p3), sI 1, sU, sU] [(.int ((p1 + (0 : Int32)) + (0 : Int32)))] _
    refine XS.iloadN X172.here hx rfl (hb hby at_102) rfl ?_
    exact k)
  have hc176 : ((p1 + (0 : Int32)) + (0 : Int32)) = p1 := by simp
  have pre177 : ∀ t, own_S p e below T172 m 109 #[sI p1, sI p2, sI p3, sR b1, sR b12, sR b34, sR b67, sR b111, sI ((p1 + (0 : Int32)) + (0 : Int32)), sI (((0 : Int32) + p2) + (0 : Int32)), sI (((0 : Int32) + (0 : Int32)) + p3), sI 1, sU, sU] [(.int p2), (.int (((0 : Int32) + p2) + (0 : Int32)))] t → R0 t := fun t k => pre175 t (by
    refine XS.icmpNo X172.here hx rfl (hb hby at_103) rfl (teq hc176).2 ?_
    show own_S p e below T172 m 106 #[sI p1, sI p2, sI p3, sR b1, sR b12, sR b34, sR b67, sR b111, sI ((p1 + (0 : Int32)) + (0 : Int32)), sI (((0 : Int32) + p2) + (0 : Int32)), sI (((0 : Int32) + (0 : Int32)) + p3), sI 1, sU, sU] [] _
    refine XS.iload X172.here hx rfl (hb hby at_106) rfl ?_
    show own_S p e below T172 m 108 #[sI p1, sI p2, sI p3, sR b1, sR b12, sR b34, sR b67, sR b111, sI ((p1 + (0 : Int32)) + (0 : Int32)), sI (((0 : Int32) + p2) + (0 : Int32)), sI (((0 : Int32) + (0 : Int32)) + p3), sI 1, sU, sU] [(.int (((0 : Int32) + p2) + (0 : Int32)))] _
    refine XS.iloadN X172.here hx rfl (hb hby at_108) rfl ?_
    exact k)
  have hc178 : (((0 : Int32) + p2) + (0 : Int32)) = p2 := by simp
  have pre179 : ∀ t, own_S p e below T172 m 115 #[sI p1, sI p2, sI p3, sR b1, sR b12, sR b34, sR b67, sR b111, sI ((p1 + (0 : Int32)) + (0 : Int32)), sI (((0 : Int32) + p2) + (0 : Int32)), sI (((0 : Int32) + (0 : Int32)) + p3), sI 1, sU, sU] [(.int p3), (.int (((0 : Int32) + (0 : Int32)) + p3))] t → R0 t := fun t k => pre177 t (by
    refine XS.icmpNo X172.here hx rfl (hb hby at_109) rfl (teq hc178).2 ?_
    show own_S p e below T172 m 112 #[sI p1, sI p2, sI p3, sR b1, sR b12, sR b34, sR b67, sR b111, sI ((p1 + (0 : Int32)) + (0 : Int32)), sI (((0 : Int32) + p2) + (0 : Int32)), sI (((0 : Int32) + (0 : Int32)) + p3), sI 1, sU, sU] [] _
    refine XS.iload X172.here hx rfl (hb hby at_112) rfl ?_
    show own_S p e below T172 m 114 #[sI p1, sI p2, sI p3, sR b1, sR b12, sR b34, sR b67, sR b111, sI ((p1 + (0 : Int32)) + (0 : Int32)), sI (((0 : Int32) + p2) + (0 : Int32)), sI (((0 : Int32) + (0 : Int32)) + p3), sI 1, sU, sU] [(.int (((0 : Int32) + (0 : Int32)) + p3))] _
    refine XS.iloadN X172.here hx rfl (hb hby at_114) rfl ?_
    exact k)
  have hc180 : (((0 : Int32) + (0 : Int32)) + p3) = p3 := by simp
  have pre181 : ∀ t, own_S p e below T172 m 126 #[sI p1, sI p2, sI p3, sR b1, sR b12, sR b34, sR b67, sR b111, sI ((p1 + (0 : Int32)) + (0 : Int32)), sI (((0 : Int32) + p2) + (0 : Int32)), sI (((0 : Int32) + (0 : Int32)) + p3), sI 1, sI 1, sU] [(.ref b1)] t → R0 t := fun t k => pre179 t (by
    refine XS.icmpNo X172.here hx rfl (hb hby at_115) rfl (teq hc180).2 ?_
    show own_S p e below T172 m 118 #[sI p1, sI p2, sI p3, sR b1, sR b12, sR b34, sR b67, sR b111, sI ((p1 + (0 : Int32)) + (0 : Int32)), sI (((0 : Int32) + p2) + (0 : Int32)), sI (((0 : Int32) + (0 : Int32)) + p3), sI 1, sU, sU] [] _
    refine XS.iconst X172.here hx rfl (hb hby at_118) ?_
    show own_S p e below T172 m 119 #[sI p1, sI p2, sI p3, sR b1, sR b12, sR b34, sR b67, sR b111, sI ((p1 + (0 : Int32)) + (0 : Int32)), sI (((0 : Int32) + p2) + (0 : Int32)), sI (((0 : Int32) + (0 : Int32)) + p3), sI 1, sU, sU] [(.int 1)] _
    refine XS.goto X172.here hx rfl (pc0 := 119) (pc' := 123) rfl (hb hby at_119) (by decide) (by decide) ?_
    show own_S p e below T172 m 123 #[sI p1, sI p2, sI p3, sR b1, sR b12, sR b34, sR b67, sR b111, sI ((p1 + (0 : Int32)) + (0 : Int32)), sI (((0 : Int32) + p2) + (0 : Int32)), sI (((0 : Int32) + (0 : Int32)) + p3), sI 1, sU, sU] [(.int 1)] _
    refine XS.istore X172.here hx rfl (hb hby at_123) rfl (l' := #[sI p1, sI p2, sI p3, sR b1, sR b12, sR b34, sR b67, sR b111, sI ((p1 + (0 : Int32)) + (0 : Int32)), sI (((0 : Int32) + p2) + (0 : Int32)), sI (((0 : Int32) + (0 : Int32)) + p3), sI 1, sI 1, sU]) rfl ?_
    show own_S p e below T172 m 125 #[sI p1, sI p2, sI p3, sR b1, sR b12, sR b34, sR b67, sR b111, sI ((p1 + (0 : Int32)) + (0 : Int32)), sI (((0 : Int32) + p2) + (0 : Int32)), sI (((0 : Int32) + (0 : Int32)) + p3), sI 1, sI 1, sU] [] _
    refine XS.aloadN X172.here hx rfl (hb hby at_125) rfl rfl ?_
    exact k)
  obtain ⟨cq182, kq182, q182a, q182b, q182c⟩ := isOf hZ eh172 f144
  obtain ⟨_, _, ⟨T182, L182, k182, n182⟩, -, X182, ⟨Lc182, hQ182, l182, y182, z182⟩, st182⟩ := X172.virtualBack hx (y := own_y2) (z := own_y2) hown (mvT hZ hw22) (mvT hZ hw23) (notFace_of_selects (args := #[]) (mvT hZ hw25)) (mvT hZ hw25) (mvT hZ hw24) (by decide) (backOf (W := 0) (own_rm4 l Z a0 hw [] b1 p1 p2 p3 T142.heap n0 f143 f145 f146 f147) hZ hw26 hw2 (by decide) (by decide)) q182a q182c (g := (mkF m 126 #[sI p1, sI p2, sI p3, sR b1, sR b12, sR b34, sR b67, sR b111, sI ((p1 + (0 : Int32)) + (0 : Int32)), sI (((0 : Int32) + p2) + (0 : Int32)), sI (((0 : Int32) + (0 : Int32)) + p3), sI 1, sI 1, sU] [(.ref b1)])) rfl (by rw [hml]; rfl) (Steps.refl _) (argsL := []) (rest := []) (lenOf own_pd_2 rfl) rfl (by show 2 * 0 + _ ≤ _; exact Nat.le_of_eq rfl) (hb hby at_126) (fun _ _ => ⟨rfl, eh172, (by decide : 5 + 0 ≤ _), (by decide : 20 + 0 ≤ _)⟩)
  dsimp only [Pt.U, Pt.locs, Pt.cells, Pt.slots] at X182 l182 y182 z182 st182 hQ182
  subst l182 y182 z182
  obtain ⟨rfl, N182q, eh182⟩ := hQ182
  have N182 := Fr.app N172 N182q
  have pre183 : ∀ t, own_S p e below T182 m 137 #[sI p1, sI p2, sI p3, sR b1, sR b12, sR b34, sR b67, sR b111, sI ((p1 + (0 : Int32)) + (0 : Int32)), sI (((0 : Int32) + p2) + (0 : Int32)), sI (((0 : Int32) + (0 : Int32)) + p3), sI 1, sI 1, sU] [(.int ((((p1 + (0 : Int32)) + (0 : Int32)) + (((0 : Int32) + p2) + (0 : Int32))) + (((0 : Int32) + (0 : Int32)) + p3))), (.int ((p1 + p2) + p3))] t → R0 t := fun t k => pre181 t (by
    refine st182.trans ?_
    show own_S p e below T182 m 129 #[sI p1, sI p2, sI p3, sR b1, sR b12, sR b34, sR b67, sR b111, sI ((p1 + (0 : Int32)) + (0 : Int32)), sI (((0 : Int32) + p2) + (0 : Int32)), sI (((0 : Int32) + (0 : Int32)) + p3), sI 1, sI 1, sU] [(.int ((p1 + p2) + p3))] _
    refine XS.iload X182.here hx rfl (hb hby at_129) rfl ?_
    show own_S p e below T182 m 131 #[sI p1, sI p2, sI p3, sR b1, sR b12, sR b34, sR b67, sR b111, sI ((p1 + (0 : Int32)) + (0 : Int32)), sI (((0 : Int32) + p2) + (0 : Int32)), sI (((0 : Int32) + (0 : Int32)) + p3), sI 1, sI 1, sU] [(.int ((p1 + (0 : Int32)) + (0 : Int32))), (.int ((p1 + p2) + p3))] _
    refine XS.iload X182.here hx rfl (hb hby at_131) rfl ?_
    show own_S p e below T182 m 133 #[sI p1, sI p2, sI p3, sR b1, sR b12, sR b34, sR b67, sR b111, sI ((p1 + (0 : Int32)) + (0 : Int32)), sI (((0 : Int32) + p2) + (0 : Int32)), sI (((0 : Int32) + (0 : Int32)) + p3), sI 1, sI 1, sU] [(.int (((0 : Int32) + p2) + (0 : Int32))), (.int ((p1 + (0 : Int32)) + (0 : Int32))), (.int ((p1 + p2) + p3))] _
    refine XS.iadd X182.here hx rfl (hb hby at_133) rfl ?_
    show own_S p e below T182 m 134 #[sI p1, sI p2, sI p3, sR b1, sR b12, sR b34, sR b67, sR b111, sI ((p1 + (0 : Int32)) + (0 : Int32)), sI (((0 : Int32) + p2) + (0 : Int32)), sI (((0 : Int32) + (0 : Int32)) + p3), sI 1, sI 1, sU] [(.int (((p1 + (0 : Int32)) + (0 : Int32)) + (((0 : Int32) + p2) + (0 : Int32)))), (.int ((p1 + p2) + p3))] _
    refine XS.iload X182.here hx rfl (hb hby at_134) rfl ?_
    show own_S p e below T182 m 136 #[sI p1, sI p2, sI p3, sR b1, sR b12, sR b34, sR b67, sR b111, sI ((p1 + (0 : Int32)) + (0 : Int32)), sI (((0 : Int32) + p2) + (0 : Int32)), sI (((0 : Int32) + (0 : Int32)) + p3), sI 1, sI 1, sU] [(.int (((0 : Int32) + (0 : Int32)) + p3)), (.int (((p1 + (0 : Int32)) + (0 : Int32)) + (((0 : Int32) + p2) + (0 : Int32)))), (.int ((p1 + p2) + p3))] _
    refine XS.iadd X182.here hx rfl (hb hby at_136) rfl ?_
    exact k)
  have hc184 : ((p1 + p2) + p3) = ((((p1 + (0 : Int32)) + (0 : Int32)) + (((0 : Int32) + p2) + (0 : Int32))) + (((0 : Int32) + (0 : Int32)) + p3)) := by simp
  have pre185 : ∀ t, own_S p e below T182 m 167 #[sI p1, sI p2, sI p3, sR b1, sR b12, sR b34, sR b67, sR b111, sI ((p1 + (0 : Int32)) + (0 : Int32)), sI (((0 : Int32) + p2) + (0 : Int32)), sI (((0 : Int32) + (0 : Int32)) + p3), sI 1, sI 1, sI 1] [(.int 1)] t → R0 t := fun t k => pre183 t (by
    refine XS.icmpNo X182.here hx rfl (hb hby at_137) rfl (teq hc184).2 ?_
    show own_S p e below T182 m 140 #[sI p1, sI p2, sI p3, sR b1, sR b12, sR b34, sR b67, sR b111, sI ((p1 + (0 : Int32)) + (0 : Int32)), sI (((0 : Int32) + p2) + (0 : Int32)), sI (((0 : Int32) + (0 : Int32)) + p3), sI 1, sI 1, sU] [] _
    refine XS.iconst X182.here hx rfl (hb hby at_140) ?_
    show own_S p e below T182 m 141 #[sI p1, sI p2, sI p3, sR b1, sR b12, sR b34, sR b67, sR b111, sI ((p1 + (0 : Int32)) + (0 : Int32)), sI (((0 : Int32) + p2) + (0 : Int32)), sI (((0 : Int32) + (0 : Int32)) + p3), sI 1, sI 1, sU] [(.int 1)] _
    refine XS.goto X182.here hx rfl (pc0 := 141) (pc' := 145) rfl (hb hby at_141) (by decide) (by decide) ?_
    show own_S p e below T182 m 145 #[sI p1, sI p2, sI p3, sR b1, sR b12, sR b34, sR b67, sR b111, sI ((p1 + (0 : Int32)) + (0 : Int32)), sI (((0 : Int32) + p2) + (0 : Int32)), sI (((0 : Int32) + (0 : Int32)) + p3), sI 1, sI 1, sU] [(.int 1)] _
    refine XS.istore X182.here hx rfl (hb hby at_145) rfl (l' := #[sI p1, sI p2, sI p3, sR b1, sR b12, sR b34, sR b67, sR b111, sI ((p1 + (0 : Int32)) + (0 : Int32)), sI (((0 : Int32) + p2) + (0 : Int32)), sI (((0 : Int32) + (0 : Int32)) + p3), sI 1, sI 1, sI 1]) rfl ?_
    show own_S p e below T182 m 147 #[sI p1, sI p2, sI p3, sR b1, sR b12, sR b34, sR b67, sR b111, sI ((p1 + (0 : Int32)) + (0 : Int32)), sI (((0 : Int32) + p2) + (0 : Int32)), sI (((0 : Int32) + (0 : Int32)) + p3), sI 1, sI 1, sI 1] [] _
    refine XS.iload X182.here hx rfl (hb hby at_147) rfl ?_
    show own_S p e below T182 m 149 #[sI p1, sI p2, sI p3, sR b1, sR b12, sR b34, sR b67, sR b111, sI ((p1 + (0 : Int32)) + (0 : Int32)), sI (((0 : Int32) + p2) + (0 : Int32)), sI (((0 : Int32) + (0 : Int32)) + p3), sI 1, sI 1, sI 1] [(.int 1)] _
    refine XS.ifNo X182.here hx rfl (hb hby at_149) rfl ((if0 _ _).trans (feq (by decide : ¬ ((1 : Int32) = (0 : Int32)))).1) ?_
    show own_S p e below T182 m 152 #[sI p1, sI p2, sI p3, sR b1, sR b12, sR b34, sR b67, sR b111, sI ((p1 + (0 : Int32)) + (0 : Int32)), sI (((0 : Int32) + p2) + (0 : Int32)), sI (((0 : Int32) + (0 : Int32)) + p3), sI 1, sI 1, sI 1] [] _
    refine XS.iload X182.here hx rfl (hb hby at_152) rfl ?_
    show own_S p e below T182 m 154 #[sI p1, sI p2, sI p3, sR b1, sR b12, sR b34, sR b67, sR b111, sI ((p1 + (0 : Int32)) + (0 : Int32)), sI (((0 : Int32) + p2) + (0 : Int32)), sI (((0 : Int32) + (0 : Int32)) + p3), sI 1, sI 1, sI 1] [(.int 1)] _
    refine XS.ifNo X182.here hx rfl (hb hby at_154) rfl ((if0 _ _).trans (feq (by decide : ¬ ((1 : Int32) = (0 : Int32)))).1) ?_
    show own_S p e below T182 m 157 #[sI p1, sI p2, sI p3, sR b1, sR b12, sR b34, sR b67, sR b111, sI ((p1 + (0 : Int32)) + (0 : Int32)), sI (((0 : Int32) + p2) + (0 : Int32)), sI (((0 : Int32) + (0 : Int32)) + p3), sI 1, sI 1, sI 1] [] _
    refine XS.iload X182.here hx rfl (hb hby at_157) rfl ?_
    show own_S p e below T182 m 159 #[sI p1, sI p2, sI p3, sR b1, sR b12, sR b34, sR b67, sR b111, sI ((p1 + (0 : Int32)) + (0 : Int32)), sI (((0 : Int32) + p2) + (0 : Int32)), sI (((0 : Int32) + (0 : Int32)) + p3), sI 1, sI 1, sI 1] [(.int 1)] _
    refine XS.ifNo X182.here hx rfl (hb hby at_159) rfl ((if0 _ _).trans (feq (by decide : ¬ ((1 : Int32) = (0 : Int32)))).1) ?_
    show own_S p e below T182 m 162 #[sI p1, sI p2, sI p3, sR b1, sR b12, sR b34, sR b67, sR b111, sI ((p1 + (0 : Int32)) + (0 : Int32)), sI (((0 : Int32) + p2) + (0 : Int32)), sI (((0 : Int32) + (0 : Int32)) + p3), sI 1, sI 1, sI 1] [] _
    refine XS.iconst X182.here hx rfl (hb hby at_162) ?_
    show own_S p e below T182 m 163 #[sI p1, sI p2, sI p3, sR b1, sR b12, sR b34, sR b67, sR b111, sI ((p1 + (0 : Int32)) + (0 : Int32)), sI (((0 : Int32) + p2) + (0 : Int32)), sI (((0 : Int32) + (0 : Int32)) + p3), sI 1, sI 1, sI 1] [(.int 1)] _
    refine XS.goto X182.here hx rfl (pc0 := 163) (pc' := 167) rfl (hb hby at_163) (by decide) (by decide) ?_
    exact k)
  obtain ⟨fs, hr, hrun, hended, hW, hsame⟩ := X182.leave (v := some (.int 1)) (fun h => by rw [Bd.returns] at h; cases h)
  refine ⟨_, _, cast (congrFun hR0 _) (pre185 _ (retN X182 hx (t := .boolean) Bd.returns (by simp) (hb hby at_167) hr)), hrun, hended, _, _, rfl, ?_, ⟨_, rfl⟩, hW, hsame.mono (by decide) (by decide)⟩
  show own_Q0 Z _ _ _ h0 n0 _ T182.heap _
  rw [eh182]
  exact ⟨rfl, N182⟩
set_option maxRecDepth 65536 in
set_option maxHeartbeats 40000000 in
theorem own_comes {Post : Tables → Env → Array Value → State → Outcome → State → Prop} (hpost : ∀ tb e args s v u, (limb_1_1.after args s (.returned v) u = true ∧ limb_1_2.after args s (.returned v) u = true ∧ True) → FrameEnd s (.returned v) u (Jvm.fieldLocs frame_1_writes args s ++ Jvm.arrayLocs frame_1_arrays args s ++ Jvm.staticLocs frame_1_statics s) 24 128 → Post tb e args s (.returned v) u) :
    ArmFor flags0 classFile x code maxLocals ret World_1 tables_1 room_1 Calls_1 rest_1 Pre_1 Post := by
  intro l hfl _ _ p e ha hc hk s m args below hf hA hF happ hP
  obtain ⟨hcalls, hrest, hpre⟩ := hP
  obtain ⟨-, -, -, hnamed, -, -, -, hat⟩ := (Spec.applies_iff hf).mp happ
  obtain ⟨hg, hn⟩ := and_e (Cond.before_iff.mp (show (Jvm.Cond.and given_1 narrow_1).before args s = true from hpre))
  obtain ⟨hcount, hg0⟩ := and_e hg
  obtain ⟨ha0, hg1⟩ := and_e hg0
  obtain ⟨ha1, hg2⟩ := and_e hg1
  have ha2 := hg2
  obtain ⟨w0, w1, w2, rfl⟩ : ∃ w0 w1 w2 : Value, args = #[w0, w1, w2] := by
    have hs : args.size = 3 := by simpa [Cond.value, given_1] using hcount
    obtain ⟨L⟩ := args
    match L, hs with
    | [w0, w1, w2], _ => exact ⟨w0, w1, w2, rfl⟩
  have hw := fun d (hd : d ∈ tables_1) => atoms_spec (ws := Jvm.Cond.code x code maxLocals ret :: tables_1) hat d (List.mem_cons_of_mem _ hd)
  have hfit : Fit s := fun {y c} hc i hi => by
    obtain ⟨ha, rfl⟩ := Array.getElem?_eq_some_iff.mp hc
    have q := List.all_eq_true.mp ((Array.all_eq_true_iff_forall_mem.mp hF) _ (Array.getElem_mem ha)) i (List.mem_range.mpr hi)
    simpa [Array.getElem?_eq_getElem hi] using q
  obtain ⟨i0, ei0⟩ := is_v ha0
  obtain rfl : w0 = (.int i0) := Option.some.inj ei0
  obtain ⟨i1, ei1⟩ := is_v ha1
  obtain rfl : w1 = (.int i1) := Option.some.inj ei1
  obtain ⟨i2, ei2⟩ := is_v ha2
  obtain rfl : w2 = (.int i2) := Option.some.inj ei2
  obtain ⟨n, o, h1, h2, h3, _, L, rfl, ⟨rfl, N⟩, hq⟩ := own_rm0 l s _ hw tables_1 i0 i1 i2  s.heap s.heap.size (Nat.le_refl _)  p e ha hc hk s m _ below hf ((Spec.applies_iff_loose hf).mp happ).1 ⟨rfl, State.Warmed39.refl s, rfl⟩ trivial
  refine ⟨n, _, h1, h2, h3, hpost _ _ _ _ _ _ ⟨Cond.after_iff.mpr rfl, Cond.after_iff.mpr (eq_i res_at (Term.int_eval (1)) rfl), trivial⟩ ⟨hq.1, hq.2.1, (hq.2.2.sift fun y hy => Or.inr (N y hy)).mono (by decide) (by decide)⟩⟩
theorem main_1_1 : Claimed_1_1 := own_comes fun _ _ _ _ _ _ h hF => ⟨h.1, hF⟩
theorem main_1_2 : Claimed_1_2 := own_comes fun _ _ _ _ _ _ h hF => ⟨h.2.1, hF⟩
end Jvm.Pilot.@@N@@
namespace Jvm.Pilot.@@N@@
open Jvm Jvm.ClassFile Sem Op Lib Jvm.Free Jvm.Stand Jvm.Pilot.@@N@@.Jvm.D
/-! MADE BY PROGRAM (witnessworld.py) out of the Statement's table words and the real class files: 10 classes; the members and pool entries that the words name. The judged class is class 1, her method 1. -/
namespace start1
open Jvm.ClassFile
def u (s : String) : CpInfo := .utf8 (stringToUtf16 s)
/-- a pool by its gaps: so many unusable entries, then the entry; so many at the end -/
def gap : Nat → List CpInfo → List CpInfo
  | 0, r => r
  | n + 1, r => .unusable :: gap n r
def poolList (es : List (Nat × CpInfo)) (last : Nat) : List CpInfo := es.foldr (fun e r => gap e.1 (e.2 :: r)) (gap last [])
def pool (es : List (Nat × CpInfo)) (last : Nat) : Array CpInfo := ⟨poolList es last⟩
def fileOf (pool : Array CpInfo) (this : Nat) (attrs : Array Attribute := #[]) (ms : Array MethodInfo := #[]) (fl : Nat := 33) (sup : Nat := 0) (ifs : Array Nat := #[]) (fds : Array FieldInfo := #[]) : ClassFile where
  minorVersion := 0
  majorVersion := 65
  constantPool := pool
  accessFlags := fl
  thisClass := this
  superClass := sup
  interfaces := ifs
  fields := fds
  methods := ms
  attributes := attrs
def plain (name : String) (sup : Option ClassId) : Class where
  name := name
  kind := .ordinary
  loader := none
  accessFlags := 33
  super := sup
  interfaces := #[]
  cf := none
  fields := #[]
  methods := #[]
  instanceTypes := #[]
  staticTypes := #[]
  resolved := #[]
  callSites := []
  init := .initialized
  statics := none
  mirror := none

def pool0 : Array CpInfo := pool [(5, u "<init>"), (0, u "()V"), (1, .class_ 10), (1, u "java/lang/Object")] 113

def k0c0 : Code := { maxStack := 0, maxLocals := 1, code := object_method_1_code, exceptionTable := #[], attributes := #[] }
def k0m0 : Method := { name := "<init>", desc := "()V", sig := { parameters := [], returnType := none }, accessFlags := 1, code := some k0c0 }
/-- java/lang/Object -/
def k0 : Class := { plain "java/lang/Object" none with
  accessFlags := 33
  interfaces := #[]
  cf := some (fileOf pool0 8 #[] #[{ accessFlags := 1, nameIndex := 5, descriptorIndex := 6, attributes := #[] }] 33 0 #[] #[])
  fields := #[]
  methods := #[k0m0]
  instanceTypes := #[]
  staticTypes := #[]
  resolved := Array.replicate 124 none
  statics := none }

def pool1 : Array CpInfo := pool [(2, .class_ 4), (1, u "java/lang/Object"), (0, u "<init>"), (0, u "()V"), (0, .class_ 8), (0, u "com/example/tablier/tablier/arena/Match$Summary"), (0, .methodref 7 10), (0, .nameAndType 5 11), (0, u "(IIILjava/util/Optional;)V"), (0, .methodref 7 13), (0, .nameAndType 14 15), (0, u "games"), (0, u "()I"), (0, .class_ 17), (0, u "com/example/tablier/tablier/arena/SummaryGamesPinLaw"), (2, u "law"), (0, u "(III)Z")] 7

def k1m0 : Method := { name := "<init>", desc := "()V", sig := { parameters := [], returnType := none }, accessFlags := 2, code := none }
def k1c1 : Code := { maxStack := 6, maxLocals := 14, code := code, exceptionTable := #[], attributes := #[] }
def k1m1 : Method := { name := "law", desc := "(III)Z", sig := { parameters := [.int, .int, .int], returnType := some .boolean }, accessFlags := 9, code := some k1c1 }
/-- com/example/tablier/tablier/arena/SummaryGamesPinLaw -/
def k1 : Class := { plain "com/example/tablier/tablier/arena/SummaryGamesPinLaw" (some 0) with
  accessFlags := 49
  interfaces := #[]
  cf := some (fileOf pool1 16 #[] #[{ accessFlags := 2, nameIndex := 5, descriptorIndex := 6, attributes := #[] }, { accessFlags := 9, nameIndex := 20, descriptorIndex := 21, attributes := #[] }] 49 2 #[] #[])
  fields := #[]
  methods := #[k1m0, k1m1]
  instanceTypes := #[]
  staticTypes := #[]
  resolved := Array.replicate 29 none
  statics := none }

def pool2 : Array CpInfo := pool [(1, .methodref 2 3), (0, .class_ 4), (0, .nameAndType 5 6), (0, u "java/lang/Object"), (0, u "<init>"), (0, u "()V"), (0, .class_ 8), (0, u "java/lang/Record")] 13

def k2c0 : Code := { maxStack := 1, maxLocals := 1, code := jdk_30_method_1_code, exceptionTable := #[], attributes := #[] }
def k2m0 : Method := { name := "<init>", desc := "()V", sig := { parameters := [], returnType := none }, accessFlags := 4, code := some k2c0 }
/-- java/lang/Record -/
def k2 : Class := { plain "java/lang/Record" (some 0) with
  accessFlags := 1057
  interfaces := #[]
  cf := some (fileOf pool2 7 #[] #[{ accessFlags := 4, nameIndex := 5, descriptorIndex := 6, attributes := #[] }] 1057 2 #[] #[])
  fields := #[]
  methods := #[k2m0]
  instanceTypes := #[]
  staticTypes := #[]
  resolved := Array.replicate 22 none
  statics := none }

def pool3 : Array CpInfo := pool [(1, .methodref 2 3), (0, .class_ 4), (0, .nameAndType 5 6), (0, u "java/lang/Record"), (0, u "<init>"), (0, u "()V"), (0, .fieldref 8 9), (0, .class_ 10), (0, .nameAndType 11 12), (0, u "com/example/tablier/tablier/arena/Match$Summary"), (0, u "winsOfA"), (0, u "I"), (0, .fieldref 8 14), (0, .nameAndType 15 12), (0, u "winsOfB"), (0, .fieldref 8 17), (0, .nameAndType 18 12), (0, u "draws"), (0, .fieldref 8 20), (0, .nameAndType 21 22), (0, u "points"), (0, u "Ljava/util/Optional;"), (2, u "games"), (0, u "()I"), (55, u "(IIILjava/util/Optional;)V"), (35, .class_ 119), (0, u "com/example/tablier/tablier/arena/Match")] 35

def k3c0 : Code := { maxStack := 2, maxLocals := 5, code := prog_12_method_1_code, exceptionTable := #[], attributes := #[] }
def k3m0 : Method := { name := "<init>", desc := "(IIILjava/util/Optional;)V", sig := { parameters := [.int, .int, .int, (.object "java/util/Optional")], returnType := none }, accessFlags := 1, code := some k3c0 }
def k3c1 : Code := { maxStack := 2, maxLocals := 1, code := prog_12_method_2_code, exceptionTable := #[], attributes := #[] }
def k3m1 : Method := { name := "games", desc := "()I", sig := { parameters := [], returnType := some .int }, accessFlags := 1, code := some k3c1 }
/-- com/example/tablier/tablier/arena/Match$Summary -/
def k3 : Class := { plain "com/example/tablier/tablier/arena/Match$Summary" (some 2) with
  accessFlags := 49
  interfaces := #[]
  cf := some (fileOf pool3 8 #[.nestHost 118] #[{ accessFlags := 1, nameIndex := 5, descriptorIndex := 82, attributes := #[] }, { accessFlags := 1, nameIndex := 25, descriptorIndex := 26, attributes := #[] }] 49 2 #[] #[{ accessFlags := 18, nameIndex := 11, descriptorIndex := 12, attributes := #[] }, { accessFlags := 18, nameIndex := 15, descriptorIndex := 12, attributes := #[] }, { accessFlags := 18, nameIndex := 18, descriptorIndex := 12, attributes := #[] }, { accessFlags := 18, nameIndex := 21, descriptorIndex := 22, attributes := #[] }])
  fields := #[{ name := "winsOfA", type := .int, accessFlags := 18, slot := 0, constantValue := 0 }, { name := "winsOfB", type := .int, accessFlags := 18, slot := 1, constantValue := 0 }, { name := "draws", type := .int, accessFlags := 18, slot := 2, constantValue := 0 }, { name := "points", type := (.object "java/util/Optional"), accessFlags := 18, slot := 3, constantValue := 0 }]
  methods := #[k3m0, k3m1]
  instanceTypes := #[.int, .int, .int, (.object "java/util/Optional")]
  staticTypes := #[]
  resolved := Array.replicate 155 none
  statics := none }

def pool4 : Array CpInfo := pool [(1, u "java/lang/Cloneable"), (0, .class_ 1), (0, u "java/lang/Object"), (0, .class_ 3)] 3

/-- java/lang/Cloneable -/
def k4 : Class := { plain "java/lang/Cloneable" (some 0) with
  accessFlags := 1537
  interfaces := #[]
  cf := some (fileOf pool4 2 #[] #[] 1537 4 #[] #[])
  fields := #[]
  methods := #[]
  instanceTypes := #[]
  staticTypes := #[]
  resolved := Array.replicate 8 none
  statics := none }

def pool5 : Array CpInfo := pool [(1, u "java/io/Serializable"), (0, .class_ 1), (0, u "java/lang/Object"), (0, .class_ 3)] 3

/-- java/io/Serializable -/
def k5 : Class := { plain "java/io/Serializable" (some 0) with
  accessFlags := 1537
  interfaces := #[]
  cf := some (fileOf pool5 2 #[] #[] 1537 4 #[] #[])
  fields := #[]
  methods := #[]
  instanceTypes := #[]
  staticTypes := #[]
  resolved := Array.replicate 8 none
  statics := none }

/-- the primitive byte -/
def k6 : Class := { plain "byte" none with kind := .primitive 'B', accessFlags := 0x411 }
/-- [B -/
def k7 : Class := { plain "[B" (some 0) with kind := .array 6 .byte, interfaces := #[4, 5], accessFlags := 1041 }

/-- the primitive int -/
def k8 : Class := { plain "int" none with kind := .primitive 'I', accessFlags := 0x411 }
/-- [I -/
def k9 : Class := { plain "[I" (some 0) with kind := .array 8 .int, interfaces := #[4, 5], accessFlags := 1041 }

def heap : Heap := #[]
def classes : Array Class := #[k0, k1, k2, k3, k4, k5, k6, k7, k8, k9]
def interned : List (Array UInt16 × Addr) := []
def slotsUsed : Nat := 0
def theMethod : MethodId := ⟨1, 1⟩
def args0 : Array Value := #[.int 5, .int 6, .int 7]
def aboutOver (below : List Frame) : State where
  vm := { classes := classes, interned := interned.toArray }
  heap := heap
  slotsUsed := slotsUsed
  threads := #[{ frames := .invoking theMethod args0 :: below }]
def below0 : List Frame := [.native { method := ⟨0, 0⟩, args := #[] }]
def about1 : State := aboutOver below0
def p0 : Program := .bare "" "" ""
def e0 : Env := launch0.env 0 0 0
theorem w_frames : about1.frames = Frame.invoking theMethod args0 :: below0 := rfl
set_option maxRecDepth 65536 in
theorem w_args : argsFit about1.vm theMethod args0 = true := by decide +kernel
set_option maxRecDepth 65536 in
theorem w_heap : heapFits about1 = true := by decide +kernel
set_option maxRecDepth 65536 in
theorem w_runnable : about1.curStatus? = some .runnable := by decide +kernel
set_option maxRecDepth 65536 in
theorem w_alone : about1.alone = true := by decide +kernel
set_option maxRecDepth 65536 in
theorem w_named : about1.methodNamed? x = some theMethod := by decide +kernel
set_option maxRecDepth 65536 in
theorem w_hears : about1.hears theMethod below0 = true := by decide +kernel
set_option maxRecDepth 65536 in
theorem w_ripe : about1.ripe theMethod args0 below0 = true := by decide +kernel
theorem w_running : about1.status = .running := rfl
set_option maxRecDepth 65536 in
theorem w_room : about1.hasRoom e0.platform room_1 = true :=
  launch0.hasRoom_least _ room_1 (by decide +kernel) (by decide +kernel) (by decide +kernel) (by decide +kernel) (by decide +kernel) (by decide +kernel)
theorem allAtoms_all (ts : List Jvm.Cond) (a : Array Jvm.Value) (st : Jvm.State) : (allAtoms ts).before a st = ts.all (fun c => c.before a st) := by
  induction ts with
  | nil => rfl
  | cons c t ih =>
    show (Jvm.Cond.and c (allAtoms t)).before a st = _
    rw [Jvm.Cond.before_and, ih, List.all_cons]
def words1 : List Jvm.Cond := Jvm.Cond.code x code maxLocals ret :: tables_1
/-- a 'code' word, met by the world's own term for the bytes: nothing is compared byte by byte -/
theorem code_word {y : MethodName} {bytes : ByteArray} {mx : Nat} {rt : Option FieldType} {a : Array Value} {s : State} {m : MethodId} {meth : Method} {c : Code} (h1 : s.methodNamed? y = some m) (h2 : s.vm.method? m = some meth) (h3 : meth.code = some c) (h4 : c.code = bytes)
    (h5 : (c.maxLocals == mx && c.exceptionTable.isEmpty && decide (c.maxStack ≤ mostOperands) && decide (meth.sig.returnType = rt) && !meth.locks && decide (parseMethodDescriptor y.desc = some meth.sig)) = true) : (Jvm.Cond.code y bytes mx rt).before a s = true := by
  simp only [Bool.and_eq_true, beq_iff_eq, Bool.not_eq_true', decide_eq_true_eq] at h5
  obtain ⟨⟨⟨⟨⟨g1, g2⟩, g3⟩, g4⟩, g5⟩, g6⟩ := h5
  simp [Cond.before, Cond.holds, Cond.value, h1, h2, h3, h4, g1, g2, g3, g4, g5, g6]
def isCode : Jvm.Cond → Bool
  | .code _ _ _ _ => true
  | _ => false
theorem all_split {L : List Jvm.Cond} {P : Jvm.Cond → Bool} (h1 : L.all (fun c => isCode c || P c) = true) (h2 : ∀ c ∈ L.filter isCode, P c = true) : L.all P = true := by
  refine List.all_eq_true.mpr fun c hc => ?_
  have h := List.all_eq_true.mp h1 c hc
  rcases Bool.eq_false_or_eq_true (isCode c) with hi | hi
  · exact h2 c (List.mem_filter.mpr ⟨hc, hi⟩)
  · simpa [hi] using h
set_option maxRecDepth 65536 in
theorem w_c0 : (Jvm.Cond.code x code maxLocals ret).before args0 about1 = true := code_word (m := ⟨1, 1⟩) (meth := k1m1) (c := k1c1) (by decide +kernel) rfl rfl rfl (by decide +kernel)
set_option maxRecDepth 65536 in
theorem w_c1 : (Jvm.Cond.code ({ cls := "com/example/tablier/tablier/arena/Match$Summary", name := "<init>", desc := "(IIILjava/util/Optional;)V" } : Jvm.MethodName) prog_12_method_1_code (5 : Nat) (Option.none : Option Jvm.ClassFile.FieldType)).before args0 about1 = true := code_word (m := ⟨3, 0⟩) (meth := k3m0) (c := k3c0) (by decide +kernel) rfl rfl rfl (by decide +kernel)
set_option maxRecDepth 65536 in
theorem w_c2 : (Jvm.Cond.code ({ cls := "java/lang/Record", name := "<init>", desc := "()V" } : Jvm.MethodName) jdk_30_method_1_code (1 : Nat) (Option.none : Option Jvm.ClassFile.FieldType)).before args0 about1 = true := code_word (m := ⟨2, 0⟩) (meth := k2m0) (c := k2c0) (by decide +kernel) rfl rfl rfl (by decide +kernel)
set_option maxRecDepth 65536 in
theorem w_c3 : (Jvm.Cond.code ({ cls := "java/lang/Object", name := "<init>", desc := "()V" } : Jvm.MethodName) object_method_1_code (1 : Nat) (Option.none : Option Jvm.ClassFile.FieldType)).before args0 about1 = true := code_word (m := ⟨0, 0⟩) (meth := k0m0) (c := k0c0) (by decide +kernel) rfl rfl rfl (by decide +kernel)
set_option maxRecDepth 65536 in
theorem w_c4 : (Jvm.Cond.code ({ cls := "com/example/tablier/tablier/arena/Match$Summary", name := "games", desc := "()I" } : Jvm.MethodName) prog_12_method_2_code (1 : Nat) (Option.some Jvm.ClassFile.FieldType.int)).before args0 about1 = true := code_word (m := ⟨3, 1⟩) (meth := k3m1) (c := k3c1) (by decide +kernel) rfl rfl rfl (by decide +kernel)
def codes1 : List Jvm.Cond := [Jvm.Cond.code x code maxLocals ret, Jvm.Cond.code ({ cls := "com/example/tablier/tablier/arena/Match$Summary", name := "<init>", desc := "(IIILjava/util/Optional;)V" } : Jvm.MethodName) prog_12_method_1_code (5 : Nat) (Option.none : Option Jvm.ClassFile.FieldType), Jvm.Cond.code ({ cls := "java/lang/Record", name := "<init>", desc := "()V" } : Jvm.MethodName) jdk_30_method_1_code (1 : Nat) (Option.none : Option Jvm.ClassFile.FieldType), Jvm.Cond.code ({ cls := "java/lang/Object", name := "<init>", desc := "()V" } : Jvm.MethodName) object_method_1_code (1 : Nat) (Option.none : Option Jvm.ClassFile.FieldType), Jvm.Cond.code ({ cls := "com/example/tablier/tablier/arena/Match$Summary", name := "games", desc := "()I" } : Jvm.MethodName) prog_12_method_2_code (1 : Nat) (Option.some Jvm.ClassFile.FieldType.int)]
set_option maxRecDepth 65536 in
theorem codes_eq : words1.filter isCode = codes1 := rfl
theorem w_codes : ∀ c ∈ words1.filter isCode, c.before args0 about1 = true := by
  rw [codes_eq]
  intro c hc
  simp only [codes1, List.mem_cons, List.not_mem_nil, or_false] at hc
  rcases hc with rfl | rfl | rfl | rfl | rfl
  · exact w_c0
  · exact w_c1
  · exact w_c2
  · exact w_c3
  · exact w_c4
set_option maxRecDepth 65536 in
theorem w_t1 : (words1.take 24).all (fun c => isCode c || c.before args0 about1) = true := by decide +kernel
set_option maxRecDepth 65536 in
theorem w_t2 : (words1.drop 24).all (fun c => isCode c || c.before args0 about1) = true := by decide +kernel
theorem w_tables : (allAtoms (Jvm.Cond.code x code maxLocals ret :: tables_1)).before args0 about1 = true := by
  rw [allAtoms_all]
  show words1.all (fun c => c.before args0 about1) = true
  refine all_split ?_ w_codes
  rw [← List.take_append_drop 24 words1, List.all_append, w_t1, w_t2]
  rfl
set_option maxRecDepth 65536 in
theorem w_case : (Jvm.Cond.and given_1 narrow_1).before args0 about1 = true := by decide +kernel
theorem w_applies : (headSpec (Jvm.Cond.code x code maxLocals ret :: tables_1) room_1).applies x e0.platform about1 = true :=
  (Spec.applies_iff w_frames).mpr ⟨w_running, w_runnable, w_alone, w_named, w_hears, w_ripe, w_room, w_tables⟩
theorem atStart : AtStart classFile x code maxLocals ret World_1 tables_1 room_1 Calls_1 rest_1 Pre_1 launch0 p0 e0 about1 theMethod args0 below0 :=
  ⟨lists_1, trivial, launch0.admits_env _ _ _, launch0.least_env, fairChoices_fair.cas, fairChoices_fair.clock, w_frames, w_args, w_heap, w_applies, trivial, trivial, w_case⟩
end start1
theorem witness_1 : WitnessClaimed_1 := ⟨start1.p0, start1.e0, start1.about1, start1.theMethod, start1.args0, start1.below0, start1.atStart⟩
end Jvm.Pilot.@@N@@
