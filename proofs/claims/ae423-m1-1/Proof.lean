import JvmDerived
import JvmDerived.Pilot.@@N@@Statement
import JvmDerived.Pilot.@@N@@Code
set_option linter.unusedVariables false
set_option linter.unusedSimpArgs false
namespace Jvm.Pilot.@@N@@
open Jvm Jvm.ClassFile Sem Op Lib Jvm.Free Jvm.Stand Jvm.LawKit Jvm.RoadKit Bundle Jvm.Pilot.@@N@@.Jvm.D
abbrev sI (x : Int32) : Slot := .val (.int x)
abbrev sJ (x : Int64) : Slot := .val (.long x)
abbrev sR (a : Addr) : Slot := .val (.ref a)
abbrev sN : Slot := .val .null
abbrev sU : Slot := .unset
abbrev sW : Slot := .second
abbrev own_S (p : Program) (e : Env) (below : List Frame) (T : State) (m : MethodId) (pc : Nat) (L : Array Slot) (S : List Value) (t : State) : Prop := Steps p.tables e below (T.setTop (mkF m pc L S)) t
theorem own_d1_0 : decode prog_11_method_4_code 0 = .ok (.aload_n 0, 1) := by decide +kernel
theorem own_d1_1 : decode prog_11_method_4_code 1 = .ok (.getstatic 3, 3) := by decide +kernel
theorem own_d1_4 : decode prog_11_method_4_code 4 = .ok (.if_acmp .ne 9, 3) := by decide +kernel
theorem own_d1_7 : decode prog_11_method_4_code 7 = .ok (.getstatic 7, 3) := by decide +kernel
theorem own_d1_10 : decode prog_11_method_4_code 10 = .ok (.goto 6, 3) := by decide +kernel
theorem own_d1_13 : decode prog_11_method_4_code 13 = .ok (.getstatic 3, 3) := by decide +kernel
theorem own_d1_16 : decode prog_11_method_4_code 16 = .ok (.areturn, 1) := by decide +kernel
theorem own_pn_0 : plainName "com/example/tablier/tablier/arena/Match$Side" = true := by first | (simp [plainName, overriddenIn]; done) | decide +kernel
theorem own_ef_1 (m : MethodId) (x0 : Addr) : entryFrame m #[(.ref x0)] 1 = mkF m 0 #[sR x0] [] := by first | (simp [entryFrame, mkF, argsToLocals, Value.category]; done) | rfl
def own_Q1 (Z : State) (a1 : Addr) (aA : Addr) (aB : Addr) (h0 : Heap) (n0 : Nat) (v : Option Value) (h : Heap) (L : List Loc) : Prop := v = some (.ref (if a1 = aA then aB else aA)) ∧ Fr n0 L ∧ h = h0
abbrev own_y0 : MethodName := ⟨"com/example/tablier/tablier/arena/Match$Side", "other", "()Lcom/example/tablier/tablier/arena/Match$Side;"⟩
set_option maxRecDepth 65536 in
set_option maxHeartbeats 40000000 in
theorem own_rm1 (l : Launch) (Z : State) (a0 : Array Value) (hw : ∀ d ∈ tables_1, d.before a0 Z = true) (ws : List Jvm.Cond) (a1 : Addr) (aA : Addr) (aB : Addr) (h0 : Heap) (n0 : Nat) (Z0 : n0 ≤ h0.size) (S_A : Sta Z h0 "com/example/tablier/tablier/arena/Match$Side" "A" "Lcom/example/tablier/tablier/arena/Match$Side;" (.ref aA)) (S_B : Sta Z h0 "com/example/tablier/tablier/arena/Match$Side" "B" "Lcom/example/tablier/tablier/arena/Match$Side;" (.ref aB)) :
    MetFree l own_y0 (head1 (Jvm.Cond.code own_y0 prog_11_method_4_code 1 (some (.object "com/example/tablier/tablier/arena/Match$Side")) :: ws) ({ frames := 0, cells := 0, slots := 0, locals := 0 } : Room)) (fun a U => a = #[(.ref a1)] ∧ Z.Warmed39 U.vm ∧ U.heap = h0) (fun _ _ _ _ _ => True) (fun _ U o U' => ∃ v L, o = .returned v ∧ own_Q1 Z a1 aA aB h0 n0 v U'.heap L ∧ FrameEnd U o U' L ({ frames := 0, cells := 0, slots := 0, locals := 0 } : Room).cells ({ frames := 0, cells := 0, slots := 0, locals := 0 } : Room).slots) := by
  refine MetFree.of_bodySF (plainFor_of_name own_pn_0) hisR ?_
  intro p e s m args below meth c s₁ Bd hml0 hP hK
  obtain ⟨rfl, hZ, hh⟩ := hP
  have hw10 := hw _ (List.mem_of_getElem? (i := 10) rfl)
  have hw11 := hw _ (List.mem_of_getElem? (i := 11) rfl)
  have hx := Bd.exec
  have hby := Bd.bytes
  have hml : c.maxLocals = 1 := hml0
  have hown : s.vm.findClass "com/example/tablier/tablier/arena/Match$Side" = some m.cls := findClass_of_methodNamed Bd.named
  have hnm := (name_of_methodNamed Bd.named Bd.method).1
  have X0 : Stand p l e ({ frames := 0, cells := 0, slots := 0, locals := 0 } : Room) s m #[(.ref a1)] below meth c s₁ [] 0 0 := Stand.of_body Bd
  have e0 : s₁.heap = h0 := by rw [← hh, Bd.state]; rfl
  have N0 := Fr.nil n0
  obtain ⟨R0, hR0⟩ : ∃ R : State → Prop, R = fun t => Steps p.tables e below (s₁.setTop (entryFrame m #[(.ref a1)] 1)) t := ⟨_, rfl⟩
  have pre0 : ∀ t, Steps p.tables e below (s₁.setTop (mkF m 0 #[sR a1] [])) t → R0 t := fun t k => by rw [hR0]; exact castTop (own_ef_1 m a1) k
  have pre1 : ∀ t, own_S p e below s₁ m 1 #[sR a1] [(.ref a1)] t → R0 t := fun t k => pre0 t (by
    refine XS.aloadN X0.here hx rfl (hb hby own_d1_0) rfl rfl ?_
    exact k)
  obtain ⟨T2, X2, e2, st2⟩ := getS2 X0 hx hZ hown (host := "") (Or.inl hw10) Via.refl e0 S_A (g := (mkF m 1 #[sR a1] [(.ref a1)])) rfl (hb hby own_d1_1)
  have pre3 : ∀ t, own_S p e below T2 m 4 #[sR a1] [(.ref aA), (.ref a1)] t → R0 t := fun t k => pre1 t (by
    refine st2 _ ?_
    exact k)
  by_cases ha4 : a1 = aA
  · have pre4 : ∀ t, own_S p e below T2 m 7 #[sR a1] [] t → R0 t := fun t k => pre3 t (by
      refine Jvm.RoadKit.acmp (g := (mkF m 4 #[sR a1] [(.ref aA), (.ref a1)])) X2 hx rfl rfl rfl (pc0 := 4) (pc' := 7) (same := true) rfl (hb hby own_d1_4) rfl (decide_eq_true (congrArg Value.ref ha4)) (by decide) (by decide) ?_
      exact k)
    obtain ⟨T5, X5, e5, st5⟩ := getS2 X2 hx hZ hown (host := "") (Or.inl hw11) Via.refl e2 S_B (g := (mkF m 7 #[sR a1] [])) rfl (hb hby own_d1_7)
    have pre6 : ∀ t, own_S p e below T5 m 16 #[sR a1] [(.ref aB)] t → R0 t := fun t k => pre4 t (by
      refine st5 _ ?_
      show own_S p e below T5 m 10 #[sR a1] [(.ref aB)] _
      refine XS.goto X5.here hx rfl (pc0 := 10) (pc' := 16) rfl (hb hby own_d1_10) (by decide) (by decide) ?_
      exact k)
    obtain ⟨fs, hr, hrun, hended, hW, hsame⟩ := X5.leave (v := some (.ref aB)) (fun h => by rw [Bd.returns] at h; cases h)
    refine ⟨_, _, cast (congrFun hR0 _) (pre6 _ (retOut X5 hx Bd.returns rfl (Or.inr (Or.inr (Or.inr (Or.inr ⟨rfl, rfl, rfl⟩)))) (hb hby own_d1_16) hr)), hrun, hended, _, _, rfl, ?_, ⟨_, rfl⟩, hW, hsame.mono (by decide) (by decide)⟩
    show own_Q1 Z _ _ _ h0 n0 _ T5.heap _
    rw [e5]
    exact ⟨(by rw [if_pos ha4]), N0, rfl⟩
  · have pre7 : ∀ t, own_S p e below T2 m 13 #[sR a1] [] t → R0 t := fun t k => pre3 t (by
      refine Jvm.RoadKit.acmp (g := (mkF m 4 #[sR a1] [(.ref aA), (.ref a1)])) X2 hx rfl rfl rfl (pc0 := 4) (pc' := 13) (same := false) rfl (hb hby own_d1_4) rfl (decide_eq_false fun q => ha4 (Value.ref.inj q)) (by decide) (by decide) ?_
      exact k)
    obtain ⟨T8, X8, e8, st8⟩ := getS2 X2 hx hZ hown (host := "") (Or.inl hw10) Via.refl e2 S_A (g := (mkF m 13 #[sR a1] [])) rfl (hb hby own_d1_13)
    have pre9 : ∀ t, own_S p e below T8 m 16 #[sR a1] [(.ref aA)] t → R0 t := fun t k => pre7 t (by
      refine st8 _ ?_
      exact k)
    obtain ⟨fs, hr, hrun, hended, hW, hsame⟩ := X8.leave (v := some (.ref aA)) (fun h => by rw [Bd.returns] at h; cases h)
    refine ⟨_, _, cast (congrFun hR0 _) (pre9 _ (retOut X8 hx Bd.returns rfl (Or.inr (Or.inr (Or.inr (Or.inr ⟨rfl, rfl, rfl⟩)))) (hb hby own_d1_16) hr)), hrun, hended, _, _, rfl, ?_, ⟨_, rfl⟩, hW, hsame.mono (by decide) (by decide)⟩
    show own_Q1 Z _ _ _ h0 n0 _ T8.heap _
    rw [e8]
    exact ⟨(by rw [if_neg ha4]), N0, rfl⟩
theorem own_pd_0 : parseMethodDescriptor "()Lcom/example/tablier/tablier/arena/Match$Side;" = some ⟨[], some (.object "com/example/tablier/tablier/arena/Match$Side")⟩ := by decide +kernel
theorem own_pn_1 : plainName "com/example/tablier/tablier/arena/SideOtherPinLaw" = true := by first | (simp [plainName, overriddenIn]; done) | decide +kernel
theorem own_ef_0 (m : MethodId) (x0 : Int32) : entryFrame m #[(.int x0)] maxLocals = mkF m 0 #[sI x0, .unset, .unset, .unset, .unset, .unset] [] := by first | (simp [entryFrame, mkF, argsToLocals, Value.category, maxLocals]; done) | rfl
def own_Q0 (Z : State) (p1 : Int32) (aA : Addr) (aB : Addr) (h0 : Heap) (n0 : Nat) (v : Option Value) (h : Heap) (L : List Loc) : Prop := v = some (.int 1) ∧ Fr n0 L
set_option maxRecDepth 65536 in
set_option maxHeartbeats 40000000 in
theorem own_rm0 (l : Launch) (Z : State) (a0 : Array Value) (hw : ∀ d ∈ tables_1, d.before a0 Z = true) (ws : List Jvm.Cond) (p1 : Int32) (aA : Addr) (aB : Addr) (h0 : Heap) (n0 : Nat) (Z0 : n0 ≤ h0.size) (E_aA : Exa Z h0 aA "com/example/tablier/tablier/arena/Match$Side") (E_aB : Exa Z h0 aB "com/example/tablier/tablier/arena/Match$Side") (S_A : Sta Z h0 "com/example/tablier/tablier/arena/Match$Side" "A" "Lcom/example/tablier/tablier/arena/Match$Side;" (.ref aA)) (S_B : Sta Z h0 "com/example/tablier/tablier/arena/Match$Side" "B" "Lcom/example/tablier/tablier/arena/Match$Side;" (.ref aB)) (ne_aA_aB : aA ≠ aB) :
    MetFree l x (head1 (Jvm.Cond.code x code maxLocals ret :: ws) room_1) (fun a U => a = #[(.int p1)] ∧ Z.Warmed39 U.vm ∧ U.heap = h0) (fun _ _ _ _ _ => True) (fun _ U o U' => ∃ v L, o = .returned v ∧ own_Q0 Z p1 aA aB h0 n0 v U'.heap L ∧ FrameEnd U o U' L room_1.cells room_1.slots) := by
  refine MetFree.of_bodySF (plainFor_of_name own_pn_1) hisR ?_
  intro p e s m args below meth c s₁ Bd hml0 hP hK
  obtain ⟨rfl, hZ, hh⟩ := hP
  have hw0 := hw _ (List.mem_of_getElem? (i := 0) rfl)
  have hw1 := hw _ (List.mem_of_getElem? (i := 1) rfl)
  have hw3 := hw _ (List.mem_of_getElem? (i := 3) rfl)
  have hw5 := hw _ (List.mem_of_getElem? (i := 5) rfl)
  have hw6 := hw _ (List.mem_of_getElem? (i := 6) rfl)
  have hw7 := hw _ (List.mem_of_getElem? (i := 7) rfl)
  have hw8 := hw _ (List.mem_of_getElem? (i := 8) rfl)
  have hw9 := hw _ (List.mem_of_getElem? (i := 9) rfl)
  have hx := Bd.exec
  have hby := Bd.bytes
  have hml : c.maxLocals = 6 := hml0
  have hown : s.vm.findClass "com/example/tablier/tablier/arena/SideOtherPinLaw" = some m.cls := findClass_of_methodNamed Bd.named
  have hnm := (name_of_methodNamed Bd.named Bd.method).1
  have X0 : Stand p l e room_1 s m #[(.int p1)] below meth c s₁ [] 0 0 := Stand.of_body Bd
  have e0 : s₁.heap = h0 := by rw [← hh, Bd.state]; rfl
  have N0 := Fr.nil n0
  obtain ⟨R0, hR0⟩ : ∃ R : State → Prop, R = fun t => Steps p.tables e below (s₁.setTop (entryFrame m #[(.int p1)] maxLocals)) t := ⟨_, rfl⟩
  have pre0 : ∀ t, Steps p.tables e below (s₁.setTop (mkF m 0 #[sI p1, sU, sU, sU, sU, sU] [])) t → R0 t := fun t k => by rw [hR0]; exact castTop (own_ef_0 m p1) k
  have pre1 : ∀ t, own_S p e below s₁ m 3 #[sI p1, sU, sU, sU, sU, sU] [(.int (p1 &&& (1 : Int32)))] t → R0 t := fun t k => pre0 t (by
    refine XS.iloadN X0.here hx rfl (hb hby at_0) rfl ?_
    show own_S p e below s₁ m 1 #[sI p1, sU, sU, sU, sU, sU] [(.int p1)] _
    refine XS.iconst X0.here hx rfl (hb hby at_1) ?_
    show own_S p e below s₁ m 2 #[sI p1, sU, sU, sU, sU, sU] [(.int 1), (.int p1)] _
    refine XS.iand X0.here hx rfl (hb hby at_2) rfl ?_
    exact k)
  by_cases hc3 : (p1 &&& (1 : Int32)) = (0 : Int32)
  · have pre2 : ∀ t, own_S p e below s₁ m 22 #[sI p1, sI 0, sU, sU, sU, sU] [] t → R0 t := fun t k => pre1 t (by
      refine XS.ifYes X0.here hx rfl (pc0 := 3) (pc' := 10) rfl (hb hby at_3) rfl ((if0 _ _).trans (teq hc3).1) (by decide) (by decide) ?_
      show own_S p e below s₁ m 10 #[sI p1, sU, sU, sU, sU, sU] [] _
      refine XS.iconst X0.here hx rfl (hb hby at_10) ?_
      show own_S p e below s₁ m 11 #[sI p1, sU, sU, sU, sU, sU] [(.int 0)] _
      refine XS.istoreN X0.here hx rfl (hb hby at_11) rfl (l' := #[sI p1, sI 0, sU, sU, sU, sU]) rfl ?_
      show own_S p e below s₁ m 12 #[sI p1, sI 0, sU, sU, sU, sU] [] _
      refine XS.iloadN X0.here hx rfl (hb hby at_12) rfl ?_
      show own_S p e below s₁ m 13 #[sI p1, sI 0, sU, sU, sU, sU] [(.int 0)] _
      refine XS.ifYes X0.here hx rfl (pc0 := 13) (pc' := 22) rfl (hb hby at_13) rfl ((if0 _ _).trans (teq (by decide : (0 : Int32) = (0 : Int32))).1) (by decide) (by decide) ?_
      exact k)
    obtain ⟨T3, X3, e3, st3⟩ := getS2 X0 hx hZ hown (host := "") (Or.inl hw0) Via.refl e0 S_A (g := (mkF m 22 #[sI p1, sI 0, sU, sU, sU, sU] [])) rfl (hb hby at_22)
    have pre4 : ∀ t, own_S p e below T3 m 36 #[sI p1, sI 0, sR aA, sU, sU, sU] [] t → R0 t := fun t k => pre2 t (by
      refine st3 _ ?_
      show own_S p e below T3 m 25 #[sI p1, sI 0, sU, sU, sU, sU] [(.ref aA)] _
      refine XS.astoreN X3.here hx rfl (hb hby at_25) rfl rfl (l' := #[sI p1, sI 0, sR aA, sU, sU, sU]) rfl ?_
      show own_S p e below T3 m 26 #[sI p1, sI 0, sR aA, sU, sU, sU] [] _
      refine XS.iloadN X3.here hx rfl (hb hby at_26) rfl ?_
      show own_S p e below T3 m 27 #[sI p1, sI 0, sR aA, sU, sU, sU] [(.int 0)] _
      refine XS.ifYes X3.here hx rfl (pc0 := 27) (pc' := 36) rfl (hb hby at_27) rfl ((if0 _ _).trans (teq (by decide : (0 : Int32) = (0 : Int32))).1) (by decide) (by decide) ?_
      exact k)
    obtain ⟨T5, X5, e5, st5⟩ := getS2 X3 hx hZ hown (host := "") (Or.inl hw3) Via.refl e3 S_B (g := (mkF m 36 #[sI p1, sI 0, sR aA, sU, sU, sU] [])) rfl (hb hby at_36)
    have pre6 : ∀ t, own_S p e below T5 m 41 #[sI p1, sI 0, sR aA, sR aB, sU, sU] [(.ref aA)] t → R0 t := fun t k => pre4 t (by
      refine st5 _ ?_
      show own_S p e below T5 m 39 #[sI p1, sI 0, sR aA, sU, sU, sU] [(.ref aB)] _
      refine XS.astoreN X5.here hx rfl (hb hby at_39) rfl rfl (l' := #[sI p1, sI 0, sR aA, sR aB, sU, sU]) rfl ?_
      show own_S p e below T5 m 40 #[sI p1, sI 0, sR aA, sR aB, sU, sU] [] _
      refine XS.aloadN X5.here hx rfl (hb hby at_40) rfl rfl ?_
      exact k)
    obtain ⟨cq7, kq7, q7a, q7b, q7c⟩ := isOf hZ e5 E_aA
    obtain ⟨_, _, ⟨T7, L7, k7, n7⟩, -, X7, ⟨Lc7, hQ7, l7, y7, z7⟩, st7⟩ := X5.virtualBack hx (y := own_y0) (z := own_y0) hown (mvT hZ hw5) (mvT hZ hw6) (notFace_of_selects (args := #[]) (mvT hZ hw8)) (mvT hZ hw8) (mvT hZ hw7) (by decide) (backOf (W := 0) (own_rm1 l Z a0 hw [] aA aA aB h0 n0 Z0 S_A S_B) hZ hw9 hw1 (by decide) (by decide)) q7a q7c (g := (mkF m 41 #[sI p1, sI 0, sR aA, sR aB, sU, sU] [(.ref aA)])) rfl (by rw [hml]; rfl) (Steps.refl _) (argsL := []) (rest := []) (lenOf own_pd_0 rfl) rfl (by show 2 * 0 + _ ≤ _; exact Nat.le_of_eq rfl) (hb hby at_41) (fun _ _ => ⟨rfl, e5, (by decide : 0 + 0 ≤ _), (by decide : 0 + 0 ≤ _)⟩)
    dsimp only [Pt.U, Pt.locs, Pt.cells, Pt.slots] at X7 l7 y7 z7 st7 hQ7
    subst l7 y7 z7
    obtain ⟨rfl, N7q, eh7⟩ := hQ7
    have N7 := Fr.app N0 N7q
    have pre8 : ∀ t, own_S p e below T7 m 44 #[sI p1, sI 0, sR aA, sR aB, sU, sU] [(.ref (if aA = aA then aB else aA))] t → R0 t := fun t k => pre6 t (by
      refine st7.trans ?_
      exact k)
    have rq9 : (if aA = aA then aB else aA) = aB := if_pos rfl
    have pre10 : ∀ t, own_S p e below T7 m 44 #[sI p1, sI 0, sR aA, sR aB, sU, sU] [(.ref aB)] t → R0 t := fun t k => pre8 t (by rw [rq9]; exact k)
    have pre11 : ∀ t, own_S p e below T7 m 55 #[sI p1, sI 0, sR aA, sR aB, sR aB, sU] [(.ref aB)] t → R0 t := fun t k => pre10 t (by
      refine XS.astore X7.here hx rfl (hb hby at_44) rfl rfl (l' := #[sI p1, sI 0, sR aA, sR aB, sR aB, sU]) rfl ?_
      show own_S p e below T7 m 46 #[sI p1, sI 0, sR aA, sR aB, sR aB, sU] [] _
      refine XS.aload X7.here hx rfl (hb hby at_46) rfl rfl ?_
      show own_S p e below T7 m 48 #[sI p1, sI 0, sR aA, sR aB, sR aB, sU] [(.ref aB)] _
      refine XS.ifnonnullYes X7.here hx rfl (pc0 := 48) (pc' := 53) rfl (hb hby at_48) rfl (by decide) (by decide) ?_
      show own_S p e below T7 m 53 #[sI p1, sI 0, sR aA, sR aB, sR aB, sU] [] _
      refine XS.aload X7.here hx rfl (hb hby at_53) rfl rfl ?_
      exact k)
    obtain ⟨cq12, kq12, q12a, q12b, q12c⟩ := isOf hZ eh7 E_aB
    obtain ⟨_, _, ⟨T12, L12, k12, n12⟩, -, X12, ⟨Lc12, hQ12, l12, y12, z12⟩, st12⟩ := X7.virtualBack hx (y := own_y0) (z := own_y0) hown (mvT hZ hw5) (mvT hZ hw6) (notFace_of_selects (args := #[]) (mvT hZ hw8)) (mvT hZ hw8) (mvT hZ hw7) (by decide) (backOf (W := 0) (own_rm1 l Z a0 hw [] aB aA aB h0 n0 Z0 S_A S_B) hZ hw9 hw1 (by decide) (by decide)) q12a q12c (g := (mkF m 55 #[sI p1, sI 0, sR aA, sR aB, sR aB, sU] [(.ref aB)])) rfl (by rw [hml]; rfl) (Steps.refl _) (argsL := []) (rest := []) (lenOf own_pd_0 rfl) rfl (by show 2 * 0 + _ ≤ _; exact Nat.le_of_eq rfl) (hb hby at_55) (fun _ _ => ⟨rfl, eh7, (by decide : 0 + 0 ≤ _), (by decide : 0 + 0 ≤ _)⟩)
    dsimp only [Pt.U, Pt.locs, Pt.cells, Pt.slots] at X12 l12 y12 z12 st12 hQ12
    subst l12 y12 z12
    obtain ⟨rfl, N12q, eh12⟩ := hQ12
    have N12 := Fr.app N7 N12q
    have pre13 : ∀ t, own_S p e below T12 m 58 #[sI p1, sI 0, sR aA, sR aB, sR aB, sU] [(.ref (if aB = aA then aB else aA))] t → R0 t := fun t k => pre11 t (by
      refine st12.trans ?_
      exact k)
    have rq14 : (if aB = aA then aB else aA) = aA := if_neg (Ne.symm ne_aA_aB)
    have pre15 : ∀ t, own_S p e below T12 m 58 #[sI p1, sI 0, sR aA, sR aB, sR aB, sU] [(.ref aA)] t → R0 t := fun t k => pre13 t (by rw [rq14]; exact k)
    have pre16 : ∀ t, own_S p e below T12 m 83 #[sI p1, sI 0, sR aA, sR aB, sR aB, sR aA] [(.int 1)] t → R0 t := fun t k => pre15 t (by
      refine XS.astore X12.here hx rfl (hb hby at_58) rfl rfl (l' := #[sI p1, sI 0, sR aA, sR aB, sR aB, sR aA]) rfl ?_
      show own_S p e below T12 m 60 #[sI p1, sI 0, sR aA, sR aB, sR aB, sR aA] [] _
      refine XS.aload X12.here hx rfl (hb hby at_60) rfl rfl ?_
      show own_S p e below T12 m 62 #[sI p1, sI 0, sR aA, sR aB, sR aB, sR aA] [(.ref aB)] _
      refine XS.aloadN X12.here hx rfl (hb hby at_62) rfl rfl ?_
      show own_S p e below T12 m 63 #[sI p1, sI 0, sR aA, sR aB, sR aB, sR aA] [(.ref aB), (.ref aB)] _
      refine Jvm.RoadKit.acmp (g := (mkF m 63 #[sI p1, sI 0, sR aA, sR aB, sR aB, sR aA] [(.ref aB), (.ref aB)])) X12 hx rfl rfl rfl (pc0 := 63) (pc' := 66) (same := true) rfl (hb hby at_63) rfl (decide_eq_true rfl) (by decide) (by decide) ?_
      show own_S p e below T12 m 66 #[sI p1, sI 0, sR aA, sR aB, sR aB, sR aA] [] _
      refine XS.aload X12.here hx rfl (hb hby at_66) rfl rfl ?_
      show own_S p e below T12 m 68 #[sI p1, sI 0, sR aA, sR aB, sR aB, sR aA] [(.ref aB)] _
      refine XS.aloadN X12.here hx rfl (hb hby at_68) rfl rfl ?_
      show own_S p e below T12 m 69 #[sI p1, sI 0, sR aA, sR aB, sR aB, sR aA] [(.ref aA), (.ref aB)] _
      refine Jvm.RoadKit.acmp (g := (mkF m 69 #[sI p1, sI 0, sR aA, sR aB, sR aB, sR aA] [(.ref aA), (.ref aB)])) X12 hx rfl rfl rfl (pc0 := 69) (pc' := 72) (same := false) rfl (hb hby at_69) rfl (decide_eq_false fun q => (Ne.symm ne_aA_aB) (Value.ref.inj q)) (by decide) (by decide) ?_
      show own_S p e below T12 m 72 #[sI p1, sI 0, sR aA, sR aB, sR aB, sR aA] [] _
      refine XS.aload X12.here hx rfl (hb hby at_72) rfl rfl ?_
      show own_S p e below T12 m 74 #[sI p1, sI 0, sR aA, sR aB, sR aB, sR aA] [(.ref aA)] _
      refine XS.aloadN X12.here hx rfl (hb hby at_74) rfl rfl ?_
      show own_S p e below T12 m 75 #[sI p1, sI 0, sR aA, sR aB, sR aB, sR aA] [(.ref aA), (.ref aA)] _
      refine Jvm.RoadKit.acmp (g := (mkF m 75 #[sI p1, sI 0, sR aA, sR aB, sR aB, sR aA] [(.ref aA), (.ref aA)])) X12 hx rfl rfl rfl (pc0 := 75) (pc' := 78) (same := true) rfl (hb hby at_75) rfl (decide_eq_true rfl) (by decide) (by decide) ?_
      show own_S p e below T12 m 78 #[sI p1, sI 0, sR aA, sR aB, sR aB, sR aA] [] _
      refine XS.iconst X12.here hx rfl (hb hby at_78) ?_
      show own_S p e below T12 m 79 #[sI p1, sI 0, sR aA, sR aB, sR aB, sR aA] [(.int 1)] _
      refine XS.goto X12.here hx rfl (pc0 := 79) (pc' := 83) rfl (hb hby at_79) (by decide) (by decide) ?_
      exact k)
    obtain ⟨fs, hr, hrun, hended, hW, hsame⟩ := X12.leave (v := some (.int 1)) (fun h => by rw [Bd.returns] at h; cases h)
    refine ⟨_, _, cast (congrFun hR0 _) (pre16 _ (retN X12 hx (t := .boolean) Bd.returns (by simp) (hb hby at_83) hr)), hrun, hended, _, _, rfl, ?_, ⟨_, rfl⟩, hW, hsame.mono (by decide) (by decide)⟩
    show own_Q0 Z _ _ _ h0 n0 _ T12.heap _
    rw [eh12]
    exact ⟨rfl, N12⟩
  · have pre17 : ∀ t, own_S p e below s₁ m 16 #[sI p1, sI 1, sU, sU, sU, sU] [] t → R0 t := fun t k => pre1 t (by
      refine XS.ifNo X0.here hx rfl (hb hby at_3) rfl ((if0 _ _).trans (feq hc3).1) ?_
      show own_S p e below s₁ m 6 #[sI p1, sU, sU, sU, sU, sU] [] _
      refine XS.iconst X0.here hx rfl (hb hby at_6) ?_
      show own_S p e below s₁ m 7 #[sI p1, sU, sU, sU, sU, sU] [(.int 1)] _
      refine XS.goto X0.here hx rfl (pc0 := 7) (pc' := 11) rfl (hb hby at_7) (by decide) (by decide) ?_
      show own_S p e below s₁ m 11 #[sI p1, sU, sU, sU, sU, sU] [(.int 1)] _
      refine XS.istoreN X0.here hx rfl (hb hby at_11) rfl (l' := #[sI p1, sI 1, sU, sU, sU, sU]) rfl ?_
      show own_S p e below s₁ m 12 #[sI p1, sI 1, sU, sU, sU, sU] [] _
      refine XS.iloadN X0.here hx rfl (hb hby at_12) rfl ?_
      show own_S p e below s₁ m 13 #[sI p1, sI 1, sU, sU, sU, sU] [(.int 1)] _
      refine XS.ifNo X0.here hx rfl (hb hby at_13) rfl ((if0 _ _).trans (feq (by decide : ¬ ((1 : Int32) = (0 : Int32)))).1) ?_
      exact k)
    obtain ⟨T18, X18, e18, st18⟩ := getS2 X0 hx hZ hown (host := "") (Or.inl hw3) Via.refl e0 S_B (g := (mkF m 16 #[sI p1, sI 1, sU, sU, sU, sU] [])) rfl (hb hby at_16)
    have pre19 : ∀ t, own_S p e below T18 m 30 #[sI p1, sI 1, sR aB, sU, sU, sU] [] t → R0 t := fun t k => pre17 t (by
      refine st18 _ ?_
      show own_S p e below T18 m 19 #[sI p1, sI 1, sU, sU, sU, sU] [(.ref aB)] _
      refine XS.goto X18.here hx rfl (pc0 := 19) (pc' := 25) rfl (hb hby at_19) (by decide) (by decide) ?_
      show own_S p e below T18 m 25 #[sI p1, sI 1, sU, sU, sU, sU] [(.ref aB)] _
      refine XS.astoreN X18.here hx rfl (hb hby at_25) rfl rfl (l' := #[sI p1, sI 1, sR aB, sU, sU, sU]) rfl ?_
      show own_S p e below T18 m 26 #[sI p1, sI 1, sR aB, sU, sU, sU] [] _
      refine XS.iloadN X18.here hx rfl (hb hby at_26) rfl ?_
      show own_S p e below T18 m 27 #[sI p1, sI 1, sR aB, sU, sU, sU] [(.int 1)] _
      refine XS.ifNo X18.here hx rfl (hb hby at_27) rfl ((if0 _ _).trans (feq (by decide : ¬ ((1 : Int32) = (0 : Int32)))).1) ?_
      exact k)
    obtain ⟨T20, X20, e20, st20⟩ := getS2 X18 hx hZ hown (host := "") (Or.inl hw0) Via.refl e18 S_A (g := (mkF m 30 #[sI p1, sI 1, sR aB, sU, sU, sU] [])) rfl (hb hby at_30)
    have pre21 : ∀ t, own_S p e below T20 m 41 #[sI p1, sI 1, sR aB, sR aA, sU, sU] [(.ref aB)] t → R0 t := fun t k => pre19 t (by
      refine st20 _ ?_
      show own_S p e below T20 m 33 #[sI p1, sI 1, sR aB, sU, sU, sU] [(.ref aA)] _
      refine XS.goto X20.here hx rfl (pc0 := 33) (pc' := 39) rfl (hb hby at_33) (by decide) (by decide) ?_
      show own_S p e below T20 m 39 #[sI p1, sI 1, sR aB, sU, sU, sU] [(.ref aA)] _
      refine XS.astoreN X20.here hx rfl (hb hby at_39) rfl rfl (l' := #[sI p1, sI 1, sR aB, sR aA, sU, sU]) rfl ?_
      show own_S p e below T20 m 40 #[sI p1, sI 1, sR aB, sR aA, sU, sU] [] _
      refine XS.aloadN X20.here hx rfl (hb hby at_40) rfl rfl ?_
      exact k)
    obtain ⟨cq22, kq22, q22a, q22b, q22c⟩ := isOf hZ e20 E_aB
    obtain ⟨_, _, ⟨T22, L22, k22, n22⟩, -, X22, ⟨Lc22, hQ22, l22, y22, z22⟩, st22⟩ := X20.virtualBack hx (y := own_y0) (z := own_y0) hown (mvT hZ hw5) (mvT hZ hw6) (notFace_of_selects (args := #[]) (mvT hZ hw8)) (mvT hZ hw8) (mvT hZ hw7) (by decide) (backOf (W := 0) (own_rm1 l Z a0 hw [] aB aA aB h0 n0 Z0 S_A S_B) hZ hw9 hw1 (by decide) (by decide)) q22a q22c (g := (mkF m 41 #[sI p1, sI 1, sR aB, sR aA, sU, sU] [(.ref aB)])) rfl (by rw [hml]; rfl) (Steps.refl _) (argsL := []) (rest := []) (lenOf own_pd_0 rfl) rfl (by show 2 * 0 + _ ≤ _; exact Nat.le_of_eq rfl) (hb hby at_41) (fun _ _ => ⟨rfl, e20, (by decide : 0 + 0 ≤ _), (by decide : 0 + 0 ≤ _)⟩)
    dsimp only [Pt.U, Pt.locs, Pt.cells, Pt.slots] at X22 l22 y22 z22 st22 hQ22
    subst l22 y22 z22
    obtain ⟨rfl, N22q, eh22⟩ := hQ22
    have N22 := Fr.app N0 N22q
    have pre23 : ∀ t, own_S p e below T22 m 44 #[sI p1, sI 1, sR aB, sR aA, sU, sU] [(.ref (if aB = aA then aB else aA))] t → R0 t := fun t k => pre21 t (by
      refine st22.trans ?_
      exact k)
    have rq24 : (if aB = aA then aB else aA) = aA := if_neg (Ne.symm ne_aA_aB)
    have pre25 : ∀ t, own_S p e below T22 m 44 #[sI p1, sI 1, sR aB, sR aA, sU, sU] [(.ref aA)] t → R0 t := fun t k => pre23 t (by rw [rq24]; exact k)
    have pre26 : ∀ t, own_S p e below T22 m 55 #[sI p1, sI 1, sR aB, sR aA, sR aA, sU] [(.ref aA)] t → R0 t := fun t k => pre25 t (by
      refine XS.astore X22.here hx rfl (hb hby at_44) rfl rfl (l' := #[sI p1, sI 1, sR aB, sR aA, sR aA, sU]) rfl ?_
      show own_S p e below T22 m 46 #[sI p1, sI 1, sR aB, sR aA, sR aA, sU] [] _
      refine XS.aload X22.here hx rfl (hb hby at_46) rfl rfl ?_
      show own_S p e below T22 m 48 #[sI p1, sI 1, sR aB, sR aA, sR aA, sU] [(.ref aA)] _
      refine XS.ifnonnullYes X22.here hx rfl (pc0 := 48) (pc' := 53) rfl (hb hby at_48) rfl (by decide) (by decide) ?_
      show own_S p e below T22 m 53 #[sI p1, sI 1, sR aB, sR aA, sR aA, sU] [] _
      refine XS.aload X22.here hx rfl (hb hby at_53) rfl rfl ?_
      exact k)
    obtain ⟨cq27, kq27, q27a, q27b, q27c⟩ := isOf hZ eh22 E_aA
    obtain ⟨_, _, ⟨T27, L27, k27, n27⟩, -, X27, ⟨Lc27, hQ27, l27, y27, z27⟩, st27⟩ := X22.virtualBack hx (y := own_y0) (z := own_y0) hown (mvT hZ hw5) (mvT hZ hw6) (notFace_of_selects (args := #[]) (mvT hZ hw8)) (mvT hZ hw8) (mvT hZ hw7) (by decide) (backOf (W := 0) (own_rm1 l Z a0 hw [] aA aA aB h0 n0 Z0 S_A S_B) hZ hw9 hw1 (by decide) (by decide)) q27a q27c (g := (mkF m 55 #[sI p1, sI 1, sR aB, sR aA, sR aA, sU] [(.ref aA)])) rfl (by rw [hml]; rfl) (Steps.refl _) (argsL := []) (rest := []) (lenOf own_pd_0 rfl) rfl (by show 2 * 0 + _ ≤ _; exact Nat.le_of_eq rfl) (hb hby at_55) (fun _ _ => ⟨rfl, eh22, (by decide : 0 + 0 ≤ _), (by decide : 0 + 0 ≤ _)⟩)
    dsimp only [Pt.U, Pt.locs, Pt.cells, Pt.slots] at X27 l27 y27 z27 st27 hQ27
    subst l27 y27 z27
    obtain ⟨rfl, N27q, eh27⟩ := hQ27
    have N27 := Fr.app N22 N27q
    have pre28 : ∀ t, own_S p e below T27 m 58 #[sI p1, sI 1, sR aB, sR aA, sR aA, sU] [(.ref (if aA = aA then aB else aA))] t → R0 t := fun t k => pre26 t (by
      refine st27.trans ?_
      exact k)
    have rq29 : (if aA = aA then aB else aA) = aB := if_pos rfl
    have pre30 : ∀ t, own_S p e below T27 m 58 #[sI p1, sI 1, sR aB, sR aA, sR aA, sU] [(.ref aB)] t → R0 t := fun t k => pre28 t (by rw [rq29]; exact k)
    have pre31 : ∀ t, own_S p e below T27 m 83 #[sI p1, sI 1, sR aB, sR aA, sR aA, sR aB] [(.int 1)] t → R0 t := fun t k => pre30 t (by
      refine XS.astore X27.here hx rfl (hb hby at_58) rfl rfl (l' := #[sI p1, sI 1, sR aB, sR aA, sR aA, sR aB]) rfl ?_
      show own_S p e below T27 m 60 #[sI p1, sI 1, sR aB, sR aA, sR aA, sR aB] [] _
      refine XS.aload X27.here hx rfl (hb hby at_60) rfl rfl ?_
      show own_S p e below T27 m 62 #[sI p1, sI 1, sR aB, sR aA, sR aA, sR aB] [(.ref aA)] _
      refine XS.aloadN X27.here hx rfl (hb hby at_62) rfl rfl ?_
      show own_S p e below T27 m 63 #[sI p1, sI 1, sR aB, sR aA, sR aA, sR aB] [(.ref aA), (.ref aA)] _
      refine Jvm.RoadKit.acmp (g := (mkF m 63 #[sI p1, sI 1, sR aB, sR aA, sR aA, sR aB] [(.ref aA), (.ref aA)])) X27 hx rfl rfl rfl (pc0 := 63) (pc' := 66) (same := true) rfl (hb hby at_63) rfl (decide_eq_true rfl) (by decide) (by decide) ?_
      show own_S p e below T27 m 66 #[sI p1, sI 1, sR aB, sR aA, sR aA, sR aB] [] _
      refine XS.aload X27.here hx rfl (hb hby at_66) rfl rfl ?_
      show own_S p e below T27 m 68 #[sI p1, sI 1, sR aB, sR aA, sR aA, sR aB] [(.ref aA)] _
      refine XS.aloadN X27.here hx rfl (hb hby at_68) rfl rfl ?_
      show own_S p e below T27 m 69 #[sI p1, sI 1, sR aB, sR aA, sR aA, sR aB] [(.ref aB), (.ref aA)] _
      refine Jvm.RoadKit.acmp (g := (mkF m 69 #[sI p1, sI 1, sR aB, sR aA, sR aA, sR aB] [(.ref aB), (.ref aA)])) X27 hx rfl rfl rfl (pc0 := 69) (pc' := 72) (same := false) rfl (hb hby at_69) rfl (decide_eq_false fun q => ne_aA_aB (Value.ref.inj q)) (by decide) (by decide) ?_
      show own_S p e below T27 m 72 #[sI p1, sI 1, sR aB, sR aA, sR aA, sR aB] [] _
      refine XS.aload X27.here hx rfl (hb hby at_72) rfl rfl ?_
      show own_S p e below T27 m 74 #[sI p1, sI 1, sR aB, sR aA, sR aA, sR aB] [(.ref aB)] _
      refine XS.aloadN X27.here hx rfl (hb hby at_74) rfl rfl ?_
      show own_S p e below T27 m 75 #[sI p1, sI 1, sR aB, sR aA, sR aA, sR aB] [(.ref aB), (.ref aB)] _
      refine Jvm.RoadKit.acmp (g := (mkF m 75 #[sI p1, sI 1, sR aB, sR aA, sR aA, sR aB] [(.ref aB), (.ref aB)])) X27 hx rfl rfl rfl (pc0 := 75) (pc' := 78) (same := true) rfl (hb hby at_75) rfl (decide_eq_true rfl) (by decide) (by decide) ?_
      show own_S p e below T27 m 78 #[sI p1, sI 1, sR aB, sR aA, sR aA, sR aB] [] _
      refine XS.iconst X27.here hx rfl (hb hby at_78) ?_
      show own_S p e below T27 m 79 #[sI p1, sI 1, sR aB, sR aA, sR aA, sR aB] [(.int 1)] _
      refine XS.goto X27.here hx rfl (pc0 := 79) (pc' := 83) rfl (hb hby at_79) (by decide) (by decide) ?_
      exact k)
    obtain ⟨fs, hr, hrun, hended, hW, hsame⟩ := X27.leave (v := some (.int 1)) (fun h => by rw [Bd.returns] at h; cases h)
    refine ⟨_, _, cast (congrFun hR0 _) (pre31 _ (retN X27 hx (t := .boolean) Bd.returns (by simp) (hb hby at_83) hr)), hrun, hended, _, _, rfl, ?_, ⟨_, rfl⟩, hW, hsame.mono (by decide) (by decide)⟩
    show own_Q0 Z _ _ _ h0 n0 _ T27.heap _
    rw [eh27]
    exact ⟨rfl, N27⟩
theorem own_ne_ord {Z : State} {h : Heap} {a b : Addr} {C n d : String} {x y : Int32} (F : Fld Z h a C n d (.int x)) (G : Fld Z h b C n d (.int y)) (q : x ≠ y) : a ≠ b := Fld.ne F G fun e => q (Value.int.inj e)
theorem own_eq_int {t : Term} {args : Array Value} {s : State} {n : Int32} (h : (Jvm.Cond.eq t (.int n)).value args s none s [] = some true) : t.eval args s none [] s = some (.int n) := Cond.eq_int (Cond.before_iff.mpr h) rfl
set_option maxRecDepth 65536 in
set_option maxHeartbeats 40000000 in
theorem own_comes {Post : Tables → Env → Array Value → State → Outcome → State → Prop} (hpost : ∀ tb e args s v u, (limb_1_1.after args s (.returned v) u = true ∧ limb_1_2.after args s (.returned v) u = true ∧ True) → FrameEnd s (.returned v) u (Jvm.fieldLocs frame_1_writes args s ++ Jvm.arrayLocs frame_1_arrays args s ++ Jvm.staticLocs frame_1_statics s) 0 0 → Post tb e args s (.returned v) u) :
    ArmFor flags0 classFile x code maxLocals ret World_1 tables_1 room_1 Calls_1 rest_1 Pre_1 Post := by
  intro l hfl _ _ p e ha hc hk s m args below hf hA hF happ hP
  obtain ⟨hcalls, hrest, hpre⟩ := hP
  obtain ⟨-, -, -, hnamed, -, -, -, hat⟩ := (Spec.applies_iff hf).mp happ
  obtain ⟨hg, hn⟩ := and_e (Cond.before_iff.mp (show (Jvm.Cond.and given_1 narrow_1).before args s = true from hpre))
  obtain ⟨hcount, hg0⟩ := and_e hg
  have ha0 := hg0
  obtain ⟨w0, rfl⟩ : ∃ w0 : Value, args = #[w0] := by
    have hs : args.size = 1 := by simpa [Cond.value, given_1] using hcount
    obtain ⟨L⟩ := args
    match L, hs with
    | [w0], _ => exact ⟨w0, rfl⟩
  have hw := fun d (hd : d ∈ tables_1) => atoms_spec (ws := Jvm.Cond.code x code maxLocals ret :: tables_1) hat d (List.mem_cons_of_mem _ hd)
  have hfit : Fit s := fun {y c} hc i hi => by
    obtain ⟨ha, rfl⟩ := Array.getElem?_eq_some_iff.mp hc
    have q := List.all_eq_true.mp ((Array.all_eq_true_iff_forall_mem.mp hF) _ (Array.getElem_mem ha)) i (List.mem_range.mpr hi)
    simpa [Array.getElem?_eq_getElem hi] using q
  obtain ⟨i0, ei0⟩ := is_v ha0
  obtain rfl : w0 = (.int i0) := Option.some.inj ei0
  obtain ⟨n1, n2⟩ := and_e hn
  obtain ⟨n3, n4⟩ := and_e n2
  obtain ⟨n5, n6⟩ := and_e n4
  obtain ⟨xA, eA⟩ := exa_v n1
  obtain ⟨xB, eB⟩ := exa_v n3
  have EA := Exa.start eA n1
  have EB := Exa.start eB n3
  have TA := Sta.start eA (Or.inr ⟨(hw _ (List.mem_of_getElem? (i := 1) rfl)), (hw _ (List.mem_of_getElem? (i := 2) rfl))⟩)
  have TB := Sta.start eB (Or.inr ⟨(hw _ (List.mem_of_getElem? (i := 1) rfl)), (hw _ (List.mem_of_getElem? (i := 4) rfl))⟩)
  have FB := Fld.start ((fld_at eB).symm.trans (own_eq_int n5))
  have FA := Fld.start ((fld_at eA).symm.trans (own_eq_int n6))
  obtain ⟨n, o, h1, h2, h3, _, L, rfl, ⟨rfl, N⟩, hq⟩ := own_rm0 l s _ hw tables_1 i0 xA xB s.heap s.heap.size (Nat.le_refl _) EA EB TA TB (own_ne_ord FA FB (by decide)) p e ha hc hk s m _ below hf ((Spec.applies_iff_loose hf).mp happ).1 ⟨rfl, State.Warmed39.refl s, rfl⟩ trivial
  refine ⟨n, _, h1, h2, h3, hpost _ _ _ _ _ _ ⟨Cond.after_iff.mpr rfl, Cond.after_iff.mpr (eq_i res_at (Term.int_eval (1)) rfl), trivial⟩ ⟨hq.1, hq.2.1, (hq.2.2.sift fun y hy => Or.inr (N y hy)).mono (by decide) (by decide)⟩⟩
theorem main_1_1 : Claimed_1_1 := own_comes fun _ _ _ _ _ _ h hF => ⟨h.1, hF⟩
theorem main_1_2 : Claimed_1_2 := own_comes fun _ _ _ _ _ _ h hF => ⟨h.2.1, hF⟩
end Jvm.Pilot.@@N@@
namespace Jvm.Pilot.@@N@@
open Jvm Jvm.ClassFile Sem Op Lib Jvm.Free Jvm.Stand Jvm.Pilot.@@N@@.Jvm.D
/-! MADE BY PROGRAM (witnessworld.py) out of the Statement's table words and the real class files: 12 classes; the members and pool entries that the words name. The judged class is class 1, her method 1. -/
namespace start1
open Jvm.ClassFile
def u (s : String) : CpInfo := .utf8 (stringToUtf16 s)
/-- a pool by its gaps: so many unusable entries, then the entry; so many at the end -/
def gap : Nat → List CpInfo → List CpInfo
  | 0, r => r
  | n + 1, r => .unusable :: gap n r
def poolList (es : List (Nat × CpInfo)) (last : Nat) : List CpInfo := es.foldr (fun e r => gap e.1 (e.2 :: r)) (gap last [])
def pool (es : List (Nat × CpInfo)) (last : Nat) : Array CpInfo := ⟨poolList es last⟩
def fileOf (pool : Array CpInfo) (this : Nat) (attrs : Array Attribute := #[]) (ms : Array MethodInfo := #[]) (fl : Nat := 33) (sup : Nat := 0) (ifs : Array Nat := #[]) (fds : Array FieldInfo := #[]) : ClassFile where
  minorVersion := 0
  majorVersion := 65
  constantPool := pool
  accessFlags := fl
  thisClass := this
  superClass := sup
  interfaces := ifs
  fields := fds
  methods := ms
  attributes := attrs
def plain (name : String) (sup : Option ClassId) : Class where
  name := name
  kind := .ordinary
  loader := none
  accessFlags := 33
  super := sup
  interfaces := #[]
  cf := none
  fields := #[]
  methods := #[]
  instanceTypes := #[]
  staticTypes := #[]
  resolved := #[]
  callSites := []
  init := .initialized
  statics := none
  mirror := none

def pool0 : Array CpInfo := pool [(5, u "<init>"), (0, u "()V"), (1, .class_ 10), (1, u "java/lang/Object")] 113

def k0m0 : Method := { name := "<init>", desc := "()V", sig := { parameters := [], returnType := none }, accessFlags := 1, code := none }
/-- java/lang/Object -/
def k0 : Class := { plain "java/lang/Object" none with
  accessFlags := 33
  interfaces := #[]
  cf := some (fileOf pool0 8 #[] #[{ accessFlags := 1, nameIndex := 5, descriptorIndex := 6, attributes := #[] }] 33 0 #[] #[])
  fields := #[]
  methods := #[k0m0]
  instanceTypes := #[]
  staticTypes := #[]
  resolved := Array.replicate 124 none
  statics := none }

def pool1 : Array CpInfo := pool [(2, .class_ 4), (1, u "java/lang/Object"), (0, u "<init>"), (0, u "()V"), (0, .fieldref 8 9), (0, .class_ 10), (0, .nameAndType 11 12), (0, u "com/example/tablier/tablier/arena/Match$Side"), (0, u "B"), (0, u "Lcom/example/tablier/tablier/arena/Match$Side;"), (0, .fieldref 8 14), (0, .nameAndType 15 12), (0, u "A"), (0, .methodref 8 17), (0, .nameAndType 18 19), (0, u "other"), (0, u "()Lcom/example/tablier/tablier/arena/Match$Side;"), (0, .class_ 21), (0, u "com/example/tablier/tablier/arena/SideOtherPinLaw"), (2, u "law"), (0, u "(I)Z")] 7

def k1m0 : Method := { name := "<init>", desc := "()V", sig := { parameters := [], returnType := none }, accessFlags := 2, code := none }
def k1c1 : Code := { maxStack := 2, maxLocals := 6, code := code, exceptionTable := #[], attributes := #[] }
def k1m1 : Method := { name := "law", desc := "(I)Z", sig := { parameters := [.int], returnType := some .boolean }, accessFlags := 9, code := some k1c1 }
/-- com/example/tablier/tablier/arena/SideOtherPinLaw -/
def k1 : Class := { plain "com/example/tablier/tablier/arena/SideOtherPinLaw" (some 0) with
  accessFlags := 49
  interfaces := #[]
  cf := some (fileOf pool1 20 #[] #[{ accessFlags := 2, nameIndex := 5, descriptorIndex := 6, attributes := #[] }, { accessFlags := 9, nameIndex := 24, descriptorIndex := 25, attributes := #[] }] 49 2 #[] #[])
  fields := #[]
  methods := #[k1m0, k1m1]
  instanceTypes := #[]
  staticTypes := #[]
  resolved := Array.replicate 33 none
  statics := none }

def pool2 : Array CpInfo := pool [(1, .class_ 2), (0, u "java/lang/constant/Constable"), (0, .class_ 4), (0, u "java/lang/Object")] 6

/-- java/lang/constant/Constable -/
def k2 : Class := { plain "java/lang/constant/Constable" (some 0) with
  accessFlags := 1537
  interfaces := #[]
  cf := some (fileOf pool2 1 #[] #[] 1537 3 #[] #[])
  fields := #[]
  methods := #[]
  instanceTypes := #[]
  staticTypes := #[]
  resolved := Array.replicate 11 none
  statics := none }

def pool3 : Array CpInfo := pool [(1, .class_ 2), (0, u "java/lang/Comparable"), (0, .class_ 4), (0, u "java/lang/Object")] 7

/-- java/lang/Comparable -/
def k3 : Class := { plain "java/lang/Comparable" (some 0) with
  accessFlags := 1537
  interfaces := #[]
  cf := some (fileOf pool3 1 #[] #[] 1537 3 #[] #[])
  fields := #[]
  methods := #[]
  instanceTypes := #[]
  staticTypes := #[]
  resolved := Array.replicate 12 none
  statics := none }

def pool4 : Array CpInfo := pool [(1, .class_ 2), (0, u "java/io/Serializable"), (0, .class_ 4), (0, u "java/lang/Object")] 2

/-- java/io/Serializable -/
def k4 : Class := { plain "java/io/Serializable" (some 0) with
  accessFlags := 1537
  interfaces := #[]
  cf := some (fileOf pool4 1 #[] #[] 1537 3 #[] #[])
  fields := #[]
  methods := #[]
  instanceTypes := #[]
  staticTypes := #[]
  resolved := Array.replicate 7 none
  statics := none }

def pool5 : Array CpInfo := pool [(2, .class_ 4), (1, u "java/lang/Enum"), (0, u "name"), (0, u "Ljava/lang/String;"), (2, u "ordinal"), (0, u "I"), (1, .class_ 14), (1, u "java/lang/Object"), (4, u "hash"), (86, .class_ 108), (1, u "java/lang/Enum$EnumDesc"), (2, .class_ 112), (0, u "java/lang/constant/Constable"), (0, .class_ 114), (0, u "java/lang/Comparable"), (0, .class_ 116), (0, u "java/io/Serializable")] 87

/-- java/lang/Enum -/
def k5 : Class := { plain "java/lang/Enum" (some 0) with
  accessFlags := 1057
  interfaces := #[2, 3, 4]
  cf := some (fileOf pool5 2 #[.nestMembers #[106]] #[] 1057 12 #[111, 113, 115] #[{ accessFlags := 18, nameIndex := 5, descriptorIndex := 6, attributes := #[] }, { accessFlags := 18, nameIndex := 9, descriptorIndex := 10, attributes := #[] }, { accessFlags := 2, nameIndex := 19, descriptorIndex := 10, attributes := #[] }])
  fields := #[{ name := "name", type := (.object "java/lang/String"), accessFlags := 18, slot := 0, constantValue := 0 }, { name := "ordinal", type := .int, accessFlags := 18, slot := 1, constantValue := 0 }, { name := "hash", type := .int, accessFlags := 2, slot := 2, constantValue := 0 }]
  methods := #[]
  instanceTypes := #[(.object "java/lang/String"), .int, .int]
  staticTypes := #[]
  resolved := Array.replicate 204 none
  statics := none }

def pool6 : Array CpInfo := pool [(1, .class_ 2), (0, u "com/example/tablier/tablier/arena/Match$Side"), (0, .fieldref 1 4), (0, .nameAndType 5 6), (0, u "A"), (0, u "Lcom/example/tablier/tablier/arena/Match$Side;"), (0, .fieldref 1 8), (0, .nameAndType 9 6), (0, u "B"), (2, u "$VALUES"), (0, u "[Lcom/example/tablier/tablier/arena/Match$Side;"), (6, .class_ 22), (1, u "java/lang/Enum"), (20, u "other"), (0, u "()Lcom/example/tablier/tablier/arena/Match$Side;"), (6, .class_ 52), (0, u "com/example/tablier/tablier/arena/Match")] 2

def k6c0 : Code := { maxStack := 2, maxLocals := 1, code := prog_11_method_4_code, exceptionTable := #[], attributes := #[] }
def k6m0 : Method := { name := "other", desc := "()Lcom/example/tablier/tablier/arena/Match$Side;", sig := { parameters := [], returnType := some (.object "com/example/tablier/tablier/arena/Match$Side") }, accessFlags := 0, code := some k6c0 }
/-- com/example/tablier/tablier/arena/Match$Side -/
def k6 : Class := { plain "com/example/tablier/tablier/arena/Match$Side" (some 5) with
  accessFlags := 16433
  interfaces := #[]
  cf := some (fileOf pool6 1 #[.nestHost 51] #[{ accessFlags := 0, nameIndex := 43, descriptorIndex := 44, attributes := #[] }] 16433 20 #[] #[{ accessFlags := 16409, nameIndex := 5, descriptorIndex := 6, attributes := #[] }, { accessFlags := 16409, nameIndex := 9, descriptorIndex := 6, attributes := #[] }, { accessFlags := 4122, nameIndex := 12, descriptorIndex := 13, attributes := #[] }])
  fields := #[{ name := "A", type := (.object "com/example/tablier/tablier/arena/Match$Side"), accessFlags := 16409, slot := 0, constantValue := 0 }, { name := "B", type := (.object "com/example/tablier/tablier/arena/Match$Side"), accessFlags := 16409, slot := 1, constantValue := 0 }, { name := "$VALUES", type := (.array (.object "com/example/tablier/tablier/arena/Match$Side")), accessFlags := 4122, slot := 2, constantValue := 0 }]
  methods := #[k6m0]
  instanceTypes := #[(.object "java/lang/String"), .int, .int]
  staticTypes := #[(.object "com/example/tablier/tablier/arena/Match$Side"), (.object "com/example/tablier/tablier/arena/Match$Side"), (.array (.object "com/example/tablier/tablier/arena/Match$Side"))]
  resolved := Array.replicate 55 none
  statics := some 0 }

def pool7 : Array CpInfo := pool [(1, u "java/lang/Cloneable"), (0, .class_ 1), (0, u "java/lang/Object"), (0, .class_ 3)] 3

/-- java/lang/Cloneable -/
def k7 : Class := { plain "java/lang/Cloneable" (some 0) with
  accessFlags := 1537
  interfaces := #[]
  cf := some (fileOf pool7 2 #[] #[] 1537 4 #[] #[])
  fields := #[]
  methods := #[]
  instanceTypes := #[]
  staticTypes := #[]
  resolved := Array.replicate 8 none
  statics := none }

/-- the primitive byte -/
def k8 : Class := { plain "byte" none with kind := .primitive 'B', accessFlags := 0x411 }
/-- [B -/
def k9 : Class := { plain "[B" (some 0) with kind := .array 8 .byte, interfaces := #[7, 4], accessFlags := 1041 }

/-- the primitive int -/
def k10 : Class := { plain "int" none with kind := .primitive 'I', accessFlags := 0x411 }
/-- [I -/
def k11 : Class := { plain "[I" (some 0) with kind := .array 10 .int, interfaces := #[7, 4], accessFlags := 1041 }

def heap : Heap := #[{ cls := 6, slots := #[.ref 1, .ref 2, .null], vm := .statics 6 },
  { cls := 6, slots := #[.null, .int 0, .int 0], vm := .none },
  { cls := 6, slots := #[.null, .int 1, .int 0], vm := .none }]
def classes : Array Class := #[k0, k1, k2, k3, k4, k5, k6, k7, k8, k9, k10, k11]
def interned : List (Array UInt16 × Addr) := []
def slotsUsed : Nat := 9
def theMethod : MethodId := ⟨1, 1⟩
def args0 : Array Value := #[.int 5]
def aboutOver (below : List Frame) : State where
  vm := { classes := classes, interned := interned.toArray }
  heap := heap
  slotsUsed := slotsUsed
  threads := #[{ frames := .invoking theMethod args0 :: below }]
def below0 : List Frame := [.native { method := ⟨0, 0⟩, args := #[] }]
def about1 : State := aboutOver below0
def p0 : Program := .bare "" "" ""
def e0 : Env := launch0.env 0 0 0
theorem w_frames : about1.frames = Frame.invoking theMethod args0 :: below0 := rfl
set_option maxRecDepth 65536 in
theorem w_args : argsFit about1.vm theMethod args0 = true := by decide +kernel
set_option maxRecDepth 65536 in
theorem w_heap : heapFits about1 = true := by decide +kernel
set_option maxRecDepth 65536 in
theorem w_runnable : about1.curStatus? = some .runnable := by decide +kernel
set_option maxRecDepth 65536 in
theorem w_alone : about1.alone = true := by decide +kernel
set_option maxRecDepth 65536 in
theorem w_named : about1.methodNamed? x = some theMethod := by decide +kernel
set_option maxRecDepth 65536 in
theorem w_hears : about1.hears theMethod below0 = true := by decide +kernel
set_option maxRecDepth 65536 in
theorem w_ripe : about1.ripe theMethod args0 below0 = true := by decide +kernel
theorem w_running : about1.status = .running := rfl
set_option maxRecDepth 65536 in
theorem w_room : about1.hasRoom e0.platform room_1 = true :=
  launch0.hasRoom_least _ room_1 (by decide +kernel) (by decide +kernel) (by decide +kernel) (by decide +kernel) (by decide +kernel) (by decide +kernel)
theorem allAtoms_all (ts : List Jvm.Cond) (a : Array Jvm.Value) (st : Jvm.State) : (allAtoms ts).before a st = ts.all (fun c => c.before a st) := by
  induction ts with
  | nil => rfl
  | cons c t ih =>
    show (Jvm.Cond.and c (allAtoms t)).before a st = _
    rw [Jvm.Cond.before_and, ih, List.all_cons]
def words1 : List Jvm.Cond := Jvm.Cond.code x code maxLocals ret :: tables_1
/-- a 'code' word, met by the world's own term for the bytes: nothing is compared byte by byte -/
theorem code_word {y : MethodName} {bytes : ByteArray} {mx : Nat} {rt : Option FieldType} {a : Array Value} {s : State} {m : MethodId} {meth : Method} {c : Code} (h1 : s.methodNamed? y = some m) (h2 : s.vm.method? m = some meth) (h3 : meth.code = some c) (h4 : c.code = bytes)
    (h5 : (c.maxLocals == mx && c.exceptionTable.isEmpty && decide (c.maxStack ≤ mostOperands) && decide (meth.sig.returnType = rt) && !meth.locks && decide (parseMethodDescriptor y.desc = some meth.sig)) = true) : (Jvm.Cond.code y bytes mx rt).before a s = true := by
  simp only [Bool.and_eq_true, beq_iff_eq, Bool.not_eq_true', decide_eq_true_eq] at h5
  obtain ⟨⟨⟨⟨⟨g1, g2⟩, g3⟩, g4⟩, g5⟩, g6⟩ := h5
  simp [Cond.before, Cond.holds, Cond.value, h1, h2, h3, h4, g1, g2, g3, g4, g5, g6]
def isCode : Jvm.Cond → Bool
  | .code _ _ _ _ => true
  | _ => false
theorem all_split {L : List Jvm.Cond} {P : Jvm.Cond → Bool} (h1 : L.all (fun c => isCode c || P c) = true) (h2 : ∀ c ∈ L.filter isCode, P c = true) : L.all P = true := by
  refine List.all_eq_true.mpr fun c hc => ?_
  have h := List.all_eq_true.mp h1 c hc
  rcases Bool.eq_false_or_eq_true (isCode c) with hi | hi
  · exact h2 c (List.mem_filter.mpr ⟨hc, hi⟩)
  · simpa [hi] using h
set_option maxRecDepth 65536 in
theorem w_c0 : (Jvm.Cond.code x code maxLocals ret).before args0 about1 = true := code_word (m := ⟨1, 1⟩) (meth := k1m1) (c := k1c1) (by decide +kernel) rfl rfl rfl (by decide +kernel)
set_option maxRecDepth 65536 in
theorem w_c1 : (Jvm.Cond.code ({ cls := "com/example/tablier/tablier/arena/Match$Side", name := "other", desc := "()Lcom/example/tablier/tablier/arena/Match$Side;" } : Jvm.MethodName) prog_11_method_4_code (1 : Nat) (Option.some (Jvm.ClassFile.FieldType.object "com/example/tablier/tablier/arena/Match$Side"))).before args0 about1 = true := code_word (m := ⟨6, 0⟩) (meth := k6m0) (c := k6c0) (by decide +kernel) rfl rfl rfl (by decide +kernel)
def codes1 : List Jvm.Cond := [Jvm.Cond.code x code maxLocals ret, Jvm.Cond.code ({ cls := "com/example/tablier/tablier/arena/Match$Side", name := "other", desc := "()Lcom/example/tablier/tablier/arena/Match$Side;" } : Jvm.MethodName) prog_11_method_4_code (1 : Nat) (Option.some (Jvm.ClassFile.FieldType.object "com/example/tablier/tablier/arena/Match$Side"))]
set_option maxRecDepth 65536 in
theorem codes_eq : words1.filter isCode = codes1 := rfl
theorem w_codes : ∀ c ∈ words1.filter isCode, c.before args0 about1 = true := by
  rw [codes_eq]
  intro c hc
  simp only [codes1, List.mem_cons, List.not_mem_nil, or_false] at hc
  rcases hc with rfl | rfl
  · exact w_c0
  · exact w_c1
set_option maxRecDepth 65536 in
theorem w_t1 : words1.all (fun c => isCode c || c.before args0 about1) = true := by decide +kernel
theorem w_tables : (allAtoms (Jvm.Cond.code x code maxLocals ret :: tables_1)).before args0 about1 = true := by
  rw [allAtoms_all]
  show words1.all (fun c => c.before args0 about1) = true
  refine all_split ?_ w_codes
  rw [w_t1]
set_option maxRecDepth 65536 in
theorem w_case : (Jvm.Cond.and given_1 narrow_1).before args0 about1 = true := by decide +kernel
theorem w_applies : (headSpec (Jvm.Cond.code x code maxLocals ret :: tables_1) room_1).applies x e0.platform about1 = true :=
  (Spec.applies_iff w_frames).mpr ⟨w_running, w_runnable, w_alone, w_named, w_hears, w_ripe, w_room, w_tables⟩
theorem atStart : AtStart classFile x code maxLocals ret World_1 tables_1 room_1 Calls_1 rest_1 Pre_1 launch0 p0 e0 about1 theMethod args0 below0 :=
  ⟨lists_1, trivial, launch0.admits_env _ _ _, launch0.least_env, fairChoices_fair.cas, fairChoices_fair.clock, w_frames, w_args, w_heap, w_applies, trivial, trivial, w_case⟩
end start1
theorem witness_1 : WitnessClaimed_1 := ⟨start1.p0, start1.e0, start1.about1, start1.theMethod, start1.args0, start1.below0, start1.atStart⟩
end Jvm.Pilot.@@N@@
