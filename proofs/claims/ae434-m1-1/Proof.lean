import JvmDerived
import JvmDerived.Pilot.@@N@@Statement
import JvmDerived.Pilot.@@N@@Code
set_option linter.unusedVariables false
set_option linter.unusedSimpArgs false
namespace Jvm.Pilot.@@N@@
open Jvm Jvm.ClassFile Sem Op Lib Jvm.Free Jvm.Stand Jvm.LawKit Jvm.RoadKit Bundle Jvm.Pilot.@@N@@.Jvm.D
abbrev sI (x : Int32) : Slot := .val (.int x)
abbrev sJ (x : Int64) : Slot := .val (.long x)
abbrev sR (a : Addr) : Slot := .val (.ref a)
abbrev sN : Slot := .val .null
abbrev sU : Slot := .unset
abbrev sW : Slot := .second
abbrev own_S (p : Program) (e : Env) (below : List Frame) (T : State) (m : MethodId) (pc : Nat) (L : Array Slot) (S : List Value) (t : State) : Prop := Steps p.tables e below (T.setTop (mkF m pc L S)) t
theorem own_d2_0 : decode jdk_30_method_1_code 0 = .ok (.aload_n 0, 1) := by decide +kernel
theorem own_d2_1 : decode jdk_30_method_1_code 1 = .ok (.invokespecial 1, 3) := by decide +kernel
theorem own_d2_4 : decode jdk_30_method_1_code 4 = .ok (.return_, 1) := by decide +kernel
theorem own_pn_0 : plainName "java/lang/Record" = true := by first | (simp [plainName, overriddenIn]; done) | decide +kernel
theorem own_ef_2 (m : MethodId) (x0 : Addr) : entryFrame m #[(.ref x0)] 1 = mkF m 0 #[sR x0] [] := by first | (simp [entryFrame, mkF, argsToLocals, Value.category]; done) | rfl
def own_Q2 (Z : State) (a1 : Addr) (h0 : Heap) (n0 : Nat) (v : Option Value) (h : Heap) (L : List Loc) : Prop := v = none ∧ Fr n0 L ∧ h = h0
abbrev own_y0 : MethodName := ⟨"java/lang/Record", "<init>", "()V"⟩
set_option maxRecDepth 65536 in
set_option maxHeartbeats 40000000 in
theorem own_rm2 (l : Launch) (Z : State) (a0 : Array Value) (hw : ∀ d ∈ tables_1, d.before a0 Z = true) (ws : List Jvm.Cond) (a1 : Addr) (h0 : Heap) (n0 : Nat) (Z0 : n0 ≤ h0.size)  :
    MetFree l own_y0 (head1 (Jvm.Cond.code own_y0 jdk_30_method_1_code 1 none :: ws) ({ frames := 1, cells := 0, slots := 0, locals := 12 } : Room)) (fun a U => a = #[(.ref a1)] ∧ Z.Warmed39 U.vm ∧ U.heap = h0) (fun _ _ _ _ _ => True) (fun _ U o U' => ∃ v L, o = .returned v ∧ own_Q2 Z a1 h0 n0 v U'.heap L ∧ FrameEnd U o U' L ({ frames := 1, cells := 0, slots := 0, locals := 12 } : Room).cells ({ frames := 1, cells := 0, slots := 0, locals := 12 } : Room).slots) := by
  refine MetFree.of_bodySF (plainFor_of_name own_pn_0) hisR ?_
  intro p e s m args below meth c s₁ Bd hml0 hP hK
  obtain ⟨rfl, hZ, hh⟩ := hP
  have hw12 := hw _ (List.mem_of_getElem? (i := 12) rfl)
  have hw13 := hw _ (List.mem_of_getElem? (i := 13) rfl)
  have hw14 := hw _ (List.mem_of_getElem? (i := 14) rfl)
  have hx := Bd.exec
  have hby := Bd.bytes
  have hml : c.maxLocals = 1 := hml0
  have hown : s.vm.findClass "java/lang/Record" = some m.cls := findClass_of_methodNamed Bd.named
  have hnm := (name_of_methodNamed Bd.named Bd.method).1
  have X0 : Stand p l e ({ frames := 1, cells := 0, slots := 0, locals := 12 } : Room) s m #[(.ref a1)] below meth c s₁ [] 0 0 := Stand.of_body Bd
  have e0 : s₁.heap = h0 := by rw [← hh, Bd.state]; rfl
  have N0 := Fr.nil n0
  obtain ⟨R0, hR0⟩ : ∃ R : State → Prop, R = fun t => Steps p.tables e below (s₁.setTop (entryFrame m #[(.ref a1)] 1)) t := ⟨_, rfl⟩
  have pre0 : ∀ t, Steps p.tables e below (s₁.setTop (mkF m 0 #[sR a1] [])) t → R0 t := fun t k => by rw [hR0]; exact castTop (own_ef_2 m a1) k
  have pre1 : ∀ t, own_S p e below s₁ m 1 #[sR a1] [(.ref a1)] t → R0 t := fun t k => pre0 t (by
    refine XS.aloadN X0.here hx rfl (hb hby own_d2_0) rfl rfl ?_
    exact k)
  obtain ⟨T2, X2, e2, st2⟩ := initO X0 hx hZ hown hw12 hw13 hw14 e0 (g := (mkF m 1 #[sR a1] [(.ref a1)])) rfl (by rw [hml]; rfl) rfl (hb hby own_d2_1) (by decide) (W := 0) (by show 2 * 0 + _ ≤ _; exact Nat.le_of_eq rfl) (by decide)
  have pre3 : ∀ t, own_S p e below T2 m 4 #[sR a1] [] t → R0 t := fun t k => pre1 t (by
    refine st2 _ ?_
    exact k)
  obtain ⟨fs, hr, hrun, hended, hW, hsame⟩ := X2.leave (v := none) (fun _ => rfl)
  refine ⟨_, _, cast (congrFun hR0 _) (pre3 _ (X2.returnOut hx Bd.returns (hb hby own_d2_4) hr)), hrun, hended, _, _, rfl, ?_, ⟨_, rfl⟩, hW, hsame.mono (by decide) (by decide)⟩
  show own_Q2 Z _ h0 n0 _ T2.heap _
  rw [e2]
  exact ⟨rfl, N0, rfl⟩
theorem own_pd_0 : parseMethodDescriptor "()V" = some ⟨[], none⟩ := by decide +kernel
theorem own_d1_0 : decode prog_214_method_1_code 0 = .ok (.aload_n 0, 1) := by decide +kernel
theorem own_d1_1 : decode prog_214_method_1_code 1 = .ok (.invokespecial 1, 3) := by decide +kernel
theorem own_d1_4 : decode prog_214_method_1_code 4 = .ok (.lload_n 1, 1) := by decide +kernel
theorem own_d1_5 : decode prog_214_method_1_code 5 = .ok (.lconst 0, 1) := by decide +kernel
theorem own_d1_6 : decode prog_214_method_1_code 6 = .ok (.lcmp, 1) := by decide +kernel
theorem own_d1_7 : decode prog_214_method_1_code 7 = .ok (.ifCond .ge 17, 3) := by decide +kernel
theorem own_d1_24 : decode prog_214_method_1_code 24 = .ok (.aload_n 0, 1) := by decide +kernel
theorem own_d1_25 : decode prog_214_method_1_code 25 = .ok (.lload_n 1, 1) := by decide +kernel
theorem own_d1_26 : decode prog_214_method_1_code 26 = .ok (.putfield 16, 3) := by decide +kernel
theorem own_d1_29 : decode prog_214_method_1_code 29 = .ok (.return_, 1) := by decide +kernel
theorem own_pn_1 : plainName "com/example/murmuration/murmuration/transport/LinkRate" = true := by first | (simp [plainName, overriddenIn]; done) | decide +kernel
theorem own_ef_1 (m : MethodId) (x0 : Addr) (x1 : Int64) : entryFrame m #[(.ref x0), (.long x1)] 3 = mkF m 0 #[sR x0, sJ x1, .second] [] := by first | (simp [entryFrame, mkF, argsToLocals, Value.category]; done) | rfl
def own_Q1 (Z : State) (a1 : Addr) (q2 : Int64) (u1 : Value) (h0 : Heap) (n0 : Nat) (v : Option Value) (h : Heap) (L : List Loc) : Prop := v = none ∧ Fr n0 L ∧ Keep h0 h [a1] ∧ Exa Z h a1 "com/example/murmuration/murmuration/transport/LinkRate" ∧ Fld Z h a1 "com/example/murmuration/murmuration/transport/LinkRate" "bitsPerSecond" "J" (.long q2)
abbrev own_y1 : MethodName := ⟨"com/example/murmuration/murmuration/transport/LinkRate", "<init>", "(J)V"⟩
set_option maxRecDepth 65536 in
set_option maxHeartbeats 40000000 in
theorem own_rm1 (l : Launch) (Z : State) (a0 : Array Value) (hw : ∀ d ∈ tables_1, d.before a0 Z = true) (ws : List Jvm.Cond) (a1 : Addr) (q2 : Int64) (u1 : Value) (h0 : Heap) (n0 : Nat) (Z0 : n0 ≤ h0.size) (E_a1 : Exa Z h0 a1 "com/example/murmuration/murmuration/transport/LinkRate") (F_bitsPerSecond_a1 : Fld Z h0 a1 "com/example/murmuration/murmuration/transport/LinkRate" "bitsPerSecond" "J" u1) (g_a1 : n0 ≤ a1) (hnn : ¬ (q2 < (0 : Int64))) :
    MetFree l own_y1 (head1 (Jvm.Cond.code own_y1 prog_214_method_1_code 3 none :: ws) ({ frames := 2, cells := 0, slots := 0, locals := 24 } : Room)) (fun a U => a = #[(.ref a1), (.long q2)] ∧ Z.Warmed39 U.vm ∧ U.heap = h0) (fun _ _ _ _ _ => True) (fun _ U o U' => ∃ v L, o = .returned v ∧ own_Q1 Z a1 q2 u1 h0 n0 v U'.heap L ∧ FrameEnd U o U' L ({ frames := 2, cells := 0, slots := 0, locals := 24 } : Room).cells ({ frames := 2, cells := 0, slots := 0, locals := 24 } : Room).slots) := by
  refine MetFree.of_bodySF (plainFor_of_name own_pn_1) hisR ?_
  intro p e s m args below meth c s₁ Bd hml0 hP hK
  obtain ⟨rfl, hZ, hh⟩ := hP
  have hw2 := hw _ (List.mem_of_getElem? (i := 2) rfl)
  have hw7 := hw _ (List.mem_of_getElem? (i := 7) rfl)
  have hw8 := hw _ (List.mem_of_getElem? (i := 8) rfl)
  have hw10 := hw _ (List.mem_of_getElem? (i := 10) rfl)
  have hw11 := hw _ (List.mem_of_getElem? (i := 11) rfl)
  have hw15 := hw _ (List.mem_of_getElem? (i := 15) rfl)
  have hw16 := hw _ (List.mem_of_getElem? (i := 16) rfl)
  have hx := Bd.exec
  have hby := Bd.bytes
  have hml : c.maxLocals = 3 := hml0
  have hown : s.vm.findClass "com/example/murmuration/murmuration/transport/LinkRate" = some m.cls := findClass_of_methodNamed Bd.named
  have hnm := (name_of_methodNamed Bd.named Bd.method).1
  have X0 : Stand p l e ({ frames := 2, cells := 0, slots := 0, locals := 24 } : Room) s m #[(.ref a1), (.long q2)] below meth c s₁ [] 0 0 := Stand.of_body Bd
  have e0 : s₁.heap = h0 := by rw [← hh, Bd.state]; rfl
  have N0 := Fr.nil n0
  obtain ⟨R0, hR0⟩ : ∃ R : State → Prop, R = fun t => Steps p.tables e below (s₁.setTop (entryFrame m #[(.ref a1), (.long q2)] 3)) t := ⟨_, rfl⟩
  have pre0 : ∀ t, Steps p.tables e below (s₁.setTop (mkF m 0 #[sR a1, sJ q2, sW] [])) t → R0 t := fun t k => by rw [hR0]; exact castTop (own_ef_1 m a1 q2) k
  have pre1 : ∀ t, own_S p e below s₁ m 1 #[sR a1, sJ q2, sW] [(.ref a1)] t → R0 t := fun t k => pre0 t (by
    refine XS.aloadN X0.here hx rfl (hb hby own_d1_0) rfl rfl ?_
    exact k)
  obtain ⟨_, _, ⟨T2, L2, k2, n2⟩, -, X2, ⟨Lc2, hQ2, l2, y2, z2⟩, st2⟩ := X0.specialBack hx (y := own_y0) rfl hown (mvT hZ hw7) (mvT hZ hw8) (mvT hZ hw11) (by decide) (backOf (W := 0) (own_rm2 l Z a0 hw [] a1 h0 n0 Z0 ) hZ hw11 hw10 (by decide) (by decide)) (g := (mkF m 1 #[sR a1, sJ q2, sW] [(.ref a1)])) rfl (by rw [hml]; rfl) (Steps.refl _) (a := a1) (argsL := []) (rest := []) (lenOf own_pd_0 rfl) rfl (by show 2 * 0 + _ ≤ _; exact Nat.le_of_eq rfl) (hb hby own_d1_1) (fun _ _ => ⟨rfl, e0, (by decide : 0 + 0 ≤ _), (by decide : 0 + 0 ≤ _)⟩)
  dsimp only [Pt.U, Pt.locs, Pt.cells, Pt.slots] at X2 l2 y2 z2 st2 hQ2
  subst l2 y2 z2
  obtain ⟨rfl, N2q, eh2⟩ := hQ2
  have N2 := Fr.app N0 N2q
  have pre3 : ∀ t, own_S p e below T2 m 7 #[sR a1, sJ q2, sW] [(.int (lcmpW q2 (0 : Int64)))] t → R0 t := fun t k => pre1 t (by
    refine st2.trans ?_
    show own_S p e below T2 m 4 #[sR a1, sJ q2, sW] [] _
    refine XS.lloadN X2.here hx rfl (hb hby own_d1_4) rfl ?_
    show own_S p e below T2 m 5 #[sR a1, sJ q2, sW] [(.long q2)] _
    refine XS.lconst X2.here hx rfl (hb hby own_d1_5) ?_
    show own_S p e below T2 m 6 #[sR a1, sJ q2, sW] [(.long 0), (.long q2)] _
    refine XS.lcmp X2.here hx rfl (hb hby own_d1_6) rfl ?_
    exact k)
  have hc4 : ¬ (q2 < (0 : Int64)) := hnn
  have pre5 : ∀ t, own_S p e below T2 m 26 #[sR a1, sJ q2, sW] [(.long q2), (.ref a1)] t → R0 t := fun t k => pre3 t (by
    refine XS.ifYes X2.here hx rfl (pc0 := 7) (pc' := 24) rfl (hb hby own_d1_7) rfl ((if0 _ _).trans (flt (mt (lw_lt _ _).mp hc4)).2.1) (by decide) (by decide) ?_
    show own_S p e below T2 m 24 #[sR a1, sJ q2, sW] [] _
    refine XS.aloadN X2.here hx rfl (hb hby own_d1_24) rfl rfl ?_
    show own_S p e below T2 m 25 #[sR a1, sJ q2, sW] [(.ref a1)] _
    refine XS.lloadN X2.here hx rfl (hb hby own_d1_25) rfl ?_
    exact k)
  obtain ⟨T6, h6, X6, e6, W6, st6⟩ := putF X2 hx hZ hown (host := "") (Or.inl hw15) Via.refl eh2 F_bitsPerSecond_a1 E_a1 (Or.inr ⟨hw16, rfl, hnm⟩) hw2 (ty := .long) (by decide) rfl rfl (g := (mkF m 26 #[sR a1, sJ q2, sW] [(.long q2), (.ref a1)])) rfl rfl (hb hby own_d1_26)
  have f7 := Nat.le_trans Z0 (Keep.of_wr W6).1
  have f8 := E_a1.wr W6
  have f9 := F_bitsPerSecond_a1.same W6
  have N10 := Fr.snoc X6 N2 g_a1
  have K11 : Keep h0 h6 [a1] := (Keep.refl h0 [a1]).wr W6 (Or.inl (List.mem_of_getElem? (i := 0) rfl))
  have pre12 : ∀ t, own_S p e below T6 m 29 #[sR a1, sJ q2, sW] [] t → R0 t := fun t k => pre5 t (by
    refine st6 _ ?_
    exact k)
  obtain ⟨fs, hr, hrun, hended, hW, hsame⟩ := X6.leave (v := none) (fun _ => rfl)
  refine ⟨_, _, cast (congrFun hR0 _) (pre12 _ (X6.returnOut hx Bd.returns (hb hby own_d1_29) hr)), hrun, hended, _, _, rfl, ?_, ⟨_, rfl⟩, hW, hsame.mono (by decide) (by decide)⟩
  show own_Q1 Z _ _ _ h0 n0 _ T6.heap _
  rw [e6]
  exact ⟨rfl, N10, K11, f8, f9⟩
theorem own_d4_0 : decode prog_214_method_3_code 0 = .ok (.aload_n 0, 1) := by decide +kernel
theorem own_d4_1 : decode prog_214_method_3_code 1 = .ok (.getfield 16, 3) := by decide +kernel
theorem own_d4_4 : decode prog_214_method_3_code 4 = .ok (.lconst 0, 1) := by decide +kernel
theorem own_d4_5 : decode prog_214_method_3_code 5 = .ok (.lcmp, 1) := by decide +kernel
theorem own_d4_6 : decode prog_214_method_3_code 6 = .ok (.ifCond .le 7, 3) := by decide +kernel
theorem own_d4_9 : decode prog_214_method_3_code 9 = .ok (.iconst 1, 1) := by decide +kernel
theorem own_d4_10 : decode prog_214_method_3_code 10 = .ok (.goto 4, 3) := by decide +kernel
theorem own_d4_13 : decode prog_214_method_3_code 13 = .ok (.iconst 0, 1) := by decide +kernel
theorem own_d4_14 : decode prog_214_method_3_code 14 = .ok (.ireturn, 1) := by decide +kernel
theorem own_ef_4 (m : MethodId) (x0 : Addr) : entryFrame m #[(.ref x0)] 1 = mkF m 0 #[sR x0] [] := by first | (simp [entryFrame, mkF, argsToLocals, Value.category]; done) | rfl
def own_Q4 (Z : State) (a1 : Addr) (w2 : Int64) (h0 : Heap) (n0 : Nat) (v : Option Value) (h : Heap) (L : List Loc) : Prop := v = some (.int (if (0 : Int64) < w2 then (1 : Int32) else 0)) ∧ Fr n0 L ∧ h = h0
abbrev own_y2 : MethodName := ⟨"com/example/murmuration/murmuration/transport/LinkRate", "isLimited", "()Z"⟩
set_option maxRecDepth 65536 in
set_option maxHeartbeats 40000000 in
theorem own_rm4 (l : Launch) (Z : State) (a0 : Array Value) (hw : ∀ d ∈ tables_1, d.before a0 Z = true) (ws : List Jvm.Cond) (a1 : Addr) (w2 : Int64) (h0 : Heap) (n0 : Nat) (Z0 : n0 ≤ h0.size) (F_bitsPerSecond_a1 : Fld Z h0 a1 "com/example/murmuration/murmuration/transport/LinkRate" "bitsPerSecond" "J" (.long w2)) :
    MetFree l own_y2 (head1 (Jvm.Cond.code own_y2 prog_214_method_3_code 1 (some .boolean) :: ws) ({ frames := 0, cells := 0, slots := 0, locals := 0 } : Room)) (fun a U => a = #[(.ref a1)] ∧ Z.Warmed39 U.vm ∧ U.heap = h0) (fun _ _ _ _ _ => True) (fun _ U o U' => ∃ v L, o = .returned v ∧ own_Q4 Z a1 w2 h0 n0 v U'.heap L ∧ FrameEnd U o U' L ({ frames := 0, cells := 0, slots := 0, locals := 0 } : Room).cells ({ frames := 0, cells := 0, slots := 0, locals := 0 } : Room).slots) := by
  refine MetFree.of_bodySF (plainFor_of_name own_pn_1) hisR ?_
  intro p e s m args below meth c s₁ Bd hml0 hP hK
  obtain ⟨rfl, hZ, hh⟩ := hP
  have hw15 := hw _ (List.mem_of_getElem? (i := 15) rfl)
  have hx := Bd.exec
  have hby := Bd.bytes
  have hml : c.maxLocals = 1 := hml0
  have hown : s.vm.findClass "com/example/murmuration/murmuration/transport/LinkRate" = some m.cls := findClass_of_methodNamed Bd.named
  have hnm := (name_of_methodNamed Bd.named Bd.method).1
  have X0 : Stand p l e ({ frames := 0, cells := 0, slots := 0, locals := 0 } : Room) s m #[(.ref a1)] below meth c s₁ [] 0 0 := Stand.of_body Bd
  have e0 : s₁.heap = h0 := by rw [← hh, Bd.state]; rfl
  have N0 := Fr.nil n0
  obtain ⟨R0, hR0⟩ : ∃ R : State → Prop, R = fun t => Steps p.tables e below (s₁.setTop (entryFrame m #[(.ref a1)] 1)) t := ⟨_, rfl⟩
  have pre0 : ∀ t, Steps p.tables e below (s₁.setTop (mkF m 0 #[sR a1] [])) t → R0 t := fun t k => by rw [hR0]; exact castTop (own_ef_4 m a1) k
  have pre1 : ∀ t, own_S p e below s₁ m 1 #[sR a1] [(.ref a1)] t → R0 t := fun t k => pre0 t (by
    refine XS.aloadN X0.here hx rfl (hb hby own_d4_0) rfl rfl ?_
    exact k)
  obtain ⟨T2, X2, e2, st2⟩ := getF X0 hx hZ hown (host := "") (Or.inl hw15) Via.refl e0 F_bitsPerSecond_a1 (g := (mkF m 1 #[sR a1] [(.ref a1)])) rfl rfl (hb hby own_d4_1)
  have pre3 : ∀ t, own_S p e below T2 m 6 #[sR a1] [(.int (lcmpW w2 (0 : Int64)))] t → R0 t := fun t k => pre1 t (by
    refine st2 _ ?_
    show own_S p e below T2 m 4 #[sR a1] [(.long w2)] _
    refine XS.lconst X2.here hx rfl (hb hby own_d4_4) ?_
    show own_S p e below T2 m 5 #[sR a1] [(.long 0), (.long w2)] _
    refine XS.lcmp X2.here hx rfl (hb hby own_d4_5) rfl ?_
    exact k)
  by_cases hc6 : (0 : Int64) < w2
  · have pre4 : ∀ t, own_S p e below T2 m 14 #[sR a1] [(.int 1)] t → R0 t := fun t k => pre3 t (by
      refine XS.ifNo X2.here hx rfl (hb hby own_d4_6) rfl ((if0 _ _).trans (tlt ((lw_gt _ _).mpr hc6)).2.2.2) ?_
      show own_S p e below T2 m 9 #[sR a1] [] _
      refine XS.iconst X2.here hx rfl (hb hby own_d4_9) ?_
      show own_S p e below T2 m 10 #[sR a1] [(.int 1)] _
      refine XS.goto X2.here hx rfl (pc0 := 10) (pc' := 14) rfl (hb hby own_d4_10) (by decide) (by decide) ?_
      exact k)
    obtain ⟨fs, hr, hrun, hended, hW, hsame⟩ := X2.leave (v := some (.int 1)) (fun h => by rw [Bd.returns] at h; cases h)
    refine ⟨_, _, cast (congrFun hR0 _) (pre4 _ (retN X2 hx (t := .boolean) Bd.returns (by simp) (hb hby own_d4_14) hr)), hrun, hended, _, _, rfl, ?_, ⟨_, rfl⟩, hW, hsame.mono (by decide) (by decide)⟩
    show own_Q4 Z _ _ h0 n0 _ T2.heap _
    rw [e2]
    exact ⟨(by rw [if_pos hc6]), N0, rfl⟩
  · have pre5 : ∀ t, own_S p e below T2 m 14 #[sR a1] [(.int 0)] t → R0 t := fun t k => pre3 t (by
      refine XS.ifYes X2.here hx rfl (pc0 := 6) (pc' := 13) rfl (hb hby own_d4_6) rfl ((if0 _ _).trans (flt (mt (lw_gt _ _).mp hc6)).2.2.2) (by decide) (by decide) ?_
      show own_S p e below T2 m 13 #[sR a1] [] _
      refine XS.iconst X2.here hx rfl (hb hby own_d4_13) ?_
      exact k)
    obtain ⟨fs, hr, hrun, hended, hW, hsame⟩ := X2.leave (v := some (.int 0)) (fun h => by rw [Bd.returns] at h; cases h)
    refine ⟨_, _, cast (congrFun hR0 _) (pre5 _ (retN X2 hx (t := .boolean) Bd.returns (by simp) (hb hby own_d4_14) hr)), hrun, hended, _, _, rfl, ?_, ⟨_, rfl⟩, hW, hsame.mono (by decide) (by decide)⟩
    show own_Q4 Z _ _ h0 n0 _ T2.heap _
    rw [e2]
    exact ⟨(by rw [if_neg hc6]), N0, rfl⟩
theorem own_pd_1 : parseMethodDescriptor "(J)V" = some ⟨[.long], none⟩ := by decide +kernel
theorem own_pd_2 : parseMethodDescriptor "()Z" = some ⟨[], some .boolean⟩ := by decide +kernel
theorem own_pn_2 : plainName "com/example/murmuration/murmuration/transport/LinkRateIsLimitedPinLaw" = true := by first | (simp [plainName, overriddenIn]; done) | decide +kernel
theorem own_ef_0 (m : MethodId) (x0 : Int64) : entryFrame m #[(.long x0)] maxLocals = mkF m 0 #[sJ x0, .second, .unset, .unset, .unset, .unset] [] := by first | (simp [entryFrame, mkF, argsToLocals, Value.category, maxLocals]; done) | rfl
def own_Q0 (Z : State) (q1 : Int64) (h0 : Heap) (n0 : Nat) (v : Option Value) (h : Heap) (L : List Loc) : Prop := v = some (.int 1) ∧ Fr n0 L
set_option maxRecDepth 65536 in
set_option maxHeartbeats 40000000 in
theorem own_rm0 (l : Launch) (Z : State) (a0 : Array Value) (hw : ∀ d ∈ tables_1, d.before a0 Z = true) (ws : List Jvm.Cond) (q1 : Int64) (h0 : Heap) (n0 : Nat) (Z0 : n0 ≤ h0.size)  :
    MetFree l x (head1 (Jvm.Cond.code x code maxLocals ret :: ws) room_1) (fun a U => a = #[(.long q1)] ∧ Z.Warmed39 U.vm ∧ U.heap = h0) (fun _ _ _ _ _ => True) (fun _ U o U' => ∃ v L, o = .returned v ∧ own_Q0 Z q1 h0 n0 v U'.heap L ∧ FrameEnd U o U' L room_1.cells room_1.slots) := by
  refine MetFree.of_bodySF (plainFor_of_name own_pn_2) hisR ?_
  intro p e s m args below meth c s₁ Bd hml0 hP hK
  obtain ⟨rfl, hZ, hh⟩ := hP
  have hw0 := hw _ (List.mem_of_getElem? (i := 0) rfl)
  have hw1 := hw _ (List.mem_of_getElem? (i := 1) rfl)
  have hw2 := hw _ (List.mem_of_getElem? (i := 2) rfl)
  have hw3 := hw _ (List.mem_of_getElem? (i := 3) rfl)
  have hw4 := hw _ (List.mem_of_getElem? (i := 4) rfl)
  have hw5 := hw _ (List.mem_of_getElem? (i := 5) rfl)
  have hw6 := hw _ (List.mem_of_getElem? (i := 6) rfl)
  have hw16 := hw _ (List.mem_of_getElem? (i := 16) rfl)
  have hw17 := hw _ (List.mem_of_getElem? (i := 17) rfl)
  have hw18 := hw _ (List.mem_of_getElem? (i := 18) rfl)
  have hw19 := hw _ (List.mem_of_getElem? (i := 19) rfl)
  have hw20 := hw _ (List.mem_of_getElem? (i := 20) rfl)
  have hw21 := hw _ (List.mem_of_getElem? (i := 21) rfl)
  have hx := Bd.exec
  have hby := Bd.bytes
  have hml : c.maxLocals = 6 := hml0
  have hown : s.vm.findClass "com/example/murmuration/murmuration/transport/LinkRateIsLimitedPinLaw" = some m.cls := findClass_of_methodNamed Bd.named
  have hnm := (name_of_methodNamed Bd.named Bd.method).1
  have X0 : Stand p l e room_1 s m #[(.long q1)] below meth c s₁ [] 0 0 := Stand.of_body Bd
  have e0 : s₁.heap = h0 := by rw [← hh, Bd.state]; rfl
  have N0 := Fr.nil n0
  obtain ⟨R0, hR0⟩ : ∃ R : State → Prop, R = fun t => Steps p.tables e below (s₁.setTop (entryFrame m #[(.long q1)] maxLocals)) t := ⟨_, rfl⟩
  have pre0 : ∀ t, Steps p.tables e below (s₁.setTop (mkF m 0 #[sJ q1, sW, sU, sU, sU, sU] [])) t → R0 t := fun t k => by rw [hR0]; exact castTop (own_ef_0 m q1) k
  have pre1 : ∀ t, own_S p e below s₁ m 5 #[sJ q1, sW, sU, sU, sU, sU] [(.long (q1 &&& (9223372036854775807 : Int64)))] t → R0 t := fun t k => pre0 t (by
    refine XS.lloadN X0.here hx rfl (hb hby at_0) rfl ?_
    show own_S p e below s₁ m 1 #[sJ q1, sW, sU, sU, sU, sU] [(.long q1)] _
    refine X0.ldc2Long hx hown (mvT hZ hw0) (g := (mkF m 1 #[sJ q1, sW, sU, sU, sU, sU] [(.long q1)])) rfl (hb hby at_1) _ ?_
    show own_S p e below s₁ m 4 #[sJ q1, sW, sU, sU, sU, sU] [(.long 9223372036854775807), (.long q1)] _
    refine XS.land X0.here hx rfl (hb hby at_4) rfl ?_
    exact k)
  obtain ⟨v2, hv2⟩ : ∃ z : Int64, z = (q1 &&& (9223372036854775807 : Int64)) := ⟨_, rfl⟩
  have pre2 : ∀ t, own_S p e below s₁ m 5 #[sJ q1, sW, sU, sU, sU, sU] [(.long v2)] t → R0 t := fun t k => pre1 t (by subst hv2; exact k)
  have b2 : 0 ≤ v2.toInt := by rw [hv2, c_maskL q1 9223372036854775807 63 (by decide) (by decide)]; exact Int.emod_nonneg _ (by decide)
  have pre3 : ∀ t, own_S p e below s₁ m 6 #[sJ q1, sW, sJ v2, sW, sU, sU] [] t → R0 t := fun t k => pre2 t (by
    refine XS.lstoreN X0.here hx rfl (hb hby at_5) rfl (l' := #[sJ q1, sW, sJ v2, sW, sU, sU]) rfl ?_
    exact k)
  obtain ⟨T4, h4, X4, e4, E4, A4, D4, -, st4⟩ := newO X0 hx hZ hown hw1 hw2 hw3 e0 (g := (mkF m 6 #[sJ q1, sW, sJ v2, sW, sU, sU] [])) rfl (hb hby at_6) (by decide) (by decide)
  obtain ⟨b4, g4⟩ : ∃ z, z = h0.size := ⟨_, rfl⟩
  rw [← g4] at A4 D4 st4
  have g_b4 : n0 ≤ b4 := Nat.le_trans Z0 (Nat.le_of_eq g4.symm)
  have f5 := Nat.le_trans Z0 E4.1
  have f6 : Fld Z h4 b4 "com/example/murmuration/murmuration/transport/LinkRate" "bitsPerSecond" "J" (.long 0) := D4 (Or.inr hw16) (ty := .long) (by decide)
  have pre7 : ∀ t, own_S p e below T4 m 11 #[sJ q1, sW, sJ v2, sW, sU, sU] [(.long v2), (.ref b4), (.ref b4)] t → R0 t := fun t k => pre3 t (by
    refine st4 _ ?_
    show own_S p e below T4 m 9 #[sJ q1, sW, sJ v2, sW, sU, sU] [(.ref b4)] _
    refine XS.dup X4.here hx rfl (hb hby at_9) rfl rfl ?_
    show own_S p e below T4 m 10 #[sJ q1, sW, sJ v2, sW, sU, sU] [(.ref b4), (.ref b4)] _
    refine XS.lloadN X4.here hx rfl (hb hby at_10) rfl ?_
    exact k)
  have hp8 : ¬ (v2 < (0 : Int64)) := by simp only [Int64.lt_iff_toInt_lt, Int64.reduceToInt]; omega
  obtain ⟨_, _, ⟨T9, L9, k9, n9⟩, -, X9, ⟨Lc9, hQ9, l9, y9, z9⟩, st9⟩ := X4.specialBack hx (y := own_y1) rfl hown (mvT hZ hw4) (mvT hZ hw5) (mvT hZ hw6) (by decide) (backOf (W := 1) (own_rm1 l Z a0 hw [] b4 v2 (.long 0) h4 n0 f5 A4 f6 g_b4 hp8) hZ hw6 hw3 (by decide) (by decide)) (g := (mkF m 11 #[sJ q1, sW, sJ v2, sW, sU, sU] [(.long v2), (.ref b4), (.ref b4)])) rfl (by rw [hml]; rfl) (Steps.refl _) (a := b4) (argsL := [(.long v2)]) (rest := [(.ref b4)]) (lenOf own_pd_1 rfl) rfl (by show 2 * 0 + _ ≤ _; exact Nat.le_of_eq rfl) (hb hby at_11) (fun _ _ => ⟨rfl, e4, (by decide : 1 + 0 ≤ _), (by decide : 1 + 0 ≤ _)⟩)
  dsimp only [Pt.U, Pt.locs, Pt.cells, Pt.slots] at X9 l9 y9 z9 st9 hQ9
  subst l9 y9 z9
  obtain ⟨rfl, N9q, K9, ex9, fx9_0⟩ := hQ9
  have f10 := Nat.le_trans f5 K9.1
  have f11 := A4.keep K9
  have N9 := Fr.app N0 N9q
  have pre12 : ∀ t, own_S p e below T9 m 19 #[sJ q1, sW, sJ v2, sW, sR b4, sU] [(.int (lcmpW v2 (0 : Int64)))] t → R0 t := fun t k => pre7 t (by
    refine st9.trans ?_
    show own_S p e below T9 m 14 #[sJ q1, sW, sJ v2, sW, sU, sU] [(.ref b4)] _
    refine XS.astore X9.here hx rfl (hb hby at_14) rfl rfl (l' := #[sJ q1, sW, sJ v2, sW, sR b4, sU]) rfl ?_
    show own_S p e below T9 m 16 #[sJ q1, sW, sJ v2, sW, sR b4, sU] [] _
    refine XS.lloadN X9.here hx rfl (hb hby at_16) rfl ?_
    show own_S p e below T9 m 17 #[sJ q1, sW, sJ v2, sW, sR b4, sU] [(.long v2)] _
    refine XS.lconst X9.here hx rfl (hb hby at_17) ?_
    show own_S p e below T9 m 18 #[sJ q1, sW, sJ v2, sW, sR b4, sU] [(.long 0), (.long v2)] _
    refine XS.lcmp X9.here hx rfl (hb hby at_18) rfl ?_
    exact k)
  by_cases hc19 : v2 = (0 : Int64)
  · have pre13 : ∀ t, own_S p e below T9 m 31 #[sJ q1, sW, sJ v2, sW, sR b4, sI 0] [(.ref b4)] t → R0 t := fun t k => pre12 t (by
      refine XS.ifYes X9.here hx rfl (pc0 := 19) (pc' := 26) rfl (hb hby at_19) rfl ((if0 _ _).trans (teq ((lw_eq _ _).mpr hc19)).1) (by decide) (by decide) ?_
      show own_S p e below T9 m 26 #[sJ q1, sW, sJ v2, sW, sR b4, sU] [] _
      refine XS.iconst X9.here hx rfl (hb hby at_26) ?_
      show own_S p e below T9 m 27 #[sJ q1, sW, sJ v2, sW, sR b4, sU] [(.int 0)] _
      refine XS.istore X9.here hx rfl (hb hby at_27) rfl (l' := #[sJ q1, sW, sJ v2, sW, sR b4, sI 0]) rfl ?_
      show own_S p e below T9 m 29 #[sJ q1, sW, sJ v2, sW, sR b4, sI 0] [] _
      refine XS.aload X9.here hx rfl (hb hby at_29) rfl rfl ?_
      exact k)
    obtain ⟨cq14, kq14, q14a, q14b, q14c⟩ := isOf hZ rfl ex9
    obtain ⟨_, _, ⟨T14, L14, k14, n14⟩, -, X14, ⟨Lc14, hQ14, l14, y14, z14⟩, st14⟩ := X9.virtualBack hx (y := own_y2) (z := own_y2) hown (mvT hZ hw17) (mvT hZ hw18) (notFace_of_selects (args := #[]) (mvT hZ hw20)) (mvT hZ hw20) (mvT hZ hw19) (by decide) (backOf (W := 0) (own_rm4 l Z a0 hw [] b4 v2 T9.heap n0 f10 fx9_0) hZ hw21 hw3 (by decide) (by decide)) q14a q14c (g := (mkF m 31 #[sJ q1, sW, sJ v2, sW, sR b4, sI 0] [(.ref b4)])) rfl (by rw [hml]; rfl) (Steps.refl _) (argsL := []) (rest := []) (lenOf own_pd_2 rfl) rfl (by show 2 * 0 + _ ≤ _; exact Nat.le_of_eq rfl) (hb hby at_31) (fun _ _ => ⟨rfl, rfl, (by decide : 1 + 0 ≤ _), (by decide : 1 + 0 ≤ _)⟩)
    dsimp only [Pt.U, Pt.locs, Pt.cells, Pt.slots] at X14 l14 y14 z14 st14 hQ14
    subst l14 y14 z14
    obtain ⟨rfl, N14q, eh14⟩ := hQ14
    have N14 := Fr.app N9 N14q
    have pre15 : ∀ t, own_S p e below T14 m 36 #[sJ q1, sW, sJ v2, sW, sR b4, sI 0] [(.int 0), (.int (if (0 : Int64) < v2 then (1 : Int32) else 0))] t → R0 t := fun t k => pre13 t (by
      refine st14.trans ?_
      show own_S p e below T14 m 34 #[sJ q1, sW, sJ v2, sW, sR b4, sI 0] [(.int (if (0 : Int64) < v2 then (1 : Int32) else 0))] _
      refine XS.iload X14.here hx rfl (hb hby at_34) rfl ?_
      exact k)
    have hc16 : (if (0 : Int64) < v2 then (1 : Int32) else 0) = (0 : Int32) := if_neg (by simp only [Int64.lt_iff_toInt_lt, ← Int64.toInt_inj, Int64.reduceToInt] at hc19 ⊢; omega)
    have pre17 : ∀ t, own_S p e below T14 m 44 #[sJ q1, sW, sJ v2, sW, sR b4, sI 0] [(.int 1)] t → R0 t := fun t k => pre15 t (by
      refine XS.icmpNo X14.here hx rfl (hb hby at_36) rfl (teq hc16).2 ?_
      show own_S p e below T14 m 39 #[sJ q1, sW, sJ v2, sW, sR b4, sI 0] [] _
      refine XS.iconst X14.here hx rfl (hb hby at_39) ?_
      show own_S p e below T14 m 40 #[sJ q1, sW, sJ v2, sW, sR b4, sI 0] [(.int 1)] _
      refine XS.goto X14.here hx rfl (pc0 := 40) (pc' := 44) rfl (hb hby at_40) (by decide) (by decide) ?_
      exact k)
    obtain ⟨fs, hr, hrun, hended, hW, hsame⟩ := X14.leave (v := some (.int 1)) (fun h => by rw [Bd.returns] at h; cases h)
    refine ⟨_, _, cast (congrFun hR0 _) (pre17 _ (retN X14 hx (t := .boolean) Bd.returns (by simp) (hb hby at_44) hr)), hrun, hended, _, _, rfl, ?_, ⟨_, rfl⟩, hW, hsame.mono (by decide) (by decide)⟩
    show own_Q0 Z _ h0 n0 _ T14.heap _
    rw [eh14]
    exact ⟨rfl, N14⟩
  · have pre18 : ∀ t, own_S p e below T9 m 31 #[sJ q1, sW, sJ v2, sW, sR b4, sI 1] [(.ref b4)] t → R0 t := fun t k => pre12 t (by
      refine XS.ifNo X9.here hx rfl (hb hby at_19) rfl ((if0 _ _).trans (feq (mt (lw_eq _ _).mp hc19)).1) ?_
      show own_S p e below T9 m 22 #[sJ q1, sW, sJ v2, sW, sR b4, sU] [] _
      refine XS.iconst X9.here hx rfl (hb hby at_22) ?_
      show own_S p e below T9 m 23 #[sJ q1, sW, sJ v2, sW, sR b4, sU] [(.int 1)] _
      refine XS.goto X9.here hx rfl (pc0 := 23) (pc' := 27) rfl (hb hby at_23) (by decide) (by decide) ?_
      show own_S p e below T9 m 27 #[sJ q1, sW, sJ v2, sW, sR b4, sU] [(.int 1)] _
      refine XS.istore X9.here hx rfl (hb hby at_27) rfl (l' := #[sJ q1, sW, sJ v2, sW, sR b4, sI 1]) rfl ?_
      show own_S p e below T9 m 29 #[sJ q1, sW, sJ v2, sW, sR b4, sI 1] [] _
      refine XS.aload X9.here hx rfl (hb hby at_29) rfl rfl ?_
      exact k)
    obtain ⟨cq19, kq19, q19a, q19b, q19c⟩ := isOf hZ rfl ex9
    obtain ⟨_, _, ⟨T19, L19, k19, n19⟩, -, X19, ⟨Lc19, hQ19, l19, y19, z19⟩, st19⟩ := X9.virtualBack hx (y := own_y2) (z := own_y2) hown (mvT hZ hw17) (mvT hZ hw18) (notFace_of_selects (args := #[]) (mvT hZ hw20)) (mvT hZ hw20) (mvT hZ hw19) (by decide) (backOf (W := 0) (own_rm4 l Z a0 hw [] b4 v2 T9.heap n0 f10 fx9_0) hZ hw21 hw3 (by decide) (by decide)) q19a q19c (g := (mkF m 31 #[sJ q1, sW, sJ v2, sW, sR b4, sI 1] [(.ref b4)])) rfl (by rw [hml]; rfl) (Steps.refl _) (argsL := []) (rest := []) (lenOf own_pd_2 rfl) rfl (by show 2 * 0 + _ ≤ _; exact Nat.le_of_eq rfl) (hb hby at_31) (fun _ _ => ⟨rfl, rfl, (by decide : 1 + 0 ≤ _), (by decide : 1 + 0 ≤ _)⟩)
    dsimp only [Pt.U, Pt.locs, Pt.cells, Pt.slots] at X19 l19 y19 z19 st19 hQ19
    subst l19 y19 z19
    obtain ⟨rfl, N19q, eh19⟩ := hQ19
    have N19 := Fr.app N9 N19q
    have pre20 : ∀ t, own_S p e below T19 m 36 #[sJ q1, sW, sJ v2, sW, sR b4, sI 1] [(.int 1), (.int (if (0 : Int64) < v2 then (1 : Int32) else 0))] t → R0 t := fun t k => pre18 t (by
      refine st19.trans ?_
      show own_S p e below T19 m 34 #[sJ q1, sW, sJ v2, sW, sR b4, sI 1] [(.int (if (0 : Int64) < v2 then (1 : Int32) else 0))] _
      refine XS.iload X19.here hx rfl (hb hby at_34) rfl ?_
      exact k)
    have hc21 : (if (0 : Int64) < v2 then (1 : Int32) else 0) = (1 : Int32) := if_pos (by simp only [Int64.lt_iff_toInt_lt, ← Int64.toInt_inj, Int64.reduceToInt] at hc19 ⊢; omega)
    have pre22 : ∀ t, own_S p e below T19 m 44 #[sJ q1, sW, sJ v2, sW, sR b4, sI 1] [(.int 1)] t → R0 t := fun t k => pre20 t (by
      refine XS.icmpNo X19.here hx rfl (hb hby at_36) rfl (teq hc21).2 ?_
      show own_S p e below T19 m 39 #[sJ q1, sW, sJ v2, sW, sR b4, sI 1] [] _
      refine XS.iconst X19.here hx rfl (hb hby at_39) ?_
      show own_S p e below T19 m 40 #[sJ q1, sW, sJ v2, sW, sR b4, sI 1] [(.int 1)] _
      refine XS.goto X19.here hx rfl (pc0 := 40) (pc' := 44) rfl (hb hby at_40) (by decide) (by decide) ?_
      exact k)
    obtain ⟨fs, hr, hrun, hended, hW, hsame⟩ := X19.leave (v := some (.int 1)) (fun h => by rw [Bd.returns] at h; cases h)
    refine ⟨_, _, cast (congrFun hR0 _) (pre22 _ (retN X19 hx (t := .boolean) Bd.returns (by simp) (hb hby at_44) hr)), hrun, hended, _, _, rfl, ?_, ⟨_, rfl⟩, hW, hsame.mono (by decide) (by decide)⟩
    show own_Q0 Z _ h0 n0 _ T19.heap _
    rw [eh19]
    exact ⟨rfl, N19⟩
set_option maxRecDepth 65536 in
set_option maxHeartbeats 40000000 in
theorem own_comes {Post : Tables → Env → Array Value → State → Outcome → State → Prop} (hpost : ∀ tb e args s v u, (limb_1_1.after args s (.returned v) u = true ∧ limb_1_2.after args s (.returned v) u = true ∧ True) → FrameEnd s (.returned v) u (Jvm.fieldLocs frame_1_writes args s ++ Jvm.arrayLocs frame_1_arrays args s ++ Jvm.staticLocs frame_1_statics s) 16 128 → Post tb e args s (.returned v) u) :
    ArmFor flags0 classFile x code maxLocals ret World_1 tables_1 room_1 Calls_1 rest_1 Pre_1 Post := by
  intro l hfl _ _ p e ha hc hk s m args below hf hA hF happ hP
  obtain ⟨hcalls, hrest, hpre⟩ := hP
  obtain ⟨-, -, -, hnamed, -, -, -, hat⟩ := (Spec.applies_iff hf).mp happ
  obtain ⟨hg, hn⟩ := and_e (Cond.before_iff.mp (show (Jvm.Cond.and given_1 narrow_1).before args s = true from hpre))
  obtain ⟨hcount, hg0⟩ := and_e hg
  have ha0 := hg0
  obtain ⟨w0, rfl⟩ : ∃ w0 : Value, args = #[w0] := by
    have hs : args.size = 1 := by simpa [Cond.value, given_1] using hcount
    obtain ⟨L⟩ := args
    match L, hs with
    | [w0], _ => exact ⟨w0, rfl⟩
  have hw := fun d (hd : d ∈ tables_1) => atoms_spec (ws := Jvm.Cond.code x code maxLocals ret :: tables_1) hat d (List.mem_cons_of_mem _ hd)
  have hfit : Fit s := fun {y c} hc i hi => by
    obtain ⟨ha, rfl⟩ := Array.getElem?_eq_some_iff.mp hc
    have q := List.all_eq_true.mp ((Array.all_eq_true_iff_forall_mem.mp hF) _ (Array.getElem_mem ha)) i (List.mem_range.mpr hi)
    simpa [Array.getElem?_eq_getElem hi] using q
  obtain ⟨i0, ei0⟩ := isL_v ha0
  obtain rfl : w0 = (.long i0) := Option.some.inj ei0
  obtain ⟨n, o, h1, h2, h3, _, L, rfl, ⟨rfl, N⟩, hq⟩ := own_rm0 l s _ hw tables_1 i0  s.heap s.heap.size (Nat.le_refl _)  p e ha hc hk s m _ below hf ((Spec.applies_iff_loose hf).mp happ).1 ⟨rfl, State.Warmed39.refl s, rfl⟩ trivial
  refine ⟨n, _, h1, h2, h3, hpost _ _ _ _ _ _ ⟨Cond.after_iff.mpr rfl, Cond.after_iff.mpr (eq_i res_at (Term.int_eval (1)) rfl), trivial⟩ ⟨hq.1, hq.2.1, (hq.2.2.sift fun y hy => Or.inr (N y hy)).mono (by decide) (by decide)⟩⟩
theorem main_1_1 : Claimed_1_1 := own_comes fun _ _ _ _ _ _ h hF => ⟨h.1, hF⟩
theorem main_1_2 : Claimed_1_2 := own_comes fun _ _ _ _ _ _ h hF => ⟨h.2.1, hF⟩
end Jvm.Pilot.@@N@@
namespace Jvm.Pilot.@@N@@
open Jvm Jvm.ClassFile Sem Op Lib Jvm.Free Jvm.Stand Jvm.Pilot.@@N@@.Jvm.D
/-! MADE BY PROGRAM (witnessworld.py) out of the Statement's table words and the real class files: 10 classes; the members and pool entries that the words name. The judged class is class 1, her method 1. -/
namespace start1
open Jvm.ClassFile
def u (s : String) : CpInfo := .utf8 (stringToUtf16 s)
/-- a pool by its gaps: so many unusable entries, then the entry; so many at the end -/
def gap : Nat → List CpInfo → List CpInfo
  | 0, r => r
  | n + 1, r => .unusable :: gap n r
def poolList (es : List (Nat × CpInfo)) (last : Nat) : List CpInfo := es.foldr (fun e r => gap e.1 (e.2 :: r)) (gap last [])
def pool (es : List (Nat × CpInfo)) (last : Nat) : Array CpInfo := ⟨poolList es last⟩
def fileOf (pool : Array CpInfo) (this : Nat) (attrs : Array Attribute := #[]) (ms : Array MethodInfo := #[]) (fl : Nat := 33) (sup : Nat := 0) (ifs : Array Nat := #[]) (fds : Array FieldInfo := #[]) : ClassFile where
  minorVersion := 0
  majorVersion := 65
  constantPool := pool
  accessFlags := fl
  thisClass := this
  superClass := sup
  interfaces := ifs
  fields := fds
  methods := ms
  attributes := attrs
def plain (name : String) (sup : Option ClassId) : Class where
  name := name
  kind := .ordinary
  loader := none
  accessFlags := 33
  super := sup
  interfaces := #[]
  cf := none
  fields := #[]
  methods := #[]
  instanceTypes := #[]
  staticTypes := #[]
  resolved := #[]
  callSites := []
  init := .initialized
  statics := none
  mirror := none

def pool0 : Array CpInfo := pool [(5, u "<init>"), (0, u "()V"), (1, .class_ 10), (1, u "java/lang/Object")] 113

def k0c0 : Code := { maxStack := 0, maxLocals := 1, code := object_method_1_code, exceptionTable := #[], attributes := #[] }
def k0m0 : Method := { name := "<init>", desc := "()V", sig := { parameters := [], returnType := none }, accessFlags := 1, code := some k0c0 }
/-- java/lang/Object -/
def k0 : Class := { plain "java/lang/Object" none with
  accessFlags := 33
  interfaces := #[]
  cf := some (fileOf pool0 8 #[] #[{ accessFlags := 1, nameIndex := 5, descriptorIndex := 6, attributes := #[] }] 33 0 #[] #[])
  fields := #[]
  methods := #[k0m0]
  instanceTypes := #[]
  staticTypes := #[]
  resolved := Array.replicate 124 none
  statics := none }

def pool1 : Array CpInfo := pool [(2, .class_ 4), (1, u "java/lang/Object"), (0, u "<init>"), (0, u "()V"), (2, .long 9223372036854775807), (1, .class_ 12), (0, u "com/example/murmuration/murmuration/transport/LinkRate"), (0, .methodref 11 14), (0, .nameAndType 5 15), (0, u "(J)V"), (0, .methodref 11 17), (0, .nameAndType 18 19), (0, u "isLimited"), (0, u "()Z"), (0, .class_ 21), (0, u "com/example/murmuration/murmuration/transport/LinkRateIsLimitedPinLaw"), (2, u "law"), (0, u "(J)Z")] 3

def k1m0 : Method := { name := "<init>", desc := "()V", sig := { parameters := [], returnType := none }, accessFlags := 1, code := none }
def k1c1 : Code := { maxStack := 4, maxLocals := 6, code := code, exceptionTable := #[], attributes := #[] }
def k1m1 : Method := { name := "law", desc := "(J)Z", sig := { parameters := [.long], returnType := some .boolean }, accessFlags := 9, code := some k1c1 }
/-- com/example/murmuration/murmuration/transport/LinkRateIsLimitedPinLaw -/
def k1 : Class := { plain "com/example/murmuration/murmuration/transport/LinkRateIsLimitedPinLaw" (some 0) with
  accessFlags := 49
  interfaces := #[]
  cf := some (fileOf pool1 20 #[] #[{ accessFlags := 1, nameIndex := 5, descriptorIndex := 6, attributes := #[] }, { accessFlags := 9, nameIndex := 24, descriptorIndex := 25, attributes := #[] }] 49 2 #[] #[])
  fields := #[]
  methods := #[k1m0, k1m1]
  instanceTypes := #[]
  staticTypes := #[]
  resolved := Array.replicate 29 none
  statics := none }

def pool2 : Array CpInfo := pool [(1, .methodref 2 3), (0, .class_ 4), (0, .nameAndType 5 6), (0, u "java/lang/Object"), (0, u "<init>"), (0, u "()V"), (0, .class_ 8), (0, u "java/lang/Record")] 13

def k2c0 : Code := { maxStack := 1, maxLocals := 1, code := jdk_30_method_1_code, exceptionTable := #[], attributes := #[] }
def k2m0 : Method := { name := "<init>", desc := "()V", sig := { parameters := [], returnType := none }, accessFlags := 4, code := some k2c0 }
/-- java/lang/Record -/
def k2 : Class := { plain "java/lang/Record" (some 0) with
  accessFlags := 1057
  interfaces := #[]
  cf := some (fileOf pool2 7 #[] #[{ accessFlags := 4, nameIndex := 5, descriptorIndex := 6, attributes := #[] }] 1057 2 #[] #[])
  fields := #[]
  methods := #[k2m0]
  instanceTypes := #[]
  staticTypes := #[]
  resolved := Array.replicate 22 none
  statics := none }

def pool3 : Array CpInfo := pool [(1, .methodref 2 3), (0, .class_ 4), (0, .nameAndType 5 6), (0, u "java/lang/Record"), (0, u "<init>"), (0, u "()V"), (9, .fieldref 17 18), (0, .class_ 19), (0, .nameAndType 20 21), (0, u "com/example/murmuration/murmuration/transport/LinkRate"), (0, u "bitsPerSecond"), (0, u "J"), (2, u "FORM"), (0, u "Ljava/util/regex/Pattern;"), (11, u "()Z"), (2, u "UNITS"), (0, u "Ljava/util/Map;"), (42, u "(J)V"), (79, u "UNLIMITED"), (0, u "Lcom/example/murmuration/murmuration/transport/LinkRate;"), (19, u "WRITTEN"), (0, u "Ljava/lang/String;"), (11, u "isLimited")] 33

def k3c0 : Code := { maxStack := 4, maxLocals := 3, code := prog_214_method_1_code, exceptionTable := #[], attributes := #[] }
def k3m0 : Method := { name := "<init>", desc := "(J)V", sig := { parameters := [.long], returnType := none }, accessFlags := 1, code := some k3c0 }
def k3c1 : Code := { maxStack := 4, maxLocals := 1, code := prog_214_method_3_code, exceptionTable := #[], attributes := #[] }
def k3m1 : Method := { name := "isLimited", desc := "()Z", sig := { parameters := [], returnType := some .boolean }, accessFlags := 1, code := some k3c1 }
/-- com/example/murmuration/murmuration/transport/LinkRate -/
def k3 : Class := { plain "com/example/murmuration/murmuration/transport/LinkRate" (some 2) with
  accessFlags := 49
  interfaces := #[]
  cf := some (fileOf pool3 17 #[] #[{ accessFlags := 1, nameIndex := 5, descriptorIndex := 84, attributes := #[] }, { accessFlags := 1, nameIndex := 198, descriptorIndex := 37, attributes := #[] }] 49 2 #[] #[{ accessFlags := 18, nameIndex := 20, descriptorIndex := 21, attributes := #[] }, { accessFlags := 25, nameIndex := 164, descriptorIndex := 165, attributes := #[] }, { accessFlags := 26, nameIndex := 24, descriptorIndex := 25, attributes := #[] }, { accessFlags := 26, nameIndex := 40, descriptorIndex := 41, attributes := #[] }, { accessFlags := 25, nameIndex := 185, descriptorIndex := 186, attributes := #[] }])
  fields := #[{ name := "bitsPerSecond", type := .long, accessFlags := 18, slot := 0, constantValue := 0 }, { name := "UNLIMITED", type := (.object "com/example/murmuration/murmuration/transport/LinkRate"), accessFlags := 25, slot := 0, constantValue := 0 }, { name := "FORM", type := (.object "java/util/regex/Pattern"), accessFlags := 26, slot := 1, constantValue := 0 }, { name := "UNITS", type := (.object "java/util/Map"), accessFlags := 26, slot := 2, constantValue := 0 }, { name := "WRITTEN", type := (.object "java/lang/String"), accessFlags := 25, slot := 3, constantValue := 0 }]
  methods := #[k3m0, k3m1]
  instanceTypes := #[.long]
  staticTypes := #[(.object "com/example/murmuration/murmuration/transport/LinkRate"), (.object "java/util/regex/Pattern"), (.object "java/util/Map"), (.object "java/lang/String")]
  resolved := Array.replicate 232 none
  statics := none }

def pool4 : Array CpInfo := pool [(1, u "java/lang/Cloneable"), (0, .class_ 1), (0, u "java/lang/Object"), (0, .class_ 3)] 3

/-- java/lang/Cloneable -/
def k4 : Class := { plain "java/lang/Cloneable" (some 0) with
  accessFlags := 1537
  interfaces := #[]
  cf := some (fileOf pool4 2 #[] #[] 1537 4 #[] #[])
  fields := #[]
  methods := #[]
  instanceTypes := #[]
  staticTypes := #[]
  resolved := Array.replicate 8 none
  statics := none }

def pool5 : Array CpInfo := pool [(1, u "java/io/Serializable"), (0, .class_ 1), (0, u "java/lang/Object"), (0, .class_ 3)] 3

/-- java/io/Serializable -/
def k5 : Class := { plain "java/io/Serializable" (some 0) with
  accessFlags := 1537
  interfaces := #[]
  cf := some (fileOf pool5 2 #[] #[] 1537 4 #[] #[])
  fields := #[]
  methods := #[]
  instanceTypes := #[]
  staticTypes := #[]
  resolved := Array.replicate 8 none
  statics := none }

/-- the primitive byte -/
def k6 : Class := { plain "byte" none with kind := .primitive 'B', accessFlags := 0x411 }
/-- [B -/
def k7 : Class := { plain "[B" (some 0) with kind := .array 6 .byte, interfaces := #[4, 5], accessFlags := 1041 }

/-- the primitive int -/
def k8 : Class := { plain "int" none with kind := .primitive 'I', accessFlags := 0x411 }
/-- [I -/
def k9 : Class := { plain "[I" (some 0) with kind := .array 8 .int, interfaces := #[4, 5], accessFlags := 1041 }

def heap : Heap := #[]
def classes : Array Class := #[k0, k1, k2, k3, k4, k5, k6, k7, k8, k9]
def interned : List (Array UInt16 × Addr) := []
def slotsUsed : Nat := 0
def theMethod : MethodId := ⟨1, 1⟩
def args0 : Array Value := #[.long 5]
def aboutOver (below : List Frame) : State where
  vm := { classes := classes, interned := interned.toArray }
  heap := heap
  slotsUsed := slotsUsed
  threads := #[{ frames := .invoking theMethod args0 :: below }]
def below0 : List Frame := [.native { method := ⟨0, 0⟩, args := #[] }]
def about1 : State := aboutOver below0
def p0 : Program := .bare "" "" ""
def e0 : Env := launch0.env 0 0 0
theorem w_frames : about1.frames = Frame.invoking theMethod args0 :: below0 := rfl
set_option maxRecDepth 65536 in
theorem w_args : argsFit about1.vm theMethod args0 = true := by decide +kernel
set_option maxRecDepth 65536 in
theorem w_heap : heapFits about1 = true := by decide +kernel
set_option maxRecDepth 65536 in
theorem w_runnable : about1.curStatus? = some .runnable := by decide +kernel
set_option maxRecDepth 65536 in
theorem w_alone : about1.alone = true := by decide +kernel
set_option maxRecDepth 65536 in
theorem w_named : about1.methodNamed? x = some theMethod := by decide +kernel
set_option maxRecDepth 65536 in
theorem w_hears : about1.hears theMethod below0 = true := by decide +kernel
set_option maxRecDepth 65536 in
theorem w_ripe : about1.ripe theMethod args0 below0 = true := by decide +kernel
theorem w_running : about1.status = .running := rfl
set_option maxRecDepth 65536 in
theorem w_room : about1.hasRoom e0.platform room_1 = true :=
  launch0.hasRoom_least _ room_1 (by decide +kernel) (by decide +kernel) (by decide +kernel) (by decide +kernel) (by decide +kernel) (by decide +kernel)
theorem allAtoms_all (ts : List Jvm.Cond) (a : Array Jvm.Value) (st : Jvm.State) : (allAtoms ts).before a st = ts.all (fun c => c.before a st) := by
  induction ts with
  | nil => rfl
  | cons c t ih =>
    show (Jvm.Cond.and c (allAtoms t)).before a st = _
    rw [Jvm.Cond.before_and, ih, List.all_cons]
def words1 : List Jvm.Cond := Jvm.Cond.code x code maxLocals ret :: tables_1
/-- a 'code' word, met by the world's own term for the bytes: nothing is compared byte by byte -/
theorem code_word {y : MethodName} {bytes : ByteArray} {mx : Nat} {rt : Option FieldType} {a : Array Value} {s : State} {m : MethodId} {meth : Method} {c : Code} (h1 : s.methodNamed? y = some m) (h2 : s.vm.method? m = some meth) (h3 : meth.code = some c) (h4 : c.code = bytes)
    (h5 : (c.maxLocals == mx && c.exceptionTable.isEmpty && decide (c.maxStack ≤ mostOperands) && decide (meth.sig.returnType = rt) && !meth.locks && decide (parseMethodDescriptor y.desc = some meth.sig)) = true) : (Jvm.Cond.code y bytes mx rt).before a s = true := by
  simp only [Bool.and_eq_true, beq_iff_eq, Bool.not_eq_true', decide_eq_true_eq] at h5
  obtain ⟨⟨⟨⟨⟨g1, g2⟩, g3⟩, g4⟩, g5⟩, g6⟩ := h5
  simp [Cond.before, Cond.holds, Cond.value, h1, h2, h3, h4, g1, g2, g3, g4, g5, g6]
def isCode : Jvm.Cond → Bool
  | .code _ _ _ _ => true
  | _ => false
theorem all_split {L : List Jvm.Cond} {P : Jvm.Cond → Bool} (h1 : L.all (fun c => isCode c || P c) = true) (h2 : ∀ c ∈ L.filter isCode, P c = true) : L.all P = true := by
  refine List.all_eq_true.mpr fun c hc => ?_
  have h := List.all_eq_true.mp h1 c hc
  rcases Bool.eq_false_or_eq_true (isCode c) with hi | hi
  · exact h2 c (List.mem_filter.mpr ⟨hc, hi⟩)
  · simpa [hi] using h
set_option maxRecDepth 65536 in
theorem w_c0 : (Jvm.Cond.code x code maxLocals ret).before args0 about1 = true := code_word (m := ⟨1, 1⟩) (meth := k1m1) (c := k1c1) (by decide +kernel) rfl rfl rfl (by decide +kernel)
set_option maxRecDepth 65536 in
theorem w_c1 : (Jvm.Cond.code ({ cls := "com/example/murmuration/murmuration/transport/LinkRate", name := "<init>", desc := "(J)V" } : Jvm.MethodName) prog_214_method_1_code (3 : Nat) (Option.none : Option Jvm.ClassFile.FieldType)).before args0 about1 = true := code_word (m := ⟨3, 0⟩) (meth := k3m0) (c := k3c0) (by decide +kernel) rfl rfl rfl (by decide +kernel)
set_option maxRecDepth 65536 in
theorem w_c2 : (Jvm.Cond.code ({ cls := "java/lang/Record", name := "<init>", desc := "()V" } : Jvm.MethodName) jdk_30_method_1_code (1 : Nat) (Option.none : Option Jvm.ClassFile.FieldType)).before args0 about1 = true := code_word (m := ⟨2, 0⟩) (meth := k2m0) (c := k2c0) (by decide +kernel) rfl rfl rfl (by decide +kernel)
set_option maxRecDepth 65536 in
theorem w_c3 : (Jvm.Cond.code ({ cls := "java/lang/Object", name := "<init>", desc := "()V" } : Jvm.MethodName) object_method_1_code (1 : Nat) (Option.none : Option Jvm.ClassFile.FieldType)).before args0 about1 = true := code_word (m := ⟨0, 0⟩) (meth := k0m0) (c := k0c0) (by decide +kernel) rfl rfl rfl (by decide +kernel)
set_option maxRecDepth 65536 in
theorem w_c4 : (Jvm.Cond.code ({ cls := "com/example/murmuration/murmuration/transport/LinkRate", name := "isLimited", desc := "()Z" } : Jvm.MethodName) prog_214_method_3_code (1 : Nat) (Option.some Jvm.ClassFile.FieldType.boolean)).before args0 about1 = true := code_word (m := ⟨3, 1⟩) (meth := k3m1) (c := k3c1) (by decide +kernel) rfl rfl rfl (by decide +kernel)
def codes1 : List Jvm.Cond := [Jvm.Cond.code x code maxLocals ret, Jvm.Cond.code ({ cls := "com/example/murmuration/murmuration/transport/LinkRate", name := "<init>", desc := "(J)V" } : Jvm.MethodName) prog_214_method_1_code (3 : Nat) (Option.none : Option Jvm.ClassFile.FieldType), Jvm.Cond.code ({ cls := "java/lang/Record", name := "<init>", desc := "()V" } : Jvm.MethodName) jdk_30_method_1_code (1 : Nat) (Option.none : Option Jvm.ClassFile.FieldType), Jvm.Cond.code ({ cls := "java/lang/Object", name := "<init>", desc := "()V" } : Jvm.MethodName) object_method_1_code (1 : Nat) (Option.none : Option Jvm.ClassFile.FieldType), Jvm.Cond.code ({ cls := "com/example/murmuration/murmuration/transport/LinkRate", name := "isLimited", desc := "()Z" } : Jvm.MethodName) prog_214_method_3_code (1 : Nat) (Option.some Jvm.ClassFile.FieldType.boolean)]
set_option maxRecDepth 65536 in
theorem codes_eq : words1.filter isCode = codes1 := rfl
theorem w_codes : ∀ c ∈ words1.filter isCode, c.before args0 about1 = true := by
  rw [codes_eq]
  intro c hc
  simp only [codes1, List.mem_cons, List.not_mem_nil, or_false] at hc
  rcases hc with rfl | rfl | rfl | rfl | rfl
  · exact w_c0
  · exact w_c1
  · exact w_c2
  · exact w_c3
  · exact w_c4
set_option maxRecDepth 65536 in
theorem w_t1 : words1.all (fun c => isCode c || c.before args0 about1) = true := by decide +kernel
theorem w_tables : (allAtoms (Jvm.Cond.code x code maxLocals ret :: tables_1)).before args0 about1 = true := by
  rw [allAtoms_all]
  show words1.all (fun c => c.before args0 about1) = true
  refine all_split ?_ w_codes
  rw [w_t1]
set_option maxRecDepth 65536 in
theorem w_case : (Jvm.Cond.and given_1 narrow_1).before args0 about1 = true := by decide +kernel
theorem w_applies : (headSpec (Jvm.Cond.code x code maxLocals ret :: tables_1) room_1).applies x e0.platform about1 = true :=
  (Spec.applies_iff w_frames).mpr ⟨w_running, w_runnable, w_alone, w_named, w_hears, w_ripe, w_room, w_tables⟩
theorem atStart : AtStart classFile x code maxLocals ret World_1 tables_1 room_1 Calls_1 rest_1 Pre_1 launch0 p0 e0 about1 theMethod args0 below0 :=
  ⟨lists_1, trivial, launch0.admits_env _ _ _, launch0.least_env, fairChoices_fair.cas, fairChoices_fair.clock, w_frames, w_args, w_heap, w_applies, trivial, trivial, w_case⟩
end start1
theorem witness_1 : WitnessClaimed_1 := ⟨start1.p0, start1.e0, start1.about1, start1.theMethod, start1.args0, start1.below0, start1.atStart⟩
end Jvm.Pilot.@@N@@
