import JvmDerived
import JvmDerived.Pilot.@@N@@Statement
import JvmDerived.Pilot.@@N@@Code
set_option linter.unusedVariables false
set_option linter.unusedSimpArgs false
namespace Jvm.Pilot.@@N@@
open Jvm Jvm.ClassFile Sem Op Lib Jvm.Free Jvm.Stand Jvm.LawKit Jvm.RoadKit Bundle Jvm.Pilot.@@N@@.Jvm.D
abbrev sI (x : Int32) : Slot := .val (.int x)
abbrev sJ (x : Int64) : Slot := .val (.long x)
abbrev sR (a : Addr) : Slot := .val (.ref a)
abbrev sN : Slot := .val .null
abbrev sU : Slot := .unset
abbrev sW : Slot := .second
abbrev own_S (p : Program) (e : Env) (below : List Frame) (T : State) (m : MethodId) (pc : Nat) (L : Array Slot) (S : List Value) (t : State) : Prop := Steps p.tables e below (T.setTop (mkF m pc L S)) t
def own_sp (c : Int32) : Int32 := if c.toInt = 32 ∨ (9 ≤ c.toInt ∧ c.toInt ≤ 13) then 1 else 0
theorem own_d1_0 : decode prog_87_method_9_code 0 = .ok (.iload_n 0, 1) := by decide +kernel
theorem own_d1_1 : decode prog_87_method_9_code 1 = .ok (.bipush 32, 2) := by decide +kernel
theorem own_d1_3 : decode prog_87_method_9_code 3 = .ok (.if_icmp .eq 15, 3) := by decide +kernel
theorem own_d1_6 : decode prog_87_method_9_code 6 = .ok (.iload_n 0, 1) := by decide +kernel
theorem own_d1_7 : decode prog_87_method_9_code 7 = .ok (.bipush 9, 2) := by decide +kernel
theorem own_d1_9 : decode prog_87_method_9_code 9 = .ok (.if_icmp .lt 13, 3) := by decide +kernel
theorem own_d1_12 : decode prog_87_method_9_code 12 = .ok (.iload_n 0, 1) := by decide +kernel
theorem own_d1_13 : decode prog_87_method_9_code 13 = .ok (.bipush 13, 2) := by decide +kernel
theorem own_d1_15 : decode prog_87_method_9_code 15 = .ok (.if_icmp .gt 7, 3) := by decide +kernel
theorem own_d1_18 : decode prog_87_method_9_code 18 = .ok (.iconst 1, 1) := by decide +kernel
theorem own_d1_19 : decode prog_87_method_9_code 19 = .ok (.goto 4, 3) := by decide +kernel
theorem own_d1_22 : decode prog_87_method_9_code 22 = .ok (.iconst 0, 1) := by decide +kernel
theorem own_d1_23 : decode prog_87_method_9_code 23 = .ok (.ireturn, 1) := by decide +kernel
theorem own_pn_0 : plainName "com/example/querylathe/querylathe/sql/Lexer" = true := by first | (simp [plainName, overriddenIn]; done) | decide +kernel
theorem own_ef_1 (m : MethodId) (x0 : Int32) : entryFrame m #[(.int x0)] 1 = mkF m 0 #[sI x0] [] := by first | (simp [entryFrame, mkF, argsToLocals, Value.category]; done) | rfl
def own_Q1 (Z : State) (p1 : Int32) (h0 : Heap) (n0 : Nat) (v : Option Value) (h : Heap) (L : List Loc) : Prop := v = some (.int (own_sp p1)) ∧ Fr n0 L ∧ h = h0
abbrev own_y0 : MethodName := ⟨"com/example/querylathe/querylathe/sql/Lexer", "isSpace", "(C)Z"⟩
set_option maxRecDepth 65536 in
set_option maxHeartbeats 40000000 in
theorem own_rm1 (l : Launch) (Z : State) (a0 : Array Value) (hw : ∀ d ∈ tables_1, d.before a0 Z = true) (ws : List Jvm.Cond) (p1 : Int32) (h0 : Heap) (n0 : Nat) (Z0 : n0 ≤ h0.size)  :
    MetFree l own_y0 (head1 (Jvm.Cond.code own_y0 prog_87_method_9_code 1 (some .boolean) :: ws) ({ frames := 0, cells := 0, slots := 0, locals := 0 } : Room)) (fun a U => a = #[(.int p1)] ∧ Z.Warmed39 U.vm ∧ U.heap = h0) (fun _ _ _ _ _ => True) (fun _ U o U' => ∃ v L, o = .returned v ∧ own_Q1 Z p1 h0 n0 v U'.heap L ∧ FrameEnd U o U' L ({ frames := 0, cells := 0, slots := 0, locals := 0 } : Room).cells ({ frames := 0, cells := 0, slots := 0, locals := 0 } : Room).slots) := by
  refine MetFree.of_bodySF (plainFor_of_name own_pn_0) hisR ?_
  intro p e s m args below meth c s₁ Bd hml0 hP hK
  obtain ⟨rfl, hZ, hh⟩ := hP
  have hx := Bd.exec
  have hby := Bd.bytes
  have hml : c.maxLocals = 1 := hml0
  have hown : s.vm.findClass "com/example/querylathe/querylathe/sql/Lexer" = some m.cls := findClass_of_methodNamed Bd.named
  have hnm := (name_of_methodNamed Bd.named Bd.method).1
  have X0 : Stand p l e ({ frames := 0, cells := 0, slots := 0, locals := 0 } : Room) s m #[(.int p1)] below meth c s₁ [] 0 0 := Stand.of_body Bd
  have e0 : s₁.heap = h0 := by rw [← hh, Bd.state]; rfl
  have N0 := Fr.nil n0
  obtain ⟨R0, hR0⟩ : ∃ R : State → Prop, R = fun t => Steps p.tables e below (s₁.setTop (entryFrame m #[(.int p1)] 1)) t := ⟨_, rfl⟩
  have pre0 : ∀ t, Steps p.tables e below (s₁.setTop (mkF m 0 #[sI p1] [])) t → R0 t := fun t k => by rw [hR0]; exact castTop (own_ef_1 m p1) k
  have pre1 : ∀ t, own_S p e below s₁ m 3 #[sI p1] [(.int 32), (.int p1)] t → R0 t := fun t k => pre0 t (by
    refine XS.iloadN X0.here hx rfl (hb hby own_d1_0) rfl ?_
    show own_S p e below s₁ m 1 #[sI p1] [(.int p1)] _
    refine XS.bipush X0.here hx rfl (hb hby own_d1_1) ?_
    exact k)
  by_cases hc3 : p1 = (32 : Int32)
  · have pre2 : ∀ t, own_S p e below s₁ m 23 #[sI p1] [(.int 1)] t → R0 t := fun t k => pre1 t (by
      refine XS.icmpYes X0.here hx rfl (pc0 := 3) (pc' := 18) rfl (hb hby own_d1_3) rfl (teq hc3).1 (by decide) (by decide) ?_
      show own_S p e below s₁ m 18 #[sI p1] [] _
      refine XS.iconst X0.here hx rfl (hb hby own_d1_18) ?_
      show own_S p e below s₁ m 19 #[sI p1] [(.int 1)] _
      refine XS.goto X0.here hx rfl (pc0 := 19) (pc' := 23) rfl (hb hby own_d1_19) (by decide) (by decide) ?_
      exact k)
    obtain ⟨fs, hr, hrun, hended, hW, hsame⟩ := X0.leave (v := some (.int 1)) (fun h => by rw [Bd.returns] at h; cases h)
    refine ⟨_, _, cast (congrFun hR0 _) (pre2 _ (retN X0 hx (t := .boolean) Bd.returns (by simp) (hb hby own_d1_23) hr)), hrun, hended, _, _, rfl, ?_, ⟨_, rfl⟩, hW, hsame.mono (by decide) (by decide)⟩
    show own_Q1 Z _ h0 n0 _ s₁.heap _
    rw [e0]
    exact ⟨(by rw [own_sp, if_pos (by (simp only [Int32.lt_iff_toInt_lt, ← Int32.toInt_inj, Int32.reduceToInt] at hc3; omega))]), N0, rfl⟩
  · have pre3 : ∀ t, own_S p e below s₁ m 9 #[sI p1] [(.int 9), (.int p1)] t → R0 t := fun t k => pre1 t (by
      refine XS.icmpNo X0.here hx rfl (hb hby own_d1_3) rfl (feq hc3).1 ?_
      show own_S p e below s₁ m 6 #[sI p1] [] _
      refine XS.iloadN X0.here hx rfl (hb hby own_d1_6) rfl ?_
      show own_S p e below s₁ m 7 #[sI p1] [(.int p1)] _
      refine XS.bipush X0.here hx rfl (hb hby own_d1_7) ?_
      exact k)
    by_cases hc9 : p1 < (9 : Int32)
    · have pre4 : ∀ t, own_S p e below s₁ m 23 #[sI p1] [(.int 0)] t → R0 t := fun t k => pre3 t (by
        refine XS.icmpYes X0.here hx rfl (pc0 := 9) (pc' := 22) rfl (hb hby own_d1_9) rfl (tlt hc9).1 (by decide) (by decide) ?_
        show own_S p e below s₁ m 22 #[sI p1] [] _
        refine XS.iconst X0.here hx rfl (hb hby own_d1_22) ?_
        exact k)
      obtain ⟨fs, hr, hrun, hended, hW, hsame⟩ := X0.leave (v := some (.int 0)) (fun h => by rw [Bd.returns] at h; cases h)
      refine ⟨_, _, cast (congrFun hR0 _) (pre4 _ (retN X0 hx (t := .boolean) Bd.returns (by simp) (hb hby own_d1_23) hr)), hrun, hended, _, _, rfl, ?_, ⟨_, rfl⟩, hW, hsame.mono (by decide) (by decide)⟩
      show own_Q1 Z _ h0 n0 _ s₁.heap _
      rw [e0]
      exact ⟨(by rw [own_sp, if_neg (by (simp only [Int32.lt_iff_toInt_lt, ← Int32.toInt_inj, Int32.reduceToInt] at hc3 hc9; omega))]), N0, rfl⟩
    · have pre5 : ∀ t, own_S p e below s₁ m 15 #[sI p1] [(.int 13), (.int p1)] t → R0 t := fun t k => pre3 t (by
        refine XS.icmpNo X0.here hx rfl (hb hby own_d1_9) rfl (flt hc9).1 ?_
        show own_S p e below s₁ m 12 #[sI p1] [] _
        refine XS.iloadN X0.here hx rfl (hb hby own_d1_12) rfl ?_
        show own_S p e below s₁ m 13 #[sI p1] [(.int p1)] _
        refine XS.bipush X0.here hx rfl (hb hby own_d1_13) ?_
        exact k)
      by_cases hc15 : (13 : Int32) < p1
      · have pre6 : ∀ t, own_S p e below s₁ m 23 #[sI p1] [(.int 0)] t → R0 t := fun t k => pre5 t (by
          refine XS.icmpYes X0.here hx rfl (pc0 := 15) (pc' := 22) rfl (hb hby own_d1_15) rfl (tlt hc15).2.2.1 (by decide) (by decide) ?_
          show own_S p e below s₁ m 22 #[sI p1] [] _
          refine XS.iconst X0.here hx rfl (hb hby own_d1_22) ?_
          exact k)
        obtain ⟨fs, hr, hrun, hended, hW, hsame⟩ := X0.leave (v := some (.int 0)) (fun h => by rw [Bd.returns] at h; cases h)
        refine ⟨_, _, cast (congrFun hR0 _) (pre6 _ (retN X0 hx (t := .boolean) Bd.returns (by simp) (hb hby own_d1_23) hr)), hrun, hended, _, _, rfl, ?_, ⟨_, rfl⟩, hW, hsame.mono (by decide) (by decide)⟩
        show own_Q1 Z _ h0 n0 _ s₁.heap _
        rw [e0]
        exact ⟨(by rw [own_sp, if_neg (by (simp only [Int32.lt_iff_toInt_lt, ← Int32.toInt_inj, Int32.reduceToInt] at hc3 hc9 hc15; omega))]), N0, rfl⟩
      · have pre7 : ∀ t, own_S p e below s₁ m 23 #[sI p1] [(.int 1)] t → R0 t := fun t k => pre5 t (by
          refine XS.icmpNo X0.here hx rfl (hb hby own_d1_15) rfl (flt hc15).2.2.1 ?_
          show own_S p e below s₁ m 18 #[sI p1] [] _
          refine XS.iconst X0.here hx rfl (hb hby own_d1_18) ?_
          show own_S p e below s₁ m 19 #[sI p1] [(.int 1)] _
          refine XS.goto X0.here hx rfl (pc0 := 19) (pc' := 23) rfl (hb hby own_d1_19) (by decide) (by decide) ?_
          exact k)
        obtain ⟨fs, hr, hrun, hended, hW, hsame⟩ := X0.leave (v := some (.int 1)) (fun h => by rw [Bd.returns] at h; cases h)
        refine ⟨_, _, cast (congrFun hR0 _) (pre7 _ (retN X0 hx (t := .boolean) Bd.returns (by simp) (hb hby own_d1_23) hr)), hrun, hended, _, _, rfl, ?_, ⟨_, rfl⟩, hW, hsame.mono (by decide) (by decide)⟩
        show own_Q1 Z _ h0 n0 _ s₁.heap _
        rw [e0]
        exact ⟨(by rw [own_sp, if_pos (by (simp only [Int32.lt_iff_toInt_lt, ← Int32.toInt_inj, Int32.reduceToInt] at hc3 hc9 hc15; omega))]), N0, rfl⟩
theorem own_pd_0 : parseMethodDescriptor "(C)Z" = some ⟨[.char], some .boolean⟩ := by decide +kernel
theorem own_pn_1 : plainName "com/example/querylathe/querylathe/sql/LexerIsSpacePinLaw" = true := by first | (simp [plainName, overriddenIn]; done) | decide +kernel
theorem own_ef_0 (m : MethodId) (x0 : Int32) (x1 : Int32) : entryFrame m #[(.int x0), (.int x1)] maxLocals = mkF m 0 #[sI x0, sI x1, .unset, .unset] [] := by first | (simp [entryFrame, mkF, argsToLocals, Value.category, maxLocals]; done) | rfl
def own_Q0 (Z : State) (p1 : Int32) (p2 : Int32) (h0 : Heap) (n0 : Nat) (v : Option Value) (h : Heap) (L : List Loc) : Prop := v = some (.int 1) ∧ Fr n0 L
set_option maxRecDepth 65536 in
set_option maxHeartbeats 40000000 in
theorem own_rm0 (l : Launch) (Z : State) (a0 : Array Value) (hw : ∀ d ∈ tables_1, d.before a0 Z = true) (ws : List Jvm.Cond) (p1 : Int32) (p2 : Int32) (h0 : Heap) (n0 : Nat) (Z0 : n0 ≤ h0.size)  :
    MetFree l x (head1 (Jvm.Cond.code x code maxLocals ret :: ws) room_1) (fun a U => a = #[(.int p1), (.int p2)] ∧ Z.Warmed39 U.vm ∧ U.heap = h0) (fun _ _ _ _ _ => True) (fun _ U o U' => ∃ v L, o = .returned v ∧ own_Q0 Z p1 p2 h0 n0 v U'.heap L ∧ FrameEnd U o U' L room_1.cells room_1.slots) := by
  refine MetFree.of_bodySF (plainFor_of_name own_pn_1) hisR ?_
  intro p e s m args below meth c s₁ Bd hml0 hP hK
  obtain ⟨rfl, hZ, hh⟩ := hP
  have hw0 := hw _ (List.mem_of_getElem? (i := 0) rfl)
  have hw1 := hw _ (List.mem_of_getElem? (i := 1) rfl)
  have hw2 := hw _ (List.mem_of_getElem? (i := 2) rfl)
  have hw3 := hw _ (List.mem_of_getElem? (i := 3) rfl)
  have hx := Bd.exec
  have hby := Bd.bytes
  have hml : c.maxLocals = 4 := hml0
  have hown : s.vm.findClass "com/example/querylathe/querylathe/sql/LexerIsSpacePinLaw" = some m.cls := findClass_of_methodNamed Bd.named
  have hnm := (name_of_methodNamed Bd.named Bd.method).1
  have X0 : Stand p l e room_1 s m #[(.int p1), (.int p2)] below meth c s₁ [] 0 0 := Stand.of_body Bd
  have e0 : s₁.heap = h0 := by rw [← hh, Bd.state]; rfl
  have N0 := Fr.nil n0
  obtain ⟨R0, hR0⟩ : ∃ R : State → Prop, R = fun t => Steps p.tables e below (s₁.setTop (entryFrame m #[(.int p1), (.int p2)] maxLocals)) t := ⟨_, rfl⟩
  have pre0 : ∀ t, Steps p.tables e below (s₁.setTop (mkF m 0 #[sI p1, sI p2, sU, sU] [])) t → R0 t := fun t k => by rw [hR0]; exact castTop (own_ef_0 m p1 p2) k
  have pre1 : ∀ t, own_S p e below s₁ m 3 #[sI p1, sI p2, sU, sU] [(.int (p2 &&& (1 : Int32)))] t → R0 t := fun t k => pre0 t (by
    refine XS.iloadN X0.here hx rfl (hb hby at_0) rfl ?_
    show own_S p e below s₁ m 1 #[sI p1, sI p2, sU, sU] [(.int p2)] _
    refine XS.iconst X0.here hx rfl (hb hby at_1) ?_
    show own_S p e below s₁ m 2 #[sI p1, sI p2, sU, sU] [(.int 1), (.int p2)] _
    refine XS.iand X0.here hx rfl (hb hby at_2) rfl ?_
    exact k)
  by_cases hc3 : (p2 &&& (1 : Int32)) = (0 : Int32)
  · have pre2 : ∀ t, own_S p e below s₁ m 16 #[sI p1, sI p2, sU, sU] [(.int (p1.toUInt32.toUInt16.toUInt32.toInt32))] t → R0 t := fun t k => pre1 t (by
      refine XS.ifYes X0.here hx rfl (pc0 := 3) (pc' := 14) rfl (hb hby at_3) rfl ((if0 _ _).trans (teq hc3).1) (by decide) (by decide) ?_
      show own_S p e below s₁ m 14 #[sI p1, sI p2, sU, sU] [] _
      refine XS.iloadN X0.here hx rfl (hb hby at_14) rfl ?_
      show own_S p e below s₁ m 15 #[sI p1, sI p2, sU, sU] [(.int p1)] _
      refine XS.i2c X0.here hx rfl (hb hby at_15) rfl ?_
      exact k)
    obtain ⟨v2, hv2⟩ : ∃ z : Int32, z = (p1.toUInt32.toUInt16.toUInt32.toInt32) := ⟨_, rfl⟩
    have pre3 : ∀ t, own_S p e below s₁ m 16 #[sI p1, sI p2, sU, sU] [(.int v2)] t → R0 t := fun t k => pre2 t (by subst hv2; exact k)
    have pre4 : ∀ t, own_S p e below s₁ m 20 #[sI p1, sI p2, sI v2, sU] [(.int 32), (.int v2)] t → R0 t := fun t k => pre3 t (by
      refine XS.istoreN X0.here hx rfl (hb hby at_16) rfl (l' := #[sI p1, sI p2, sI v2, sU]) rfl ?_
      show own_S p e below s₁ m 17 #[sI p1, sI p2, sI v2, sU] [] _
      refine XS.iloadN X0.here hx rfl (hb hby at_17) rfl ?_
      show own_S p e below s₁ m 18 #[sI p1, sI p2, sI v2, sU] [(.int v2)] _
      refine XS.bipush X0.here hx rfl (hb hby at_18) ?_
      exact k)
    by_cases hc20 : v2 = (32 : Int32)
    · have pre5 : ∀ t, own_S p e below s₁ m 60 #[sI p1, sI p2, sI v2, sI 1] [(.int v2)] t → R0 t := fun t k => pre4 t (by
        refine XS.icmpYes X0.here hx rfl (pc0 := 20) (pc' := 53) rfl (hb hby at_20) rfl (teq hc20).1 (by decide) (by decide) ?_
        show own_S p e below s₁ m 53 #[sI p1, sI p2, sI v2, sU] [] _
        refine XS.iconst X0.here hx rfl (hb hby at_53) ?_
        show own_S p e below s₁ m 54 #[sI p1, sI p2, sI v2, sU] [(.int 1)] _
        refine XS.goto X0.here hx rfl (pc0 := 54) (pc' := 58) rfl (hb hby at_54) (by decide) (by decide) ?_
        show own_S p e below s₁ m 58 #[sI p1, sI p2, sI v2, sU] [(.int 1)] _
        refine XS.istoreN X0.here hx rfl (hb hby at_58) rfl (l' := #[sI p1, sI p2, sI v2, sI 1]) rfl ?_
        show own_S p e below s₁ m 59 #[sI p1, sI p2, sI v2, sI 1] [] _
        refine XS.iloadN X0.here hx rfl (hb hby at_59) rfl ?_
        exact k)
      obtain ⟨_, _, ⟨T6, L6, k6, n6⟩, -, X6, ⟨Lc6, hQ6, l6, y6, z6⟩, st6⟩ := Jvm.LawKit.callS X0 hx (y := own_y0) hown (mvT hZ hw0) (mvT hZ hw1) (mvT hZ hw2) (mvT hZ hw3) (by decide) (backOf (W := 0) (own_rm1 l Z a0 hw [] v2 h0 n0 Z0 ) hZ hw3 hw2 (by decide) (by decide)) (g := (mkF m 60 #[sI p1, sI p2, sI v2, sI 1] [(.int v2)])) rfl (by rw [hml]; rfl) (argsL := [(.int v2)]) (rest := []) (lenOf own_pd_0 rfl) rfl (by show 2 * 0 + _ ≤ _; exact Nat.le_of_eq rfl) (hb hby at_60) (fun _ _ => ⟨rfl, e0, (by decide : 0 + 0 ≤ _), (by decide : 0 + 0 ≤ _)⟩)
      dsimp only [Pt.U, Pt.locs, Pt.cells, Pt.slots] at X6 l6 y6 z6 st6 hQ6
      subst l6 y6 z6
      obtain ⟨rfl, N6q, eh6⟩ := hQ6
      have N6 := Fr.app N0 N6q
      have pre7 : ∀ t, own_S p e below T6 m 64 #[sI p1, sI p2, sI v2, sI 1] [(.int 1), (.int (own_sp v2))] t → R0 t := fun t k => pre5 t (by
        refine st6 _ ?_
        show own_S p e below T6 m 63 #[sI p1, sI p2, sI v2, sI 1] [(.int (own_sp v2))] _
        refine XS.iloadN X6.here hx rfl (hb hby at_63) rfl ?_
        exact k)
      have hc8 : (own_sp v2) = (1 : Int32) := by rw [own_sp, if_pos (by (simp only [Int32.lt_iff_toInt_lt, ← Int32.toInt_inj, Int32.reduceToInt] at hc20; omega))]
      have pre9 : ∀ t, own_S p e below T6 m 72 #[sI p1, sI p2, sI v2, sI 1] [(.int 1)] t → R0 t := fun t k => pre7 t (by
        refine XS.icmpNo X6.here hx rfl (hb hby at_64) rfl (teq hc8).2 ?_
        show own_S p e below T6 m 67 #[sI p1, sI p2, sI v2, sI 1] [] _
        refine XS.iconst X6.here hx rfl (hb hby at_67) ?_
        show own_S p e below T6 m 68 #[sI p1, sI p2, sI v2, sI 1] [(.int 1)] _
        refine XS.goto X6.here hx rfl (pc0 := 68) (pc' := 72) rfl (hb hby at_68) (by decide) (by decide) ?_
        exact k)
      obtain ⟨fs, hr, hrun, hended, hW, hsame⟩ := X6.leave (v := some (.int 1)) (fun h => by rw [Bd.returns] at h; cases h)
      refine ⟨_, _, cast (congrFun hR0 _) (pre9 _ (retN X6 hx (t := .boolean) Bd.returns (by simp) (hb hby at_72) hr)), hrun, hended, _, _, rfl, ?_, ⟨_, rfl⟩, hW, hsame.mono (by decide) (by decide)⟩
      show own_Q0 Z _ _ h0 n0 _ T6.heap _
      rw [eh6]
      exact ⟨rfl, N6⟩
    · have pre10 : ∀ t, own_S p e below s₁ m 26 #[sI p1, sI p2, sI v2, sU] [(.int 9), (.int v2)] t → R0 t := fun t k => pre4 t (by
        refine XS.icmpNo X0.here hx rfl (hb hby at_20) rfl (feq hc20).1 ?_
        show own_S p e below s₁ m 23 #[sI p1, sI p2, sI v2, sU] [] _
        refine XS.iloadN X0.here hx rfl (hb hby at_23) rfl ?_
        show own_S p e below s₁ m 24 #[sI p1, sI p2, sI v2, sU] [(.int v2)] _
        refine XS.bipush X0.here hx rfl (hb hby at_24) ?_
        exact k)
      by_cases hc26 : v2 = (9 : Int32)
      · have pre11 : ∀ t, own_S p e below s₁ m 60 #[sI p1, sI p2, sI v2, sI 1] [(.int v2)] t → R0 t := fun t k => pre10 t (by
          refine XS.icmpYes X0.here hx rfl (pc0 := 26) (pc' := 53) rfl (hb hby at_26) rfl (teq hc26).1 (by decide) (by decide) ?_
          show own_S p e below s₁ m 53 #[sI p1, sI p2, sI v2, sU] [] _
          refine XS.iconst X0.here hx rfl (hb hby at_53) ?_
          show own_S p e below s₁ m 54 #[sI p1, sI p2, sI v2, sU] [(.int 1)] _
          refine XS.goto X0.here hx rfl (pc0 := 54) (pc' := 58) rfl (hb hby at_54) (by decide) (by decide) ?_
          show own_S p e below s₁ m 58 #[sI p1, sI p2, sI v2, sU] [(.int 1)] _
          refine XS.istoreN X0.here hx rfl (hb hby at_58) rfl (l' := #[sI p1, sI p2, sI v2, sI 1]) rfl ?_
          show own_S p e below s₁ m 59 #[sI p1, sI p2, sI v2, sI 1] [] _
          refine XS.iloadN X0.here hx rfl (hb hby at_59) rfl ?_
          exact k)
        obtain ⟨_, _, ⟨T12, L12, k12, n12⟩, -, X12, ⟨Lc12, hQ12, l12, y12, z12⟩, st12⟩ := Jvm.LawKit.callS X0 hx (y := own_y0) hown (mvT hZ hw0) (mvT hZ hw1) (mvT hZ hw2) (mvT hZ hw3) (by decide) (backOf (W := 0) (own_rm1 l Z a0 hw [] v2 h0 n0 Z0 ) hZ hw3 hw2 (by decide) (by decide)) (g := (mkF m 60 #[sI p1, sI p2, sI v2, sI 1] [(.int v2)])) rfl (by rw [hml]; rfl) (argsL := [(.int v2)]) (rest := []) (lenOf own_pd_0 rfl) rfl (by show 2 * 0 + _ ≤ _; exact Nat.le_of_eq rfl) (hb hby at_60) (fun _ _ => ⟨rfl, e0, (by decide : 0 + 0 ≤ _), (by decide : 0 + 0 ≤ _)⟩)
        dsimp only [Pt.U, Pt.locs, Pt.cells, Pt.slots] at X12 l12 y12 z12 st12 hQ12
        subst l12 y12 z12
        obtain ⟨rfl, N12q, eh12⟩ := hQ12
        have N12 := Fr.app N0 N12q
        have pre13 : ∀ t, own_S p e below T12 m 64 #[sI p1, sI p2, sI v2, sI 1] [(.int 1), (.int (own_sp v2))] t → R0 t := fun t k => pre11 t (by
          refine st12 _ ?_
          show own_S p e below T12 m 63 #[sI p1, sI p2, sI v2, sI 1] [(.int (own_sp v2))] _
          refine XS.iloadN X12.here hx rfl (hb hby at_63) rfl ?_
          exact k)
        have hc14 : (own_sp v2) = (1 : Int32) := by rw [own_sp, if_pos (by (simp only [Int32.lt_iff_toInt_lt, ← Int32.toInt_inj, Int32.reduceToInt] at hc20 hc26; omega))]
        have pre15 : ∀ t, own_S p e below T12 m 72 #[sI p1, sI p2, sI v2, sI 1] [(.int 1)] t → R0 t := fun t k => pre13 t (by
          refine XS.icmpNo X12.here hx rfl (hb hby at_64) rfl (teq hc14).2 ?_
          show own_S p e below T12 m 67 #[sI p1, sI p2, sI v2, sI 1] [] _
          refine XS.iconst X12.here hx rfl (hb hby at_67) ?_
          show own_S p e below T12 m 68 #[sI p1, sI p2, sI v2, sI 1] [(.int 1)] _
          refine XS.goto X12.here hx rfl (pc0 := 68) (pc' := 72) rfl (hb hby at_68) (by decide) (by decide) ?_
          exact k)
        obtain ⟨fs, hr, hrun, hended, hW, hsame⟩ := X12.leave (v := some (.int 1)) (fun h => by rw [Bd.returns] at h; cases h)
        refine ⟨_, _, cast (congrFun hR0 _) (pre15 _ (retN X12 hx (t := .boolean) Bd.returns (by simp) (hb hby at_72) hr)), hrun, hended, _, _, rfl, ?_, ⟨_, rfl⟩, hW, hsame.mono (by decide) (by decide)⟩
        show own_Q0 Z _ _ h0 n0 _ T12.heap _
        rw [eh12]
        exact ⟨rfl, N12⟩
      · have pre16 : ∀ t, own_S p e below s₁ m 32 #[sI p1, sI p2, sI v2, sU] [(.int 10), (.int v2)] t → R0 t := fun t k => pre10 t (by
          refine XS.icmpNo X0.here hx rfl (hb hby at_26) rfl (feq hc26).1 ?_
          show own_S p e below s₁ m 29 #[sI p1, sI p2, sI v2, sU] [] _
          refine XS.iloadN X0.here hx rfl (hb hby at_29) rfl ?_
          show own_S p e below s₁ m 30 #[sI p1, sI p2, sI v2, sU] [(.int v2)] _
          refine XS.bipush X0.here hx rfl (hb hby at_30) ?_
          exact k)
        by_cases hc32 : v2 = (10 : Int32)
        · have pre17 : ∀ t, own_S p e below s₁ m 60 #[sI p1, sI p2, sI v2, sI 1] [(.int v2)] t → R0 t := fun t k => pre16 t (by
            refine XS.icmpYes X0.here hx rfl (pc0 := 32) (pc' := 53) rfl (hb hby at_32) rfl (teq hc32).1 (by decide) (by decide) ?_
            show own_S p e below s₁ m 53 #[sI p1, sI p2, sI v2, sU] [] _
            refine XS.iconst X0.here hx rfl (hb hby at_53) ?_
            show own_S p e below s₁ m 54 #[sI p1, sI p2, sI v2, sU] [(.int 1)] _
            refine XS.goto X0.here hx rfl (pc0 := 54) (pc' := 58) rfl (hb hby at_54) (by decide) (by decide) ?_
            show own_S p e below s₁ m 58 #[sI p1, sI p2, sI v2, sU] [(.int 1)] _
            refine XS.istoreN X0.here hx rfl (hb hby at_58) rfl (l' := #[sI p1, sI p2, sI v2, sI 1]) rfl ?_
            show own_S p e below s₁ m 59 #[sI p1, sI p2, sI v2, sI 1] [] _
            refine XS.iloadN X0.here hx rfl (hb hby at_59) rfl ?_
            exact k)
          obtain ⟨_, _, ⟨T18, L18, k18, n18⟩, -, X18, ⟨Lc18, hQ18, l18, y18, z18⟩, st18⟩ := Jvm.LawKit.callS X0 hx (y := own_y0) hown (mvT hZ hw0) (mvT hZ hw1) (mvT hZ hw2) (mvT hZ hw3) (by decide) (backOf (W := 0) (own_rm1 l Z a0 hw [] v2 h0 n0 Z0 ) hZ hw3 hw2 (by decide) (by decide)) (g := (mkF m 60 #[sI p1, sI p2, sI v2, sI 1] [(.int v2)])) rfl (by rw [hml]; rfl) (argsL := [(.int v2)]) (rest := []) (lenOf own_pd_0 rfl) rfl (by show 2 * 0 + _ ≤ _; exact Nat.le_of_eq rfl) (hb hby at_60) (fun _ _ => ⟨rfl, e0, (by decide : 0 + 0 ≤ _), (by decide : 0 + 0 ≤ _)⟩)
          dsimp only [Pt.U, Pt.locs, Pt.cells, Pt.slots] at X18 l18 y18 z18 st18 hQ18
          subst l18 y18 z18
          obtain ⟨rfl, N18q, eh18⟩ := hQ18
          have N18 := Fr.app N0 N18q
          have pre19 : ∀ t, own_S p e below T18 m 64 #[sI p1, sI p2, sI v2, sI 1] [(.int 1), (.int (own_sp v2))] t → R0 t := fun t k => pre17 t (by
            refine st18 _ ?_
            show own_S p e below T18 m 63 #[sI p1, sI p2, sI v2, sI 1] [(.int (own_sp v2))] _
            refine XS.iloadN X18.here hx rfl (hb hby at_63) rfl ?_
            exact k)
          have hc20 : (own_sp v2) = (1 : Int32) := by rw [own_sp, if_pos (by (simp only [Int32.lt_iff_toInt_lt, ← Int32.toInt_inj, Int32.reduceToInt] at hc20 hc26 hc32; omega))]
          have pre21 : ∀ t, own_S p e below T18 m 72 #[sI p1, sI p2, sI v2, sI 1] [(.int 1)] t → R0 t := fun t k => pre19 t (by
            refine XS.icmpNo X18.here hx rfl (hb hby at_64) rfl (teq hc20).2 ?_
            show own_S p e below T18 m 67 #[sI p1, sI p2, sI v2, sI 1] [] _
            refine XS.iconst X18.here hx rfl (hb hby at_67) ?_
            show own_S p e below T18 m 68 #[sI p1, sI p2, sI v2, sI 1] [(.int 1)] _
            refine XS.goto X18.here hx rfl (pc0 := 68) (pc' := 72) rfl (hb hby at_68) (by decide) (by decide) ?_
            exact k)
          obtain ⟨fs, hr, hrun, hended, hW, hsame⟩ := X18.leave (v := some (.int 1)) (fun h => by rw [Bd.returns] at h; cases h)
          refine ⟨_, _, cast (congrFun hR0 _) (pre21 _ (retN X18 hx (t := .boolean) Bd.returns (by simp) (hb hby at_72) hr)), hrun, hended, _, _, rfl, ?_, ⟨_, rfl⟩, hW, hsame.mono (by decide) (by decide)⟩
          show own_Q0 Z _ _ h0 n0 _ T18.heap _
          rw [eh18]
          exact ⟨rfl, N18⟩
        · have pre22 : ∀ t, own_S p e below s₁ m 38 #[sI p1, sI p2, sI v2, sU] [(.int 11), (.int v2)] t → R0 t := fun t k => pre16 t (by
            refine XS.icmpNo X0.here hx rfl (hb hby at_32) rfl (feq hc32).1 ?_
            show own_S p e below s₁ m 35 #[sI p1, sI p2, sI v2, sU] [] _
            refine XS.iloadN X0.here hx rfl (hb hby at_35) rfl ?_
            show own_S p e below s₁ m 36 #[sI p1, sI p2, sI v2, sU] [(.int v2)] _
            refine XS.bipush X0.here hx rfl (hb hby at_36) ?_
            exact k)
          by_cases hc38 : v2 = (11 : Int32)
          · have pre23 : ∀ t, own_S p e below s₁ m 60 #[sI p1, sI p2, sI v2, sI 1] [(.int v2)] t → R0 t := fun t k => pre22 t (by
              refine XS.icmpYes X0.here hx rfl (pc0 := 38) (pc' := 53) rfl (hb hby at_38) rfl (teq hc38).1 (by decide) (by decide) ?_
              show own_S p e below s₁ m 53 #[sI p1, sI p2, sI v2, sU] [] _
              refine XS.iconst X0.here hx rfl (hb hby at_53) ?_
              show own_S p e below s₁ m 54 #[sI p1, sI p2, sI v2, sU] [(.int 1)] _
              refine XS.goto X0.here hx rfl (pc0 := 54) (pc' := 58) rfl (hb hby at_54) (by decide) (by decide) ?_
              show own_S p e below s₁ m 58 #[sI p1, sI p2, sI v2, sU] [(.int 1)] _
              refine XS.istoreN X0.here hx rfl (hb hby at_58) rfl (l' := #[sI p1, sI p2, sI v2, sI 1]) rfl ?_
              show own_S p e below s₁ m 59 #[sI p1, sI p2, sI v2, sI 1] [] _
              refine XS.iloadN X0.here hx rfl (hb hby at_59) rfl ?_
              exact k)
            obtain ⟨_, _, ⟨T24, L24, k24, n24⟩, -, X24, ⟨Lc24, hQ24, l24, y24, z24⟩, st24⟩ := Jvm.LawKit.callS X0 hx (y := own_y0) hown (mvT hZ hw0) (mvT hZ hw1) (mvT hZ hw2) (mvT hZ hw3) (by decide) (backOf (W := 0) (own_rm1 l Z a0 hw [] v2 h0 n0 Z0 ) hZ hw3 hw2 (by decide) (by decide)) (g := (mkF m 60 #[sI p1, sI p2, sI v2, sI 1] [(.int v2)])) rfl (by rw [hml]; rfl) (argsL := [(.int v2)]) (rest := []) (lenOf own_pd_0 rfl) rfl (by show 2 * 0 + _ ≤ _; exact Nat.le_of_eq rfl) (hb hby at_60) (fun _ _ => ⟨rfl, e0, (by decide : 0 + 0 ≤ _), (by decide : 0 + 0 ≤ _)⟩)
            dsimp only [Pt.U, Pt.locs, Pt.cells, Pt.slots] at X24 l24 y24 z24 st24 hQ24
            subst l24 y24 z24
            obtain ⟨rfl, N24q, eh24⟩ := hQ24
            have N24 := Fr.app N0 N24q
            have pre25 : ∀ t, own_S p e below T24 m 64 #[sI p1, sI p2, sI v2, sI 1] [(.int 1), (.int (own_sp v2))] t → R0 t := fun t k => pre23 t (by
              refine st24 _ ?_
              show own_S p e below T24 m 63 #[sI p1, sI p2, sI v2, sI 1] [(.int (own_sp v2))] _
              refine XS.iloadN X24.here hx rfl (hb hby at_63) rfl ?_
              exact k)
            have hc26 : (own_sp v2) = (1 : Int32) := by rw [own_sp, if_pos (by (simp only [Int32.lt_iff_toInt_lt, ← Int32.toInt_inj, Int32.reduceToInt] at hc20 hc26 hc32 hc38; omega))]
            have pre27 : ∀ t, own_S p e below T24 m 72 #[sI p1, sI p2, sI v2, sI 1] [(.int 1)] t → R0 t := fun t k => pre25 t (by
              refine XS.icmpNo X24.here hx rfl (hb hby at_64) rfl (teq hc26).2 ?_
              show own_S p e below T24 m 67 #[sI p1, sI p2, sI v2, sI 1] [] _
              refine XS.iconst X24.here hx rfl (hb hby at_67) ?_
              show own_S p e below T24 m 68 #[sI p1, sI p2, sI v2, sI 1] [(.int 1)] _
              refine XS.goto X24.here hx rfl (pc0 := 68) (pc' := 72) rfl (hb hby at_68) (by decide) (by decide) ?_
              exact k)
            obtain ⟨fs, hr, hrun, hended, hW, hsame⟩ := X24.leave (v := some (.int 1)) (fun h => by rw [Bd.returns] at h; cases h)
            refine ⟨_, _, cast (congrFun hR0 _) (pre27 _ (retN X24 hx (t := .boolean) Bd.returns (by simp) (hb hby at_72) hr)), hrun, hended, _, _, rfl, ?_, ⟨_, rfl⟩, hW, hsame.mono (by decide) (by decide)⟩
            show own_Q0 Z _ _ h0 n0 _ T24.heap _
            rw [eh24]
            exact ⟨rfl, N24⟩
          · have pre28 : ∀ t, own_S p e below s₁ m 44 #[sI p1, sI p2, sI v2, sU] [(.int 12), (.int v2)] t → R0 t := fun t k => pre22 t (by
              refine XS.icmpNo X0.here hx rfl (hb hby at_38) rfl (feq hc38).1 ?_
              show own_S p e below s₁ m 41 #[sI p1, sI p2, sI v2, sU] [] _
              refine XS.iloadN X0.here hx rfl (hb hby at_41) rfl ?_
              show own_S p e below s₁ m 42 #[sI p1, sI p2, sI v2, sU] [(.int v2)] _
              refine XS.bipush X0.here hx rfl (hb hby at_42) ?_
              exact k)
            by_cases hc44 : v2 = (12 : Int32)
            · have pre29 : ∀ t, own_S p e below s₁ m 60 #[sI p1, sI p2, sI v2, sI 1] [(.int v2)] t → R0 t := fun t k => pre28 t (by
                refine XS.icmpYes X0.here hx rfl (pc0 := 44) (pc' := 53) rfl (hb hby at_44) rfl (teq hc44).1 (by decide) (by decide) ?_
                show own_S p e below s₁ m 53 #[sI p1, sI p2, sI v2, sU] [] _
                refine XS.iconst X0.here hx rfl (hb hby at_53) ?_
                show own_S p e below s₁ m 54 #[sI p1, sI p2, sI v2, sU] [(.int 1)] _
                refine XS.goto X0.here hx rfl (pc0 := 54) (pc' := 58) rfl (hb hby at_54) (by decide) (by decide) ?_
                show own_S p e below s₁ m 58 #[sI p1, sI p2, sI v2, sU] [(.int 1)] _
                refine XS.istoreN X0.here hx rfl (hb hby at_58) rfl (l' := #[sI p1, sI p2, sI v2, sI 1]) rfl ?_
                show own_S p e below s₁ m 59 #[sI p1, sI p2, sI v2, sI 1] [] _
                refine XS.iloadN X0.here hx rfl (hb hby at_59) rfl ?_
                exact k)
              obtain ⟨_, _, ⟨T30, L30, k30, n30⟩, -, X30, ⟨Lc30, hQ30, l30, y30, z30⟩, st30⟩ := Jvm.LawKit.callS X0 hx (y := own_y0) hown (mvT hZ hw0) (mvT hZ hw1) (mvT hZ hw2) (mvT hZ hw3) (by decide) (backOf (W := 0) (own_rm1 l Z a0 hw [] v2 h0 n0 Z0 ) hZ hw3 hw2 (by decide) (by decide)) (g := (mkF m 60 #[sI p1, sI p2, sI v2, sI 1] [(.int v2)])) rfl (by rw [hml]; rfl) (argsL := [(.int v2)]) (rest := []) (lenOf own_pd_0 rfl) rfl (by show 2 * 0 + _ ≤ _; exact Nat.le_of_eq rfl) (hb hby at_60) (fun _ _ => ⟨rfl, e0, (by decide : 0 + 0 ≤ _), (by decide : 0 + 0 ≤ _)⟩)
              dsimp only [Pt.U, Pt.locs, Pt.cells, Pt.slots] at X30 l30 y30 z30 st30 hQ30
              subst l30 y30 z30
              obtain ⟨rfl, N30q, eh30⟩ := hQ30
              have N30 := Fr.app N0 N30q
              have pre31 : ∀ t, own_S p e below T30 m 64 #[sI p1, sI p2, sI v2, sI 1] [(.int 1), (.int (own_sp v2))] t → R0 t := fun t k => pre29 t (by
                refine st30 _ ?_
                show own_S p e below T30 m 63 #[sI p1, sI p2, sI v2, sI 1] [(.int (own_sp v2))] _
                refine XS.iloadN X30.here hx rfl (hb hby at_63) rfl ?_
                exact k)
              have hc32 : (own_sp v2) = (1 : Int32) := by rw [own_sp, if_pos (by (simp only [Int32.lt_iff_toInt_lt, ← Int32.toInt_inj, Int32.reduceToInt] at hc20 hc26 hc32 hc38 hc44; omega))]
              have pre33 : ∀ t, own_S p e below T30 m 72 #[sI p1, sI p2, sI v2, sI 1] [(.int 1)] t → R0 t := fun t k => pre31 t (by
                refine XS.icmpNo X30.here hx rfl (hb hby at_64) rfl (teq hc32).2 ?_
                show own_S p e below T30 m 67 #[sI p1, sI p2, sI v2, sI 1] [] _
                refine XS.iconst X30.here hx rfl (hb hby at_67) ?_
                show own_S p e below T30 m 68 #[sI p1, sI p2, sI v2, sI 1] [(.int 1)] _
                refine XS.goto X30.here hx rfl (pc0 := 68) (pc' := 72) rfl (hb hby at_68) (by decide) (by decide) ?_
                exact k)
              obtain ⟨fs, hr, hrun, hended, hW, hsame⟩ := X30.leave (v := some (.int 1)) (fun h => by rw [Bd.returns] at h; cases h)
              refine ⟨_, _, cast (congrFun hR0 _) (pre33 _ (retN X30 hx (t := .boolean) Bd.returns (by simp) (hb hby at_72) hr)), hrun, hended, _, _, rfl, ?_, ⟨_, rfl⟩, hW, hsame.mono (by decide) (by decide)⟩
              show own_Q0 Z _ _ h0 n0 _ T30.heap _
              rw [eh30]
              exact ⟨rfl, N30⟩
            · have pre34 : ∀ t, own_S p e below s₁ m 50 #[sI p1, sI p2, sI v2, sU] [(.int 13), (.int v2)] t → R0 t := fun t k => pre28 t (by
                refine XS.icmpNo X0.here hx rfl (hb hby at_44) rfl (feq hc44).1 ?_
                show own_S p e below s₁ m 47 #[sI p1, sI p2, sI v2, sU] [] _
                refine XS.iloadN X0.here hx rfl (hb hby at_47) rfl ?_
                show own_S p e below s₁ m 48 #[sI p1, sI p2, sI v2, sU] [(.int v2)] _
                refine XS.bipush X0.here hx rfl (hb hby at_48) ?_
                exact k)
              by_cases hc50 : v2 = (13 : Int32)
              · have pre35 : ∀ t, own_S p e below s₁ m 60 #[sI p1, sI p2, sI v2, sI 1] [(.int v2)] t → R0 t := fun t k => pre34 t (by
                  refine XS.icmpNo X0.here hx rfl (hb hby at_50) rfl (teq hc50).2 ?_
                  show own_S p e below s₁ m 53 #[sI p1, sI p2, sI v2, sU] [] _
                  refine XS.iconst X0.here hx rfl (hb hby at_53) ?_
                  show own_S p e below s₁ m 54 #[sI p1, sI p2, sI v2, sU] [(.int 1)] _
                  refine XS.goto X0.here hx rfl (pc0 := 54) (pc' := 58) rfl (hb hby at_54) (by decide) (by decide) ?_
                  show own_S p e below s₁ m 58 #[sI p1, sI p2, sI v2, sU] [(.int 1)] _
                  refine XS.istoreN X0.here hx rfl (hb hby at_58) rfl (l' := #[sI p1, sI p2, sI v2, sI 1]) rfl ?_
                  show own_S p e below s₁ m 59 #[sI p1, sI p2, sI v2, sI 1] [] _
                  refine XS.iloadN X0.here hx rfl (hb hby at_59) rfl ?_
                  exact k)
                obtain ⟨_, _, ⟨T36, L36, k36, n36⟩, -, X36, ⟨Lc36, hQ36, l36, y36, z36⟩, st36⟩ := Jvm.LawKit.callS X0 hx (y := own_y0) hown (mvT hZ hw0) (mvT hZ hw1) (mvT hZ hw2) (mvT hZ hw3) (by decide) (backOf (W := 0) (own_rm1 l Z a0 hw [] v2 h0 n0 Z0 ) hZ hw3 hw2 (by decide) (by decide)) (g := (mkF m 60 #[sI p1, sI p2, sI v2, sI 1] [(.int v2)])) rfl (by rw [hml]; rfl) (argsL := [(.int v2)]) (rest := []) (lenOf own_pd_0 rfl) rfl (by show 2 * 0 + _ ≤ _; exact Nat.le_of_eq rfl) (hb hby at_60) (fun _ _ => ⟨rfl, e0, (by decide : 0 + 0 ≤ _), (by decide : 0 + 0 ≤ _)⟩)
                dsimp only [Pt.U, Pt.locs, Pt.cells, Pt.slots] at X36 l36 y36 z36 st36 hQ36
                subst l36 y36 z36
                obtain ⟨rfl, N36q, eh36⟩ := hQ36
                have N36 := Fr.app N0 N36q
                have pre37 : ∀ t, own_S p e below T36 m 64 #[sI p1, sI p2, sI v2, sI 1] [(.int 1), (.int (own_sp v2))] t → R0 t := fun t k => pre35 t (by
                  refine st36 _ ?_
                  show own_S p e below T36 m 63 #[sI p1, sI p2, sI v2, sI 1] [(.int (own_sp v2))] _
                  refine XS.iloadN X36.here hx rfl (hb hby at_63) rfl ?_
                  exact k)
                have hc38 : (own_sp v2) = (1 : Int32) := by rw [own_sp, if_pos (by (simp only [Int32.lt_iff_toInt_lt, ← Int32.toInt_inj, Int32.reduceToInt] at hc20 hc26 hc32 hc38 hc44 hc50; omega))]
                have pre39 : ∀ t, own_S p e below T36 m 72 #[sI p1, sI p2, sI v2, sI 1] [(.int 1)] t → R0 t := fun t k => pre37 t (by
                  refine XS.icmpNo X36.here hx rfl (hb hby at_64) rfl (teq hc38).2 ?_
                  show own_S p e below T36 m 67 #[sI p1, sI p2, sI v2, sI 1] [] _
                  refine XS.iconst X36.here hx rfl (hb hby at_67) ?_
                  show own_S p e below T36 m 68 #[sI p1, sI p2, sI v2, sI 1] [(.int 1)] _
                  refine XS.goto X36.here hx rfl (pc0 := 68) (pc' := 72) rfl (hb hby at_68) (by decide) (by decide) ?_
                  exact k)
                obtain ⟨fs, hr, hrun, hended, hW, hsame⟩ := X36.leave (v := some (.int 1)) (fun h => by rw [Bd.returns] at h; cases h)
                refine ⟨_, _, cast (congrFun hR0 _) (pre39 _ (retN X36 hx (t := .boolean) Bd.returns (by simp) (hb hby at_72) hr)), hrun, hended, _, _, rfl, ?_, ⟨_, rfl⟩, hW, hsame.mono (by decide) (by decide)⟩
                show own_Q0 Z _ _ h0 n0 _ T36.heap _
                rw [eh36]
                exact ⟨rfl, N36⟩
              · have pre40 : ∀ t, own_S p e below s₁ m 60 #[sI p1, sI p2, sI v2, sI 0] [(.int v2)] t → R0 t := fun t k => pre34 t (by
                  refine XS.icmpYes X0.here hx rfl (pc0 := 50) (pc' := 57) rfl (hb hby at_50) rfl (feq hc50).2 (by decide) (by decide) ?_
                  show own_S p e below s₁ m 57 #[sI p1, sI p2, sI v2, sU] [] _
                  refine XS.iconst X0.here hx rfl (hb hby at_57) ?_
                  show own_S p e below s₁ m 58 #[sI p1, sI p2, sI v2, sU] [(.int 0)] _
                  refine XS.istoreN X0.here hx rfl (hb hby at_58) rfl (l' := #[sI p1, sI p2, sI v2, sI 0]) rfl ?_
                  show own_S p e below s₁ m 59 #[sI p1, sI p2, sI v2, sI 0] [] _
                  refine XS.iloadN X0.here hx rfl (hb hby at_59) rfl ?_
                  exact k)
                obtain ⟨_, _, ⟨T41, L41, k41, n41⟩, -, X41, ⟨Lc41, hQ41, l41, y41, z41⟩, st41⟩ := Jvm.LawKit.callS X0 hx (y := own_y0) hown (mvT hZ hw0) (mvT hZ hw1) (mvT hZ hw2) (mvT hZ hw3) (by decide) (backOf (W := 0) (own_rm1 l Z a0 hw [] v2 h0 n0 Z0 ) hZ hw3 hw2 (by decide) (by decide)) (g := (mkF m 60 #[sI p1, sI p2, sI v2, sI 0] [(.int v2)])) rfl (by rw [hml]; rfl) (argsL := [(.int v2)]) (rest := []) (lenOf own_pd_0 rfl) rfl (by show 2 * 0 + _ ≤ _; exact Nat.le_of_eq rfl) (hb hby at_60) (fun _ _ => ⟨rfl, e0, (by decide : 0 + 0 ≤ _), (by decide : 0 + 0 ≤ _)⟩)
                dsimp only [Pt.U, Pt.locs, Pt.cells, Pt.slots] at X41 l41 y41 z41 st41 hQ41
                subst l41 y41 z41
                obtain ⟨rfl, N41q, eh41⟩ := hQ41
                have N41 := Fr.app N0 N41q
                have pre42 : ∀ t, own_S p e below T41 m 64 #[sI p1, sI p2, sI v2, sI 0] [(.int 0), (.int (own_sp v2))] t → R0 t := fun t k => pre40 t (by
                  refine st41 _ ?_
                  show own_S p e below T41 m 63 #[sI p1, sI p2, sI v2, sI 0] [(.int (own_sp v2))] _
                  refine XS.iloadN X41.here hx rfl (hb hby at_63) rfl ?_
                  exact k)
                have hc43 : (own_sp v2) = (0 : Int32) := by rw [own_sp, if_neg (by (simp only [Int32.lt_iff_toInt_lt, ← Int32.toInt_inj, Int32.reduceToInt] at hc20 hc26 hc32 hc38 hc44 hc50; omega))]
                have pre44 : ∀ t, own_S p e below T41 m 72 #[sI p1, sI p2, sI v2, sI 0] [(.int 1)] t → R0 t := fun t k => pre42 t (by
                  refine XS.icmpNo X41.here hx rfl (hb hby at_64) rfl (teq hc43).2 ?_
                  show own_S p e below T41 m 67 #[sI p1, sI p2, sI v2, sI 0] [] _
                  refine XS.iconst X41.here hx rfl (hb hby at_67) ?_
                  show own_S p e below T41 m 68 #[sI p1, sI p2, sI v2, sI 0] [(.int 1)] _
                  refine XS.goto X41.here hx rfl (pc0 := 68) (pc' := 72) rfl (hb hby at_68) (by decide) (by decide) ?_
                  exact k)
                obtain ⟨fs, hr, hrun, hended, hW, hsame⟩ := X41.leave (v := some (.int 1)) (fun h => by rw [Bd.returns] at h; cases h)
                refine ⟨_, _, cast (congrFun hR0 _) (pre44 _ (retN X41 hx (t := .boolean) Bd.returns (by simp) (hb hby at_72) hr)), hrun, hended, _, _, rfl, ?_, ⟨_, rfl⟩, hW, hsame.mono (by decide) (by decide)⟩
                show own_Q0 Z _ _ h0 n0 _ T41.heap _
                rw [eh41]
                exact ⟨rfl, N41⟩
  · have pre45 : ∀ t, own_S p e below s₁ m 16 #[sI p1, sI p2, sU, sU] [(.int ((p1 &&& (63 : Int32)).toUInt32.toUInt16.toUInt32.toInt32))] t → R0 t := fun t k => pre1 t (by
      refine XS.ifNo X0.here hx rfl (hb hby at_3) rfl ((if0 _ _).trans (feq hc3).1) ?_
      show own_S p e below s₁ m 6 #[sI p1, sI p2, sU, sU] [] _
      refine XS.iloadN X0.here hx rfl (hb hby at_6) rfl ?_
      show own_S p e below s₁ m 7 #[sI p1, sI p2, sU, sU] [(.int p1)] _
      refine XS.bipush X0.here hx rfl (hb hby at_7) ?_
      show own_S p e below s₁ m 9 #[sI p1, sI p2, sU, sU] [(.int 63), (.int p1)] _
      refine XS.iand X0.here hx rfl (hb hby at_9) rfl ?_
      show own_S p e below s₁ m 10 #[sI p1, sI p2, sU, sU] [(.int (p1 &&& (63 : Int32)))] _
      refine XS.i2c X0.here hx rfl (hb hby at_10) rfl ?_
      show own_S p e below s₁ m 11 #[sI p1, sI p2, sU, sU] [(.int ((p1 &&& (63 : Int32)).toUInt32.toUInt16.toUInt32.toInt32))] _
      refine XS.goto X0.here hx rfl (pc0 := 11) (pc' := 16) rfl (hb hby at_11) (by decide) (by decide) ?_
      exact k)
    obtain ⟨v2, hv2⟩ : ∃ z : Int32, z = ((p1 &&& (63 : Int32)).toUInt32.toUInt16.toUInt32.toInt32) := ⟨_, rfl⟩
    have pre46 : ∀ t, own_S p e below s₁ m 16 #[sI p1, sI p2, sU, sU] [(.int v2)] t → R0 t := fun t k => pre45 t (by subst hv2; exact k)
    have pre47 : ∀ t, own_S p e below s₁ m 20 #[sI p1, sI p2, sI v2, sU] [(.int 32), (.int v2)] t → R0 t := fun t k => pre46 t (by
      refine XS.istoreN X0.here hx rfl (hb hby at_16) rfl (l' := #[sI p1, sI p2, sI v2, sU]) rfl ?_
      show own_S p e below s₁ m 17 #[sI p1, sI p2, sI v2, sU] [] _
      refine XS.iloadN X0.here hx rfl (hb hby at_17) rfl ?_
      show own_S p e below s₁ m 18 #[sI p1, sI p2, sI v2, sU] [(.int v2)] _
      refine XS.bipush X0.here hx rfl (hb hby at_18) ?_
      exact k)
    by_cases hc20 : v2 = (32 : Int32)
    · have pre48 : ∀ t, own_S p e below s₁ m 60 #[sI p1, sI p2, sI v2, sI 1] [(.int v2)] t → R0 t := fun t k => pre47 t (by
        refine XS.icmpYes X0.here hx rfl (pc0 := 20) (pc' := 53) rfl (hb hby at_20) rfl (teq hc20).1 (by decide) (by decide) ?_
        show own_S p e below s₁ m 53 #[sI p1, sI p2, sI v2, sU] [] _
        refine XS.iconst X0.here hx rfl (hb hby at_53) ?_
        show own_S p e below s₁ m 54 #[sI p1, sI p2, sI v2, sU] [(.int 1)] _
        refine XS.goto X0.here hx rfl (pc0 := 54) (pc' := 58) rfl (hb hby at_54) (by decide) (by decide) ?_
        show own_S p e below s₁ m 58 #[sI p1, sI p2, sI v2, sU] [(.int 1)] _
        refine XS.istoreN X0.here hx rfl (hb hby at_58) rfl (l' := #[sI p1, sI p2, sI v2, sI 1]) rfl ?_
        show own_S p e below s₁ m 59 #[sI p1, sI p2, sI v2, sI 1] [] _
        refine XS.iloadN X0.here hx rfl (hb hby at_59) rfl ?_
        exact k)
      obtain ⟨_, _, ⟨T49, L49, k49, n49⟩, -, X49, ⟨Lc49, hQ49, l49, y49, z49⟩, st49⟩ := Jvm.LawKit.callS X0 hx (y := own_y0) hown (mvT hZ hw0) (mvT hZ hw1) (mvT hZ hw2) (mvT hZ hw3) (by decide) (backOf (W := 0) (own_rm1 l Z a0 hw [] v2 h0 n0 Z0 ) hZ hw3 hw2 (by decide) (by decide)) (g := (mkF m 60 #[sI p1, sI p2, sI v2, sI 1] [(.int v2)])) rfl (by rw [hml]; rfl) (argsL := [(.int v2)]) (rest := []) (lenOf own_pd_0 rfl) rfl (by show 2 * 0 + _ ≤ _; exact Nat.le_of_eq rfl) (hb hby at_60) (fun _ _ => ⟨rfl, e0, (by decide : 0 + 0 ≤ _), (by decide : 0 + 0 ≤ _)⟩)
      dsimp only [Pt.U, Pt.locs, Pt.cells, Pt.slots] at X49 l49 y49 z49 st49 hQ49
      subst l49 y49 z49
      obtain ⟨rfl, N49q, eh49⟩ := hQ49
      have N49 := Fr.app N0 N49q
      have pre50 : ∀ t, own_S p e below T49 m 64 #[sI p1, sI p2, sI v2, sI 1] [(.int 1), (.int (own_sp v2))] t → R0 t := fun t k => pre48 t (by
        refine st49 _ ?_
        show own_S p e below T49 m 63 #[sI p1, sI p2, sI v2, sI 1] [(.int (own_sp v2))] _
        refine XS.iloadN X49.here hx rfl (hb hby at_63) rfl ?_
        exact k)
      have hc51 : (own_sp v2) = (1 : Int32) := by rw [own_sp, if_pos (by (simp only [Int32.lt_iff_toInt_lt, ← Int32.toInt_inj, Int32.reduceToInt] at hc20; omega))]
      have pre52 : ∀ t, own_S p e below T49 m 72 #[sI p1, sI p2, sI v2, sI 1] [(.int 1)] t → R0 t := fun t k => pre50 t (by
        refine XS.icmpNo X49.here hx rfl (hb hby at_64) rfl (teq hc51).2 ?_
        show own_S p e below T49 m 67 #[sI p1, sI p2, sI v2, sI 1] [] _
        refine XS.iconst X49.here hx rfl (hb hby at_67) ?_
        show own_S p e below T49 m 68 #[sI p1, sI p2, sI v2, sI 1] [(.int 1)] _
        refine XS.goto X49.here hx rfl (pc0 := 68) (pc' := 72) rfl (hb hby at_68) (by decide) (by decide) ?_
        exact k)
      obtain ⟨fs, hr, hrun, hended, hW, hsame⟩ := X49.leave (v := some (.int 1)) (fun h => by rw [Bd.returns] at h; cases h)
      refine ⟨_, _, cast (congrFun hR0 _) (pre52 _ (retN X49 hx (t := .boolean) Bd.returns (by simp) (hb hby at_72) hr)), hrun, hended, _, _, rfl, ?_, ⟨_, rfl⟩, hW, hsame.mono (by decide) (by decide)⟩
      show own_Q0 Z _ _ h0 n0 _ T49.heap _
      rw [eh49]
      exact ⟨rfl, N49⟩
    · have pre53 : ∀ t, own_S p e below s₁ m 26 #[sI p1, sI p2, sI v2, sU] [(.int 9), (.int v2)] t → R0 t := fun t k => pre47 t (by
        refine XS.icmpNo X0.here hx rfl (hb hby at_20) rfl (feq hc20).1 ?_
        show own_S p e below s₁ m 23 #[sI p1, sI p2, sI v2, sU] [] _
        refine XS.iloadN X0.here hx rfl (hb hby at_23) rfl ?_
        show own_S p e below s₁ m 24 #[sI p1, sI p2, sI v2, sU] [(.int v2)] _
        refine XS.bipush X0.here hx rfl (hb hby at_24) ?_
        exact k)
      by_cases hc26 : v2 = (9 : Int32)
      · have pre54 : ∀ t, own_S p e below s₁ m 60 #[sI p1, sI p2, sI v2, sI 1] [(.int v2)] t → R0 t := fun t k => pre53 t (by
          refine XS.icmpYes X0.here hx rfl (pc0 := 26) (pc' := 53) rfl (hb hby at_26) rfl (teq hc26).1 (by decide) (by decide) ?_
          show own_S p e below s₁ m 53 #[sI p1, sI p2, sI v2, sU] [] _
          refine XS.iconst X0.here hx rfl (hb hby at_53) ?_
          show own_S p e below s₁ m 54 #[sI p1, sI p2, sI v2, sU] [(.int 1)] _
          refine XS.goto X0.here hx rfl (pc0 := 54) (pc' := 58) rfl (hb hby at_54) (by decide) (by decide) ?_
          show own_S p e below s₁ m 58 #[sI p1, sI p2, sI v2, sU] [(.int 1)] _
          refine XS.istoreN X0.here hx rfl (hb hby at_58) rfl (l' := #[sI p1, sI p2, sI v2, sI 1]) rfl ?_
          show own_S p e below s₁ m 59 #[sI p1, sI p2, sI v2, sI 1] [] _
          refine XS.iloadN X0.here hx rfl (hb hby at_59) rfl ?_
          exact k)
        obtain ⟨_, _, ⟨T55, L55, k55, n55⟩, -, X55, ⟨Lc55, hQ55, l55, y55, z55⟩, st55⟩ := Jvm.LawKit.callS X0 hx (y := own_y0) hown (mvT hZ hw0) (mvT hZ hw1) (mvT hZ hw2) (mvT hZ hw3) (by decide) (backOf (W := 0) (own_rm1 l Z a0 hw [] v2 h0 n0 Z0 ) hZ hw3 hw2 (by decide) (by decide)) (g := (mkF m 60 #[sI p1, sI p2, sI v2, sI 1] [(.int v2)])) rfl (by rw [hml]; rfl) (argsL := [(.int v2)]) (rest := []) (lenOf own_pd_0 rfl) rfl (by show 2 * 0 + _ ≤ _; exact Nat.le_of_eq rfl) (hb hby at_60) (fun _ _ => ⟨rfl, e0, (by decide : 0 + 0 ≤ _), (by decide : 0 + 0 ≤ _)⟩)
        dsimp only [Pt.U, Pt.locs, Pt.cells, Pt.slots] at X55 l55 y55 z55 st55 hQ55
        subst l55 y55 z55
        obtain ⟨rfl, N55q, eh55⟩ := hQ55
        have N55 := Fr.app N0 N55q
        have pre56 : ∀ t, own_S p e below T55 m 64 #[sI p1, sI p2, sI v2, sI 1] [(.int 1), (.int (own_sp v2))] t → R0 t := fun t k => pre54 t (by
          refine st55 _ ?_
          show own_S p e below T55 m 63 #[sI p1, sI p2, sI v2, sI 1] [(.int (own_sp v2))] _
          refine XS.iloadN X55.here hx rfl (hb hby at_63) rfl ?_
          exact k)
        have hc57 : (own_sp v2) = (1 : Int32) := by rw [own_sp, if_pos (by (simp only [Int32.lt_iff_toInt_lt, ← Int32.toInt_inj, Int32.reduceToInt] at hc20 hc26; omega))]
        have pre58 : ∀ t, own_S p e below T55 m 72 #[sI p1, sI p2, sI v2, sI 1] [(.int 1)] t → R0 t := fun t k => pre56 t (by
          refine XS.icmpNo X55.here hx rfl (hb hby at_64) rfl (teq hc57).2 ?_
          show own_S p e below T55 m 67 #[sI p1, sI p2, sI v2, sI 1] [] _
          refine XS.iconst X55.here hx rfl (hb hby at_67) ?_
          show own_S p e below T55 m 68 #[sI p1, sI p2, sI v2, sI 1] [(.int 1)] _
          refine XS.goto X55.here hx rfl (pc0 := 68) (pc' := 72) rfl (hb hby at_68) (by decide) (by decide) ?_
          exact k)
        obtain ⟨fs, hr, hrun, hended, hW, hsame⟩ := X55.leave (v := some (.int 1)) (fun h => by rw [Bd.returns] at h; cases h)
        refine ⟨_, _, cast (congrFun hR0 _) (pre58 _ (retN X55 hx (t := .boolean) Bd.returns (by simp) (hb hby at_72) hr)), hrun, hended, _, _, rfl, ?_, ⟨_, rfl⟩, hW, hsame.mono (by decide) (by decide)⟩
        show own_Q0 Z _ _ h0 n0 _ T55.heap _
        rw [eh55]
        exact ⟨rfl, N55⟩
      · have pre59 : ∀ t, own_S p e below s₁ m 32 #[sI p1, sI p2, sI v2, sU] [(.int 10), (.int v2)] t → R0 t := fun t k => pre53 t (by
          refine XS.icmpNo X0.here hx rfl (hb hby at_26) rfl (feq hc26).1 ?_
          show own_S p e below s₁ m 29 #[sI p1, sI p2, sI v2, sU] [] _
          refine XS.iloadN X0.here hx rfl (hb hby at_29) rfl ?_
          show own_S p e below s₁ m 30 #[sI p1, sI p2, sI v2, sU] [(.int v2)] _
          refine XS.bipush X0.here hx rfl (hb hby at_30) ?_
          exact k)
        by_cases hc32 : v2 = (10 : Int32)
        · have pre60 : ∀ t, own_S p e below s₁ m 60 #[sI p1, sI p2, sI v2, sI 1] [(.int v2)] t → R0 t := fun t k => pre59 t (by
            refine XS.icmpYes X0.here hx rfl (pc0 := 32) (pc' := 53) rfl (hb hby at_32) rfl (teq hc32).1 (by decide) (by decide) ?_
            show own_S p e below s₁ m 53 #[sI p1, sI p2, sI v2, sU] [] _
            refine XS.iconst X0.here hx rfl (hb hby at_53) ?_
            show own_S p e below s₁ m 54 #[sI p1, sI p2, sI v2, sU] [(.int 1)] _
            refine XS.goto X0.here hx rfl (pc0 := 54) (pc' := 58) rfl (hb hby at_54) (by decide) (by decide) ?_
            show own_S p e below s₁ m 58 #[sI p1, sI p2, sI v2, sU] [(.int 1)] _
            refine XS.istoreN X0.here hx rfl (hb hby at_58) rfl (l' := #[sI p1, sI p2, sI v2, sI 1]) rfl ?_
            show own_S p e below s₁ m 59 #[sI p1, sI p2, sI v2, sI 1] [] _
            refine XS.iloadN X0.here hx rfl (hb hby at_59) rfl ?_
            exact k)
          obtain ⟨_, _, ⟨T61, L61, k61, n61⟩, -, X61, ⟨Lc61, hQ61, l61, y61, z61⟩, st61⟩ := Jvm.LawKit.callS X0 hx (y := own_y0) hown (mvT hZ hw0) (mvT hZ hw1) (mvT hZ hw2) (mvT hZ hw3) (by decide) (backOf (W := 0) (own_rm1 l Z a0 hw [] v2 h0 n0 Z0 ) hZ hw3 hw2 (by decide) (by decide)) (g := (mkF m 60 #[sI p1, sI p2, sI v2, sI 1] [(.int v2)])) rfl (by rw [hml]; rfl) (argsL := [(.int v2)]) (rest := []) (lenOf own_pd_0 rfl) rfl (by show 2 * 0 + _ ≤ _; exact Nat.le_of_eq rfl) (hb hby at_60) (fun _ _ => ⟨rfl, e0, (by decide : 0 + 0 ≤ _), (by decide : 0 + 0 ≤ _)⟩)
          dsimp only [Pt.U, Pt.locs, Pt.cells, Pt.slots] at X61 l61 y61 z61 st61 hQ61
          subst l61 y61 z61
          obtain ⟨rfl, N61q, eh61⟩ := hQ61
          have N61 := Fr.app N0 N61q
          have pre62 : ∀ t, own_S p e below T61 m 64 #[sI p1, sI p2, sI v2, sI 1] [(.int 1), (.int (own_sp v2))] t → R0 t := fun t k => pre60 t (by
            refine st61 _ ?_
            show own_S p e below T61 m 63 #[sI p1, sI p2, sI v2, sI 1] [(.int (own_sp v2))] _
            refine XS.iloadN X61.here hx rfl (hb hby at_63) rfl ?_
            exact k)
          have hc63 : (own_sp v2) = (1 : Int32) := by rw [own_sp, if_pos (by (simp only [Int32.lt_iff_toInt_lt, ← Int32.toInt_inj, Int32.reduceToInt] at hc20 hc26 hc32; omega))]
          have pre64 : ∀ t, own_S p e below T61 m 72 #[sI p1, sI p2, sI v2, sI 1] [(.int 1)] t → R0 t := fun t k => pre62 t (by
            refine XS.icmpNo X61.here hx rfl (hb hby at_64) rfl (teq hc63).2 ?_
            show own_S p e below T61 m 67 #[sI p1, sI p2, sI v2, sI 1] [] _
            refine XS.iconst X61.here hx rfl (hb hby at_67) ?_
            show own_S p e below T61 m 68 #[sI p1, sI p2, sI v2, sI 1] [(.int 1)] _
            refine XS.goto X61.here hx rfl (pc0 := 68) (pc' := 72) rfl (hb hby at_68) (by decide) (by decide) ?_
            exact k)
          obtain ⟨fs, hr, hrun, hended, hW, hsame⟩ := X61.leave (v := some (.int 1)) (fun h => by rw [Bd.returns] at h; cases h)
          refine ⟨_, _, cast (congrFun hR0 _) (pre64 _ (retN X61 hx (t := .boolean) Bd.returns (by simp) (hb hby at_72) hr)), hrun, hended, _, _, rfl, ?_, ⟨_, rfl⟩, hW, hsame.mono (by decide) (by decide)⟩
          show own_Q0 Z _ _ h0 n0 _ T61.heap _
          rw [eh61]
          exact ⟨rfl, N61⟩
        · have pre65 : ∀ t, own_S p e below s₁ m 38 #[sI p1, sI p2, sI v2, sU] [(.int 11), (.int v2)] t → R0 t := fun t k => pre59 t (by
            refine XS.icmpNo X0.here hx rfl (hb hby at_32) rfl (feq hc32).1 ?_
            show own_S p e below s₁ m 35 #[sI p1, sI p2, sI v2, sU] [] _
            refine XS.iloadN X0.here hx rfl (hb hby at_35) rfl ?_
            show own_S p e below s₁ m 36 #[sI p1, sI p2, sI v2, sU] [(.int v2)] _
            refine XS.bipush X0.here hx rfl (hb hby at_36) ?_
            exact k)
          by_cases hc38 : v2 = (11 : Int32)
          · have pre66 : ∀ t, own_S p e below s₁ m 60 #[sI p1, sI p2, sI v2, sI 1] [(.int v2)] t → R0 t := fun t k => pre65 t (by
              refine XS.icmpYes X0.here hx rfl (pc0 := 38) (pc' := 53) rfl (hb hby at_38) rfl (teq hc38).1 (by decide) (by decide) ?_
              show own_S p e below s₁ m 53 #[sI p1, sI p2, sI v2, sU] [] _
              refine XS.iconst X0.here hx rfl (hb hby at_53) ?_
              show own_S p e below s₁ m 54 #[sI p1, sI p2, sI v2, sU] [(.int 1)] _
              refine XS.goto X0.here hx rfl (pc0 := 54) (pc' := 58) rfl (hb hby at_54) (by decide) (by decide) ?_
              show own_S p e below s₁ m 58 #[sI p1, sI p2, sI v2, sU] [(.int 1)] _
              refine XS.istoreN X0.here hx rfl (hb hby at_58) rfl (l' := #[sI p1, sI p2, sI v2, sI 1]) rfl ?_
              show own_S p e below s₁ m 59 #[sI p1, sI p2, sI v2, sI 1] [] _
              refine XS.iloadN X0.here hx rfl (hb hby at_59) rfl ?_
              exact k)
            obtain ⟨_, _, ⟨T67, L67, k67, n67⟩, -, X67, ⟨Lc67, hQ67, l67, y67, z67⟩, st67⟩ := Jvm.LawKit.callS X0 hx (y := own_y0) hown (mvT hZ hw0) (mvT hZ hw1) (mvT hZ hw2) (mvT hZ hw3) (by decide) (backOf (W := 0) (own_rm1 l Z a0 hw [] v2 h0 n0 Z0 ) hZ hw3 hw2 (by decide) (by decide)) (g := (mkF m 60 #[sI p1, sI p2, sI v2, sI 1] [(.int v2)])) rfl (by rw [hml]; rfl) (argsL := [(.int v2)]) (rest := []) (lenOf own_pd_0 rfl) rfl (by show 2 * 0 + _ ≤ _; exact Nat.le_of_eq rfl) (hb hby at_60) (fun _ _ => ⟨rfl, e0, (by decide : 0 + 0 ≤ _), (by decide : 0 + 0 ≤ _)⟩)
            dsimp only [Pt.U, Pt.locs, Pt.cells, Pt.slots] at X67 l67 y67 z67 st67 hQ67
            subst l67 y67 z67
            obtain ⟨rfl, N67q, eh67⟩ := hQ67
            have N67 := Fr.app N0 N67q
            have pre68 : ∀ t, own_S p e below T67 m 64 #[sI p1, sI p2, sI v2, sI 1] [(.int 1), (.int (own_sp v2))] t → R0 t := fun t k => pre66 t (by
              refine st67 _ ?_
              show own_S p e below T67 m 63 #[sI p1, sI p2, sI v2, sI 1] [(.int (own_sp v2))] _
              refine XS.iloadN X67.here hx rfl (hb hby at_63) rfl ?_
              exact k)
            have hc69 : (own_sp v2) = (1 : Int32) := by rw [own_sp, if_pos (by (simp only [Int32.lt_iff_toInt_lt, ← Int32.toInt_inj, Int32.reduceToInt] at hc20 hc26 hc32 hc38; omega))]
            have pre70 : ∀ t, own_S p e below T67 m 72 #[sI p1, sI p2, sI v2, sI 1] [(.int 1)] t → R0 t := fun t k => pre68 t (by
              refine XS.icmpNo X67.here hx rfl (hb hby at_64) rfl (teq hc69).2 ?_
              show own_S p e below T67 m 67 #[sI p1, sI p2, sI v2, sI 1] [] _
              refine XS.iconst X67.here hx rfl (hb hby at_67) ?_
              show own_S p e below T67 m 68 #[sI p1, sI p2, sI v2, sI 1] [(.int 1)] _
              refine XS.goto X67.here hx rfl (pc0 := 68) (pc' := 72) rfl (hb hby at_68) (by decide) (by decide) ?_
              exact k)
            obtain ⟨fs, hr, hrun, hended, hW, hsame⟩ := X67.leave (v := some (.int 1)) (fun h => by rw [Bd.returns] at h; cases h)
            refine ⟨_, _, cast (congrFun hR0 _) (pre70 _ (retN X67 hx (t := .boolean) Bd.returns (by simp) (hb hby at_72) hr)), hrun, hended, _, _, rfl, ?_, ⟨_, rfl⟩, hW, hsame.mono (by decide) (by decide)⟩
            show own_Q0 Z _ _ h0 n0 _ T67.heap _
            rw [eh67]
            exact ⟨rfl, N67⟩
          · have pre71 : ∀ t, own_S p e below s₁ m 44 #[sI p1, sI p2, sI v2, sU] [(.int 12), (.int v2)] t → R0 t := fun t k => pre65 t (by
              refine XS.icmpNo X0.here hx rfl (hb hby at_38) rfl (feq hc38).1 ?_
              show own_S p e below s₁ m 41 #[sI p1, sI p2, sI v2, sU] [] _
              refine XS.iloadN X0.here hx rfl (hb hby at_41) rfl ?_
              show own_S p e below s₁ m 42 #[sI p1, sI p2, sI v2, sU] [(.int v2)] _
              refine XS.bipush X0.here hx rfl (hb hby at_42) ?_
              exact k)
            by_cases hc44 : v2 = (12 : Int32)
            · have pre72 : ∀ t, own_S p e below s₁ m 60 #[sI p1, sI p2, sI v2, sI 1] [(.int v2)] t → R0 t := fun t k => pre71 t (by
                refine XS.icmpYes X0.here hx rfl (pc0 := 44) (pc' := 53) rfl (hb hby at_44) rfl (teq hc44).1 (by decide) (by decide) ?_
                show own_S p e below s₁ m 53 #[sI p1, sI p2, sI v2, sU] [] _
                refine XS.iconst X0.here hx rfl (hb hby at_53) ?_
                show own_S p e below s₁ m 54 #[sI p1, sI p2, sI v2, sU] [(.int 1)] _
                refine XS.goto X0.here hx rfl (pc0 := 54) (pc' := 58) rfl (hb hby at_54) (by decide) (by decide) ?_
                show own_S p e below s₁ m 58 #[sI p1, sI p2, sI v2, sU] [(.int 1)] _
                refine XS.istoreN X0.here hx rfl (hb hby at_58) rfl (l' := #[sI p1, sI p2, sI v2, sI 1]) rfl ?_
                show own_S p e below s₁ m 59 #[sI p1, sI p2, sI v2, sI 1] [] _
                refine XS.iloadN X0.here hx rfl (hb hby at_59) rfl ?_
                exact k)
              obtain ⟨_, _, ⟨T73, L73, k73, n73⟩, -, X73, ⟨Lc73, hQ73, l73, y73, z73⟩, st73⟩ := Jvm.LawKit.callS X0 hx (y := own_y0) hown (mvT hZ hw0) (mvT hZ hw1) (mvT hZ hw2) (mvT hZ hw3) (by decide) (backOf (W := 0) (own_rm1 l Z a0 hw [] v2 h0 n0 Z0 ) hZ hw3 hw2 (by decide) (by decide)) (g := (mkF m 60 #[sI p1, sI p2, sI v2, sI 1] [(.int v2)])) rfl (by rw [hml]; rfl) (argsL := [(.int v2)]) (rest := []) (lenOf own_pd_0 rfl) rfl (by show 2 * 0 + _ ≤ _; exact Nat.le_of_eq rfl) (hb hby at_60) (fun _ _ => ⟨rfl, e0, (by decide : 0 + 0 ≤ _), (by decide : 0 + 0 ≤ _)⟩)
              dsimp only [Pt.U, Pt.locs, Pt.cells, Pt.slots] at X73 l73 y73 z73 st73 hQ73
              subst l73 y73 z73
              obtain ⟨rfl, N73q, eh73⟩ := hQ73
              have N73 := Fr.app N0 N73q
              have pre74 : ∀ t, own_S p e below T73 m 64 #[sI p1, sI p2, sI v2, sI 1] [(.int 1), (.int (own_sp v2))] t → R0 t := fun t k => pre72 t (by
                refine st73 _ ?_
                show own_S p e below T73 m 63 #[sI p1, sI p2, sI v2, sI 1] [(.int (own_sp v2))] _
                refine XS.iloadN X73.here hx rfl (hb hby at_63) rfl ?_
                exact k)
              have hc75 : (own_sp v2) = (1 : Int32) := by rw [own_sp, if_pos (by (simp only [Int32.lt_iff_toInt_lt, ← Int32.toInt_inj, Int32.reduceToInt] at hc20 hc26 hc32 hc38 hc44; omega))]
              have pre76 : ∀ t, own_S p e below T73 m 72 #[sI p1, sI p2, sI v2, sI 1] [(.int 1)] t → R0 t := fun t k => pre74 t (by
                refine XS.icmpNo X73.here hx rfl (hb hby at_64) rfl (teq hc75).2 ?_
                show own_S p e below T73 m 67 #[sI p1, sI p2, sI v2, sI 1] [] _
                refine XS.iconst X73.here hx rfl (hb hby at_67) ?_
                show own_S p e below T73 m 68 #[sI p1, sI p2, sI v2, sI 1] [(.int 1)] _
                refine XS.goto X73.here hx rfl (pc0 := 68) (pc' := 72) rfl (hb hby at_68) (by decide) (by decide) ?_
                exact k)
              obtain ⟨fs, hr, hrun, hended, hW, hsame⟩ := X73.leave (v := some (.int 1)) (fun h => by rw [Bd.returns] at h; cases h)
              refine ⟨_, _, cast (congrFun hR0 _) (pre76 _ (retN X73 hx (t := .boolean) Bd.returns (by simp) (hb hby at_72) hr)), hrun, hended, _, _, rfl, ?_, ⟨_, rfl⟩, hW, hsame.mono (by decide) (by decide)⟩
              show own_Q0 Z _ _ h0 n0 _ T73.heap _
              rw [eh73]
              exact ⟨rfl, N73⟩
            · have pre77 : ∀ t, own_S p e below s₁ m 50 #[sI p1, sI p2, sI v2, sU] [(.int 13), (.int v2)] t → R0 t := fun t k => pre71 t (by
                refine XS.icmpNo X0.here hx rfl (hb hby at_44) rfl (feq hc44).1 ?_
                show own_S p e below s₁ m 47 #[sI p1, sI p2, sI v2, sU] [] _
                refine XS.iloadN X0.here hx rfl (hb hby at_47) rfl ?_
                show own_S p e below s₁ m 48 #[sI p1, sI p2, sI v2, sU] [(.int v2)] _
                refine XS.bipush X0.here hx rfl (hb hby at_48) ?_
                exact k)
              by_cases hc50 : v2 = (13 : Int32)
              · have pre78 : ∀ t, own_S p e below s₁ m 60 #[sI p1, sI p2, sI v2, sI 1] [(.int v2)] t → R0 t := fun t k => pre77 t (by
                  refine XS.icmpNo X0.here hx rfl (hb hby at_50) rfl (teq hc50).2 ?_
                  show own_S p e below s₁ m 53 #[sI p1, sI p2, sI v2, sU] [] _
                  refine XS.iconst X0.here hx rfl (hb hby at_53) ?_
                  show own_S p e below s₁ m 54 #[sI p1, sI p2, sI v2, sU] [(.int 1)] _
                  refine XS.goto X0.here hx rfl (pc0 := 54) (pc' := 58) rfl (hb hby at_54) (by decide) (by decide) ?_
                  show own_S p e below s₁ m 58 #[sI p1, sI p2, sI v2, sU] [(.int 1)] _
                  refine XS.istoreN X0.here hx rfl (hb hby at_58) rfl (l' := #[sI p1, sI p2, sI v2, sI 1]) rfl ?_
                  show own_S p e below s₁ m 59 #[sI p1, sI p2, sI v2, sI 1] [] _
                  refine XS.iloadN X0.here hx rfl (hb hby at_59) rfl ?_
                  exact k)
                obtain ⟨_, _, ⟨T79, L79, k79, n79⟩, -, X79, ⟨Lc79, hQ79, l79, y79, z79⟩, st79⟩ := Jvm.LawKit.callS X0 hx (y := own_y0) hown (mvT hZ hw0) (mvT hZ hw1) (mvT hZ hw2) (mvT hZ hw3) (by decide) (backOf (W := 0) (own_rm1 l Z a0 hw [] v2 h0 n0 Z0 ) hZ hw3 hw2 (by decide) (by decide)) (g := (mkF m 60 #[sI p1, sI p2, sI v2, sI 1] [(.int v2)])) rfl (by rw [hml]; rfl) (argsL := [(.int v2)]) (rest := []) (lenOf own_pd_0 rfl) rfl (by show 2 * 0 + _ ≤ _; exact Nat.le_of_eq rfl) (hb hby at_60) (fun _ _ => ⟨rfl, e0, (by decide : 0 + 0 ≤ _), (by decide : 0 + 0 ≤ _)⟩)
                dsimp only [Pt.U, Pt.locs, Pt.cells, Pt.slots] at X79 l79 y79 z79 st79 hQ79
                subst l79 y79 z79
                obtain ⟨rfl, N79q, eh79⟩ := hQ79
                have N79 := Fr.app N0 N79q
                have pre80 : ∀ t, own_S p e below T79 m 64 #[sI p1, sI p2, sI v2, sI 1] [(.int 1), (.int (own_sp v2))] t → R0 t := fun t k => pre78 t (by
                  refine st79 _ ?_
                  show own_S p e below T79 m 63 #[sI p1, sI p2, sI v2, sI 1] [(.int (own_sp v2))] _
                  refine XS.iloadN X79.here hx rfl (hb hby at_63) rfl ?_
                  exact k)
                have hc81 : (own_sp v2) = (1 : Int32) := by rw [own_sp, if_pos (by (simp only [Int32.lt_iff_toInt_lt, ← Int32.toInt_inj, Int32.reduceToInt] at hc20 hc26 hc32 hc38 hc44 hc50; omega))]
                have pre82 : ∀ t, own_S p e below T79 m 72 #[sI p1, sI p2, sI v2, sI 1] [(.int 1)] t → R0 t := fun t k => pre80 t (by
                  refine XS.icmpNo X79.here hx rfl (hb hby at_64) rfl (teq hc81).2 ?_
                  show own_S p e below T79 m 67 #[sI p1, sI p2, sI v2, sI 1] [] _
                  refine XS.iconst X79.here hx rfl (hb hby at_67) ?_
                  show own_S p e below T79 m 68 #[sI p1, sI p2, sI v2, sI 1] [(.int 1)] _
                  refine XS.goto X79.here hx rfl (pc0 := 68) (pc' := 72) rfl (hb hby at_68) (by decide) (by decide) ?_
                  exact k)
                obtain ⟨fs, hr, hrun, hended, hW, hsame⟩ := X79.leave (v := some (.int 1)) (fun h => by rw [Bd.returns] at h; cases h)
                refine ⟨_, _, cast (congrFun hR0 _) (pre82 _ (retN X79 hx (t := .boolean) Bd.returns (by simp) (hb hby at_72) hr)), hrun, hended, _, _, rfl, ?_, ⟨_, rfl⟩, hW, hsame.mono (by decide) (by decide)⟩
                show own_Q0 Z _ _ h0 n0 _ T79.heap _
                rw [eh79]
                exact ⟨rfl, N79⟩
              · have pre83 : ∀ t, own_S p e below s₁ m 60 #[sI p1, sI p2, sI v2, sI 0] [(.int v2)] t → R0 t := fun t k => pre77 t (by
                  refine XS.icmpYes X0.here hx rfl (pc0 := 50) (pc' := 57) rfl (hb hby at_50) rfl (feq hc50).2 (by decide) (by decide) ?_
                  show own_S p e below s₁ m 57 #[sI p1, sI p2, sI v2, sU] [] _
                  refine XS.iconst X0.here hx rfl (hb hby at_57) ?_
                  show own_S p e below s₁ m 58 #[sI p1, sI p2, sI v2, sU] [(.int 0)] _
                  refine XS.istoreN X0.here hx rfl (hb hby at_58) rfl (l' := #[sI p1, sI p2, sI v2, sI 0]) rfl ?_
                  show own_S p e below s₁ m 59 #[sI p1, sI p2, sI v2, sI 0] [] _
                  refine XS.iloadN X0.here hx rfl (hb hby at_59) rfl ?_
                  exact k)
                obtain ⟨_, _, ⟨T84, L84, k84, n84⟩, -, X84, ⟨Lc84, hQ84, l84, y84, z84⟩, st84⟩ := Jvm.LawKit.callS X0 hx (y := own_y0) hown (mvT hZ hw0) (mvT hZ hw1) (mvT hZ hw2) (mvT hZ hw3) (by decide) (backOf (W := 0) (own_rm1 l Z a0 hw [] v2 h0 n0 Z0 ) hZ hw3 hw2 (by decide) (by decide)) (g := (mkF m 60 #[sI p1, sI p2, sI v2, sI 0] [(.int v2)])) rfl (by rw [hml]; rfl) (argsL := [(.int v2)]) (rest := []) (lenOf own_pd_0 rfl) rfl (by show 2 * 0 + _ ≤ _; exact Nat.le_of_eq rfl) (hb hby at_60) (fun _ _ => ⟨rfl, e0, (by decide : 0 + 0 ≤ _), (by decide : 0 + 0 ≤ _)⟩)
                dsimp only [Pt.U, Pt.locs, Pt.cells, Pt.slots] at X84 l84 y84 z84 st84 hQ84
                subst l84 y84 z84
                obtain ⟨rfl, N84q, eh84⟩ := hQ84
                have N84 := Fr.app N0 N84q
                have pre85 : ∀ t, own_S p e below T84 m 64 #[sI p1, sI p2, sI v2, sI 0] [(.int 0), (.int (own_sp v2))] t → R0 t := fun t k => pre83 t (by
                  refine st84 _ ?_
                  show own_S p e below T84 m 63 #[sI p1, sI p2, sI v2, sI 0] [(.int (own_sp v2))] _
                  refine XS.iloadN X84.here hx rfl (hb hby at_63) rfl ?_
                  exact k)
                have hc86 : (own_sp v2) = (0 : Int32) := by rw [own_sp, if_neg (by (simp only [Int32.lt_iff_toInt_lt, ← Int32.toInt_inj, Int32.reduceToInt] at hc20 hc26 hc32 hc38 hc44 hc50; omega))]
                have pre87 : ∀ t, own_S p e below T84 m 72 #[sI p1, sI p2, sI v2, sI 0] [(.int 1)] t → R0 t := fun t k => pre85 t (by
                  refine XS.icmpNo X84.here hx rfl (hb hby at_64) rfl (teq hc86).2 ?_
                  show own_S p e below T84 m 67 #[sI p1, sI p2, sI v2, sI 0] [] _
                  refine XS.iconst X84.here hx rfl (hb hby at_67) ?_
                  show own_S p e below T84 m 68 #[sI p1, sI p2, sI v2, sI 0] [(.int 1)] _
                  refine XS.goto X84.here hx rfl (pc0 := 68) (pc' := 72) rfl (hb hby at_68) (by decide) (by decide) ?_
                  exact k)
                obtain ⟨fs, hr, hrun, hended, hW, hsame⟩ := X84.leave (v := some (.int 1)) (fun h => by rw [Bd.returns] at h; cases h)
                refine ⟨_, _, cast (congrFun hR0 _) (pre87 _ (retN X84 hx (t := .boolean) Bd.returns (by simp) (hb hby at_72) hr)), hrun, hended, _, _, rfl, ?_, ⟨_, rfl⟩, hW, hsame.mono (by decide) (by decide)⟩
                show own_Q0 Z _ _ h0 n0 _ T84.heap _
                rw [eh84]
                exact ⟨rfl, N84⟩
set_option maxRecDepth 65536 in
set_option maxHeartbeats 40000000 in
theorem own_comes {Post : Tables → Env → Array Value → State → Outcome → State → Prop} (hpost : ∀ tb e args s v u, (limb_1_1.after args s (.returned v) u = true ∧ limb_1_2.after args s (.returned v) u = true ∧ True) → FrameEnd s (.returned v) u (Jvm.fieldLocs frame_1_writes args s ++ Jvm.arrayLocs frame_1_arrays args s ++ Jvm.staticLocs frame_1_statics s) 0 0 → Post tb e args s (.returned v) u) :
    ArmFor flags0 classFile x code maxLocals ret World_1 tables_1 room_1 Calls_1 rest_1 Pre_1 Post := by
  intro l hfl _ _ p e ha hc hk s m args below hf hA hF happ hP
  obtain ⟨hcalls, hrest, hpre⟩ := hP
  obtain ⟨-, -, -, hnamed, -, -, -, hat⟩ := (Spec.applies_iff hf).mp happ
  obtain ⟨hg, hn⟩ := and_e (Cond.before_iff.mp (show (Jvm.Cond.and given_1 narrow_1).before args s = true from hpre))
  obtain ⟨hcount, hg0⟩ := and_e hg
  obtain ⟨ha0, hg1⟩ := and_e hg0
  have ha1 := hg1
  obtain ⟨w0, w1, rfl⟩ : ∃ w0 w1 : Value, args = #[w0, w1] := by
    have hs : args.size = 2 := by simpa [Cond.value, given_1] using hcount
    obtain ⟨L⟩ := args
    match L, hs with
    | [w0, w1], _ => exact ⟨w0, w1, rfl⟩
  have hw := fun d (hd : d ∈ tables_1) => atoms_spec (ws := Jvm.Cond.code x code maxLocals ret :: tables_1) hat d (List.mem_cons_of_mem _ hd)
  have hfit : Fit s := fun {y c} hc i hi => by
    obtain ⟨ha, rfl⟩ := Array.getElem?_eq_some_iff.mp hc
    have q := List.all_eq_true.mp ((Array.all_eq_true_iff_forall_mem.mp hF) _ (Array.getElem_mem ha)) i (List.mem_range.mpr hi)
    simpa [Array.getElem?_eq_getElem hi] using q
  obtain ⟨i0, ei0⟩ := is_v ha0
  obtain rfl : w0 = (.int i0) := Option.some.inj ei0
  obtain ⟨i1, ei1⟩ := is_v ha1
  obtain rfl : w1 = (.int i1) := Option.some.inj ei1
  obtain ⟨n, o, h1, h2, h3, _, L, rfl, ⟨rfl, N⟩, hq⟩ := own_rm0 l s _ hw tables_1 i0 i1  s.heap s.heap.size (Nat.le_refl _)  p e ha hc hk s m _ below hf ((Spec.applies_iff_loose hf).mp happ).1 ⟨rfl, State.Warmed39.refl s, rfl⟩ trivial
  refine ⟨n, _, h1, h2, h3, hpost _ _ _ _ _ _ ⟨Cond.after_iff.mpr rfl, Cond.after_iff.mpr (eq_i res_at (Term.int_eval (1)) rfl), trivial⟩ ⟨hq.1, hq.2.1, (hq.2.2.sift fun y hy => Or.inr (N y hy)).mono (by decide) (by decide)⟩⟩
theorem main_1_1 : Claimed_1_1 := own_comes fun _ _ _ _ _ _ h hF => ⟨h.1, hF⟩
theorem main_1_2 : Claimed_1_2 := own_comes fun _ _ _ _ _ _ h hF => ⟨h.2.1, hF⟩
end Jvm.Pilot.@@N@@
namespace Jvm.Pilot.@@N@@
open Jvm Jvm.ClassFile Sem Op Lib Jvm.Free Jvm.Stand Jvm.Pilot.@@N@@.Jvm.D
/-! MADE BY PROGRAM (witnessworld.py) out of the Statement's table words and the real class files: 9 classes; the members and pool entries that the words name. The judged class is class 1, her method 1. -/
namespace start1
open Jvm.ClassFile
def u (s : String) : CpInfo := .utf8 (stringToUtf16 s)
/-- a pool by its gaps: so many unusable entries, then the entry; so many at the end -/
def gap : Nat → List CpInfo → List CpInfo
  | 0, r => r
  | n + 1, r => .unusable :: gap n r
def poolList (es : List (Nat × CpInfo)) (last : Nat) : List CpInfo := es.foldr (fun e r => gap e.1 (e.2 :: r)) (gap last [])
def pool (es : List (Nat × CpInfo)) (last : Nat) : Array CpInfo := ⟨poolList es last⟩
def fileOf (pool : Array CpInfo) (this : Nat) (attrs : Array Attribute := #[]) (ms : Array MethodInfo := #[]) (fl : Nat := 33) (sup : Nat := 0) (ifs : Array Nat := #[]) (fds : Array FieldInfo := #[]) : ClassFile where
  minorVersion := 0
  majorVersion := 65
  constantPool := pool
  accessFlags := fl
  thisClass := this
  superClass := sup
  interfaces := ifs
  fields := fds
  methods := ms
  attributes := attrs
def plain (name : String) (sup : Option ClassId) : Class where
  name := name
  kind := .ordinary
  loader := none
  accessFlags := 33
  super := sup
  interfaces := #[]
  cf := none
  fields := #[]
  methods := #[]
  instanceTypes := #[]
  staticTypes := #[]
  resolved := #[]
  callSites := []
  init := .initialized
  statics := none
  mirror := none

def pool0 : Array CpInfo := pool [(5, u "<init>"), (0, u "()V"), (1, .class_ 10), (1, u "java/lang/Object")] 113

def k0m0 : Method := { name := "<init>", desc := "()V", sig := { parameters := [], returnType := none }, accessFlags := 1, code := none }
/-- java/lang/Object -/
def k0 : Class := { plain "java/lang/Object" none with
  accessFlags := 33
  interfaces := #[]
  cf := some (fileOf pool0 8 #[] #[{ accessFlags := 1, nameIndex := 5, descriptorIndex := 6, attributes := #[] }] 33 0 #[] #[])
  fields := #[]
  methods := #[k0m0]
  instanceTypes := #[]
  staticTypes := #[]
  resolved := Array.replicate 124 none
  statics := none }

def pool1 : Array CpInfo := pool [(2, .class_ 4), (1, u "java/lang/Object"), (0, u "<init>"), (0, u "()V"), (0, .methodref 8 9), (0, .class_ 10), (0, .nameAndType 11 12), (0, u "com/example/querylathe/querylathe/sql/Lexer"), (0, u "isSpace"), (0, u "(C)Z"), (0, .class_ 14), (0, u "com/example/querylathe/querylathe/sql/LexerIsSpacePinLaw"), (2, u "law"), (0, u "(II)Z")] 3

def k1m0 : Method := { name := "<init>", desc := "()V", sig := { parameters := [], returnType := none }, accessFlags := 2, code := none }
def k1c1 : Code := { maxStack := 2, maxLocals := 4, code := code, exceptionTable := #[], attributes := #[] }
def k1m1 : Method := { name := "law", desc := "(II)Z", sig := { parameters := [.int, .int], returnType := some .boolean }, accessFlags := 9, code := some k1c1 }
/-- com/example/querylathe/querylathe/sql/LexerIsSpacePinLaw -/
def k1 : Class := { plain "com/example/querylathe/querylathe/sql/LexerIsSpacePinLaw" (some 0) with
  accessFlags := 49
  interfaces := #[]
  cf := some (fileOf pool1 13 #[] #[{ accessFlags := 2, nameIndex := 5, descriptorIndex := 6, attributes := #[] }, { accessFlags := 9, nameIndex := 17, descriptorIndex := 18, attributes := #[] }] 49 2 #[] #[])
  fields := #[]
  methods := #[k1m0, k1m1]
  instanceTypes := #[]
  staticTypes := #[]
  resolved := Array.replicate 22 none
  statics := none }

def pool2 : Array CpInfo := pool [(2, .class_ 4), (1, u "java/lang/Object"), (0, u "<init>"), (0, u "()V"), (15, .class_ 24), (1, u "com/example/querylathe/querylathe/sql/Lexer"), (27, u "isSpace"), (0, u "(C)Z"), (121, u "LONG_OPERATORS"), (0, u "[Ljava/lang/String;")] 54

def k2m0 : Method := { name := "<init>", desc := "()V", sig := { parameters := [], returnType := none }, accessFlags := 2, code := none }
def k2c1 : Code := { maxStack := 2, maxLocals := 1, code := prog_87_method_9_code, exceptionTable := #[], attributes := #[] }
def k2m1 : Method := { name := "isSpace", desc := "(C)Z", sig := { parameters := [.char], returnType := some .boolean }, accessFlags := 8, code := some k2c1 }
/-- com/example/querylathe/querylathe/sql/Lexer -/
def k2 : Class := { plain "com/example/querylathe/querylathe/sql/Lexer" (some 0) with
  accessFlags := 48
  interfaces := #[]
  cf := some (fileOf pool2 22 #[] #[{ accessFlags := 2, nameIndex := 5, descriptorIndex := 6, attributes := #[] }, { accessFlags := 8, nameIndex := 52, descriptorIndex := 53, attributes := #[] }] 48 2 #[] #[{ accessFlags := 26, nameIndex := 175, descriptorIndex := 176, attributes := #[] }])
  fields := #[{ name := "LONG_OPERATORS", type := (.array (.object "java/lang/String")), accessFlags := 26, slot := 0, constantValue := 0 }]
  methods := #[k2m0, k2m1]
  instanceTypes := #[]
  staticTypes := #[(.array (.object "java/lang/String"))]
  resolved := Array.replicate 231 none
  statics := none }

def pool3 : Array CpInfo := pool [(1, u "java/lang/Cloneable"), (0, .class_ 1), (0, u "java/lang/Object"), (0, .class_ 3)] 3

/-- java/lang/Cloneable -/
def k3 : Class := { plain "java/lang/Cloneable" (some 0) with
  accessFlags := 1537
  interfaces := #[]
  cf := some (fileOf pool3 2 #[] #[] 1537 4 #[] #[])
  fields := #[]
  methods := #[]
  instanceTypes := #[]
  staticTypes := #[]
  resolved := Array.replicate 8 none
  statics := none }

def pool4 : Array CpInfo := pool [(1, u "java/io/Serializable"), (0, .class_ 1), (0, u "java/lang/Object"), (0, .class_ 3)] 3

/-- java/io/Serializable -/
def k4 : Class := { plain "java/io/Serializable" (some 0) with
  accessFlags := 1537
  interfaces := #[]
  cf := some (fileOf pool4 2 #[] #[] 1537 4 #[] #[])
  fields := #[]
  methods := #[]
  instanceTypes := #[]
  staticTypes := #[]
  resolved := Array.replicate 8 none
  statics := none }

/-- the primitive byte -/
def k5 : Class := { plain "byte" none with kind := .primitive 'B', accessFlags := 0x411 }
/-- [B -/
def k6 : Class := { plain "[B" (some 0) with kind := .array 5 .byte, interfaces := #[3, 4], accessFlags := 1041 }

/-- the primitive int -/
def k7 : Class := { plain "int" none with kind := .primitive 'I', accessFlags := 0x411 }
/-- [I -/
def k8 : Class := { plain "[I" (some 0) with kind := .array 7 .int, interfaces := #[3, 4], accessFlags := 1041 }

def heap : Heap := #[]
def classes : Array Class := #[k0, k1, k2, k3, k4, k5, k6, k7, k8]
def interned : List (Array UInt16 × Addr) := []
def slotsUsed : Nat := 0
def theMethod : MethodId := ⟨1, 1⟩
def args0 : Array Value := #[.int 5, .int 1]
def aboutOver (below : List Frame) : State where
  vm := { classes := classes, interned := interned.toArray }
  heap := heap
  slotsUsed := slotsUsed
  threads := #[{ frames := .invoking theMethod args0 :: below }]
def below0 : List Frame := [.native { method := ⟨0, 0⟩, args := #[] }]
def about1 : State := aboutOver below0
def p0 : Program := .bare "" "" ""
def e0 : Env := launch0.env 0 0 0
theorem w_frames : about1.frames = Frame.invoking theMethod args0 :: below0 := rfl
set_option maxRecDepth 65536 in
theorem w_args : argsFit about1.vm theMethod args0 = true := by decide +kernel
set_option maxRecDepth 65536 in
theorem w_heap : heapFits about1 = true := by decide +kernel
set_option maxRecDepth 65536 in
theorem w_runnable : about1.curStatus? = some .runnable := by decide +kernel
set_option maxRecDepth 65536 in
theorem w_alone : about1.alone = true := by decide +kernel
set_option maxRecDepth 65536 in
theorem w_named : about1.methodNamed? x = some theMethod := by decide +kernel
set_option maxRecDepth 65536 in
theorem w_hears : about1.hears theMethod below0 = true := by decide +kernel
set_option maxRecDepth 65536 in
theorem w_ripe : about1.ripe theMethod args0 below0 = true := by decide +kernel
theorem w_running : about1.status = .running := rfl
set_option maxRecDepth 65536 in
theorem w_room : about1.hasRoom e0.platform room_1 = true :=
  launch0.hasRoom_least _ room_1 (by decide +kernel) (by decide +kernel) (by decide +kernel) (by decide +kernel) (by decide +kernel) (by decide +kernel)
theorem allAtoms_all (ts : List Jvm.Cond) (a : Array Jvm.Value) (st : Jvm.State) : (allAtoms ts).before a st = ts.all (fun c => c.before a st) := by
  induction ts with
  | nil => rfl
  | cons c t ih =>
    show (Jvm.Cond.and c (allAtoms t)).before a st = _
    rw [Jvm.Cond.before_and, ih, List.all_cons]
def words1 : List Jvm.Cond := Jvm.Cond.code x code maxLocals ret :: tables_1
/-- a 'code' word, met by the world's own term for the bytes: nothing is compared byte by byte -/
theorem code_word {y : MethodName} {bytes : ByteArray} {mx : Nat} {rt : Option FieldType} {a : Array Value} {s : State} {m : MethodId} {meth : Method} {c : Code} (h1 : s.methodNamed? y = some m) (h2 : s.vm.method? m = some meth) (h3 : meth.code = some c) (h4 : c.code = bytes)
    (h5 : (c.maxLocals == mx && c.exceptionTable.isEmpty && decide (c.maxStack ≤ mostOperands) && decide (meth.sig.returnType = rt) && !meth.locks && decide (parseMethodDescriptor y.desc = some meth.sig)) = true) : (Jvm.Cond.code y bytes mx rt).before a s = true := by
  simp only [Bool.and_eq_true, beq_iff_eq, Bool.not_eq_true', decide_eq_true_eq] at h5
  obtain ⟨⟨⟨⟨⟨g1, g2⟩, g3⟩, g4⟩, g5⟩, g6⟩ := h5
  simp [Cond.before, Cond.holds, Cond.value, h1, h2, h3, h4, g1, g2, g3, g4, g5, g6]
def isCode : Jvm.Cond → Bool
  | .code _ _ _ _ => true
  | _ => false
theorem all_split {L : List Jvm.Cond} {P : Jvm.Cond → Bool} (h1 : L.all (fun c => isCode c || P c) = true) (h2 : ∀ c ∈ L.filter isCode, P c = true) : L.all P = true := by
  refine List.all_eq_true.mpr fun c hc => ?_
  have h := List.all_eq_true.mp h1 c hc
  rcases Bool.eq_false_or_eq_true (isCode c) with hi | hi
  · exact h2 c (List.mem_filter.mpr ⟨hc, hi⟩)
  · simpa [hi] using h
set_option maxRecDepth 65536 in
theorem w_c0 : (Jvm.Cond.code x code maxLocals ret).before args0 about1 = true := code_word (m := ⟨1, 1⟩) (meth := k1m1) (c := k1c1) (by decide +kernel) rfl rfl rfl (by decide +kernel)
set_option maxRecDepth 65536 in
theorem w_c1 : (Jvm.Cond.code ({ cls := "com/example/querylathe/querylathe/sql/Lexer", name := "isSpace", desc := "(C)Z" } : Jvm.MethodName) prog_87_method_9_code (1 : Nat) (Option.some Jvm.ClassFile.FieldType.boolean)).before args0 about1 = true := code_word (m := ⟨2, 1⟩) (meth := k2m1) (c := k2c1) (by decide +kernel) rfl rfl rfl (by decide +kernel)
def codes1 : List Jvm.Cond := [Jvm.Cond.code x code maxLocals ret, Jvm.Cond.code ({ cls := "com/example/querylathe/querylathe/sql/Lexer", name := "isSpace", desc := "(C)Z" } : Jvm.MethodName) prog_87_method_9_code (1 : Nat) (Option.some Jvm.ClassFile.FieldType.boolean)]
set_option maxRecDepth 65536 in
theorem codes_eq : words1.filter isCode = codes1 := rfl
theorem w_codes : ∀ c ∈ words1.filter isCode, c.before args0 about1 = true := by
  rw [codes_eq]
  intro c hc
  simp only [codes1, List.mem_cons, List.not_mem_nil, or_false] at hc
  rcases hc with rfl | rfl
  · exact w_c0
  · exact w_c1
set_option maxRecDepth 65536 in
theorem w_t1 : words1.all (fun c => isCode c || c.before args0 about1) = true := by decide +kernel
theorem w_tables : (allAtoms (Jvm.Cond.code x code maxLocals ret :: tables_1)).before args0 about1 = true := by
  rw [allAtoms_all]
  show words1.all (fun c => c.before args0 about1) = true
  refine all_split ?_ w_codes
  rw [w_t1]
set_option maxRecDepth 65536 in
theorem w_case : (Jvm.Cond.and given_1 narrow_1).before args0 about1 = true := by decide +kernel
theorem w_applies : (headSpec (Jvm.Cond.code x code maxLocals ret :: tables_1) room_1).applies x e0.platform about1 = true :=
  (Spec.applies_iff w_frames).mpr ⟨w_running, w_runnable, w_alone, w_named, w_hears, w_ripe, w_room, w_tables⟩
theorem atStart : AtStart classFile x code maxLocals ret World_1 tables_1 room_1 Calls_1 rest_1 Pre_1 launch0 p0 e0 about1 theMethod args0 below0 :=
  ⟨lists_1, trivial, launch0.admits_env _ _ _, launch0.least_env, fairChoices_fair.cas, fairChoices_fair.clock, w_frames, w_args, w_heap, w_applies, trivial, trivial, w_case⟩
end start1
theorem witness_1 : WitnessClaimed_1 := ⟨start1.p0, start1.e0, start1.about1, start1.theMethod, start1.args0, start1.below0, start1.atStart⟩
end Jvm.Pilot.@@N@@
