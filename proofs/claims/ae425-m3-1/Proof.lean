import JvmDerived
import JvmDerived.Pilot.@@N@@Statement
import JvmDerived.Pilot.@@N@@Code
set_option linter.unusedVariables false
set_option linter.unusedSimpArgs false
namespace Jvm.Pilot.@@N@@
open Jvm Jvm.ClassFile Sem Op Lib Jvm.Free Jvm.Stand Jvm.LawKit Jvm.RoadKit Bundle Jvm.Pilot.@@N@@.Jvm.D
abbrev sI (x : Int32) : Slot := .val (.int x)
abbrev sJ (x : Int64) : Slot := .val (.long x)
abbrev sR (a : Addr) : Slot := .val (.ref a)
abbrev sN : Slot := .val .null
abbrev sU : Slot := .unset
abbrev sW : Slot := .second
abbrev own_S (p : Program) (e : Env) (below : List Frame) (T : State) (m : MethodId) (pc : Nat) (L : Array Slot) (S : List Value) (t : State) : Prop := Steps p.tables e below (T.setTop (mkF m pc L S)) t
theorem own_d1_0 : decode prog_31_method_5_code 0 = .ok (.aload_n 0, 1) := by decide +kernel
theorem own_d1_1 : decode prog_31_method_5_code 1 = .ok (.getstatic 3, 3) := by decide +kernel
theorem own_d1_4 : decode prog_31_method_5_code 4 = .ok (.if_acmp .eq 14, 3) := by decide +kernel
theorem own_d1_7 : decode prog_31_method_5_code 7 = .ok (.aload_n 0, 1) := by decide +kernel
theorem own_d1_8 : decode prog_31_method_5_code 8 = .ok (.getstatic 7, 3) := by decide +kernel
theorem own_d1_11 : decode prog_31_method_5_code 11 = .ok (.if_acmp .eq 7, 3) := by decide +kernel
theorem own_d1_14 : decode prog_31_method_5_code 14 = .ok (.iconst 1, 1) := by decide +kernel
theorem own_d1_15 : decode prog_31_method_5_code 15 = .ok (.goto 4, 3) := by decide +kernel
theorem own_d1_18 : decode prog_31_method_5_code 18 = .ok (.iconst 0, 1) := by decide +kernel
theorem own_d1_19 : decode prog_31_method_5_code 19 = .ok (.ireturn, 1) := by decide +kernel
theorem own_pn_0 : plainName "com/example/querylathe/querylathe/sql/Affinity" = true := by first | (simp [plainName, overriddenIn]; done) | decide +kernel
theorem own_ef_1 (m : MethodId) (x0 : Addr) : entryFrame m #[(.ref x0)] 1 = mkF m 0 #[sR x0] [] := by first | (simp [entryFrame, mkF, argsToLocals, Value.category]; done) | rfl
def own_Q1 (Z : State) (a1 : Addr) (aNONE : Addr) (aBLOB : Addr) (h0 : Heap) (n0 : Nat) (v : Option Value) (h : Heap) (L : List Loc) : Prop := v = some (.int (if a1 = aNONE ∨ a1 = aBLOB then (0 : Int32) else 1)) ∧ Fr n0 L ∧ h = h0
abbrev own_y0 : MethodName := ⟨"com/example/querylathe/querylathe/sql/Affinity", "converts", "()Z"⟩
set_option maxRecDepth 65536 in
set_option maxHeartbeats 40000000 in
theorem own_rm1 (l : Launch) (Z : State) (a0 : Array Value) (hw : ∀ d ∈ tables_1, d.before a0 Z = true) (ws : List Jvm.Cond) (a1 : Addr) (aNONE : Addr) (aBLOB : Addr) (h0 : Heap) (n0 : Nat) (Z0 : n0 ≤ h0.size) (S_NONE : Sta Z h0 "com/example/querylathe/querylathe/sql/Affinity" "NONE" "Lcom/example/querylathe/querylathe/sql/Affinity;" (.ref aNONE)) (S_BLOB : Sta Z h0 "com/example/querylathe/querylathe/sql/Affinity" "BLOB" "Lcom/example/querylathe/querylathe/sql/Affinity;" (.ref aBLOB)) :
    MetFree l own_y0 (head1 (Jvm.Cond.code own_y0 prog_31_method_5_code 1 (some .boolean) :: ws) ({ frames := 0, cells := 0, slots := 0, locals := 0 } : Room)) (fun a U => a = #[(.ref a1)] ∧ Z.Warmed39 U.vm ∧ U.heap = h0) (fun _ _ _ _ _ => True) (fun _ U o U' => ∃ v L, o = .returned v ∧ own_Q1 Z a1 aNONE aBLOB h0 n0 v U'.heap L ∧ FrameEnd U o U' L ({ frames := 0, cells := 0, slots := 0, locals := 0 } : Room).cells ({ frames := 0, cells := 0, slots := 0, locals := 0 } : Room).slots) := by
  refine MetFree.of_bodySF (plainFor_of_name own_pn_0) hisR ?_
  intro p e s m args below meth c s₁ Bd hml0 hP hK
  obtain ⟨rfl, hZ, hh⟩ := hP
  have hw9 := hw _ (List.mem_of_getElem? (i := 9) rfl)
  have hw12 := hw _ (List.mem_of_getElem? (i := 12) rfl)
  have hx := Bd.exec
  have hby := Bd.bytes
  have hml : c.maxLocals = 1 := hml0
  have hown : s.vm.findClass "com/example/querylathe/querylathe/sql/Affinity" = some m.cls := findClass_of_methodNamed Bd.named
  have hnm := (name_of_methodNamed Bd.named Bd.method).1
  have X0 : Stand p l e ({ frames := 0, cells := 0, slots := 0, locals := 0 } : Room) s m #[(.ref a1)] below meth c s₁ [] 0 0 := Stand.of_body Bd
  have e0 : s₁.heap = h0 := by rw [← hh, Bd.state]; rfl
  have N0 := Fr.nil n0
  obtain ⟨R0, hR0⟩ : ∃ R : State → Prop, R = fun t => Steps p.tables e below (s₁.setTop (entryFrame m #[(.ref a1)] 1)) t := ⟨_, rfl⟩
  have pre0 : ∀ t, Steps p.tables e below (s₁.setTop (mkF m 0 #[sR a1] [])) t → R0 t := fun t k => by rw [hR0]; exact castTop (own_ef_1 m a1) k
  have pre1 : ∀ t, own_S p e below s₁ m 1 #[sR a1] [(.ref a1)] t → R0 t := fun t k => pre0 t (by
    refine XS.aloadN X0.here hx rfl (hb hby own_d1_0) rfl rfl ?_
    exact k)
  obtain ⟨T2, X2, e2, st2⟩ := getS2 X0 hx hZ hown (host := "") (Or.inl hw9) Via.refl e0 S_NONE (g := (mkF m 1 #[sR a1] [(.ref a1)])) rfl (hb hby own_d1_1)
  have pre3 : ∀ t, own_S p e below T2 m 4 #[sR a1] [(.ref aNONE), (.ref a1)] t → R0 t := fun t k => pre1 t (by
    refine st2 _ ?_
    exact k)
  by_cases ha4 : a1 = aNONE
  · have pre4 : ∀ t, own_S p e below T2 m 19 #[sR a1] [(.int 0)] t → R0 t := fun t k => pre3 t (by
      refine Jvm.RoadKit.acmp (g := (mkF m 4 #[sR a1] [(.ref aNONE), (.ref a1)])) X2 hx rfl rfl rfl (pc0 := 4) (pc' := 18) (same := true) rfl (hb hby own_d1_4) rfl (decide_eq_true (congrArg Value.ref ha4)) (by decide) (by decide) ?_
      show own_S p e below T2 m 18 #[sR a1] [] _
      refine XS.iconst X2.here hx rfl (hb hby own_d1_18) ?_
      exact k)
    obtain ⟨fs, hr, hrun, hended, hW, hsame⟩ := X2.leave (v := some (.int 0)) (fun h => by rw [Bd.returns] at h; cases h)
    refine ⟨_, _, cast (congrFun hR0 _) (pre4 _ (retN X2 hx (t := .boolean) Bd.returns (by simp) (hb hby own_d1_19) hr)), hrun, hended, _, _, rfl, ?_, ⟨_, rfl⟩, hW, hsame.mono (by decide) (by decide)⟩
    show own_Q1 Z _ _ _ h0 n0 _ T2.heap _
    rw [e2]
    exact ⟨(by rw [if_pos (Or.inl ha4)]), N0, rfl⟩
  · have pre5 : ∀ t, own_S p e below T2 m 8 #[sR a1] [(.ref a1)] t → R0 t := fun t k => pre3 t (by
      refine Jvm.RoadKit.acmp (g := (mkF m 4 #[sR a1] [(.ref aNONE), (.ref a1)])) X2 hx rfl rfl rfl (pc0 := 4) (pc' := 7) (same := false) rfl (hb hby own_d1_4) rfl (decide_eq_false fun q => ha4 (Value.ref.inj q)) (by decide) (by decide) ?_
      show own_S p e below T2 m 7 #[sR a1] [] _
      refine XS.aloadN X2.here hx rfl (hb hby own_d1_7) rfl rfl ?_
      exact k)
    obtain ⟨T6, X6, e6, st6⟩ := getS2 X2 hx hZ hown (host := "") (Or.inl hw12) Via.refl e2 S_BLOB (g := (mkF m 8 #[sR a1] [(.ref a1)])) rfl (hb hby own_d1_8)
    have pre7 : ∀ t, own_S p e below T6 m 11 #[sR a1] [(.ref aBLOB), (.ref a1)] t → R0 t := fun t k => pre5 t (by
      refine st6 _ ?_
      exact k)
    by_cases ha11 : a1 = aBLOB
    · have pre8 : ∀ t, own_S p e below T6 m 19 #[sR a1] [(.int 0)] t → R0 t := fun t k => pre7 t (by
        refine Jvm.RoadKit.acmp (g := (mkF m 11 #[sR a1] [(.ref aBLOB), (.ref a1)])) X6 hx rfl rfl rfl (pc0 := 11) (pc' := 18) (same := true) rfl (hb hby own_d1_11) rfl (decide_eq_true (congrArg Value.ref ha11)) (by decide) (by decide) ?_
        show own_S p e below T6 m 18 #[sR a1] [] _
        refine XS.iconst X6.here hx rfl (hb hby own_d1_18) ?_
        exact k)
      obtain ⟨fs, hr, hrun, hended, hW, hsame⟩ := X6.leave (v := some (.int 0)) (fun h => by rw [Bd.returns] at h; cases h)
      refine ⟨_, _, cast (congrFun hR0 _) (pre8 _ (retN X6 hx (t := .boolean) Bd.returns (by simp) (hb hby own_d1_19) hr)), hrun, hended, _, _, rfl, ?_, ⟨_, rfl⟩, hW, hsame.mono (by decide) (by decide)⟩
      show own_Q1 Z _ _ _ h0 n0 _ T6.heap _
      rw [e6]
      exact ⟨(by rw [if_pos (Or.inr ha11)]), N0, rfl⟩
    · have pre9 : ∀ t, own_S p e below T6 m 19 #[sR a1] [(.int 1)] t → R0 t := fun t k => pre7 t (by
        refine Jvm.RoadKit.acmp (g := (mkF m 11 #[sR a1] [(.ref aBLOB), (.ref a1)])) X6 hx rfl rfl rfl (pc0 := 11) (pc' := 14) (same := false) rfl (hb hby own_d1_11) rfl (decide_eq_false fun q => ha11 (Value.ref.inj q)) (by decide) (by decide) ?_
        show own_S p e below T6 m 14 #[sR a1] [] _
        refine XS.iconst X6.here hx rfl (hb hby own_d1_14) ?_
        show own_S p e below T6 m 15 #[sR a1] [(.int 1)] _
        refine XS.goto X6.here hx rfl (pc0 := 15) (pc' := 19) rfl (hb hby own_d1_15) (by decide) (by decide) ?_
        exact k)
      obtain ⟨fs, hr, hrun, hended, hW, hsame⟩ := X6.leave (v := some (.int 1)) (fun h => by rw [Bd.returns] at h; cases h)
      refine ⟨_, _, cast (congrFun hR0 _) (pre9 _ (retN X6 hx (t := .boolean) Bd.returns (by simp) (hb hby own_d1_19) hr)), hrun, hended, _, _, rfl, ?_, ⟨_, rfl⟩, hW, hsame.mono (by decide) (by decide)⟩
      show own_Q1 Z _ _ _ h0 n0 _ T6.heap _
      rw [e6]
      exact ⟨(by rw [if_neg (fun q => q.elim ha4 ha11)]), N0, rfl⟩
theorem own_pd_0 : parseMethodDescriptor "()Z" = some ⟨[], some .boolean⟩ := by decide +kernel
theorem own_pn_1 : plainName "com/example/querylathe/querylathe/sql/AffinityConvertsPinLaw" = true := by first | (simp [plainName, overriddenIn]; done) | decide +kernel
theorem own_ef_0 (m : MethodId) (x0 : Int32) : entryFrame m #[(.int x0)] maxLocals = mkF m 0 #[sI x0, .unset, .unset, .unset] [] := by first | (simp [entryFrame, mkF, argsToLocals, Value.category, maxLocals]; done) | rfl
def own_Q0 (Z : State) (p1 : Int32) (aNONE : Addr) (aNUMERIC : Addr) (aBLOB : Addr) (aREAL : Addr) (aUNKNOWN : Addr) (aINTEGER : Addr) (aTEXT : Addr) (h0 : Heap) (n0 : Nat) (v : Option Value) (h : Heap) (L : List Loc) : Prop := v = some (.int 1) ∧ Fr n0 L
set_option maxRecDepth 65536 in
set_option maxHeartbeats 40000000 in
theorem own_rm0 (l : Launch) (Z : State) (a0 : Array Value) (hw : ∀ d ∈ tables_1, d.before a0 Z = true) (ws : List Jvm.Cond) (p1 : Int32) (aNONE : Addr) (aNUMERIC : Addr) (aBLOB : Addr) (aREAL : Addr) (aUNKNOWN : Addr) (aINTEGER : Addr) (aTEXT : Addr) (h0 : Heap) (n0 : Nat) (Z0 : n0 ≤ h0.size) (E_aNONE : Exa Z h0 aNONE "com/example/querylathe/querylathe/sql/Affinity") (E_aNUMERIC : Exa Z h0 aNUMERIC "com/example/querylathe/querylathe/sql/Affinity") (E_aBLOB : Exa Z h0 aBLOB "com/example/querylathe/querylathe/sql/Affinity") (E_aREAL : Exa Z h0 aREAL "com/example/querylathe/querylathe/sql/Affinity") (E_aUNKNOWN : Exa Z h0 aUNKNOWN "com/example/querylathe/querylathe/sql/Affinity") (E_aINTEGER : Exa Z h0 aINTEGER "com/example/querylathe/querylathe/sql/Affinity") (E_aTEXT : Exa Z h0 aTEXT "com/example/querylathe/querylathe/sql/Affinity") (S_NONE : Sta Z h0 "com/example/querylathe/querylathe/sql/Affinity" "NONE" "Lcom/example/querylathe/querylathe/sql/Affinity;" (.ref aNONE)) (S_NUMERIC : Sta Z h0 "com/example/querylathe/querylathe/sql/Affinity" "NUMERIC" "Lcom/example/querylathe/querylathe/sql/Affinity;" (.ref aNUMERIC)) (S_BLOB : Sta Z h0 "com/example/querylathe/querylathe/sql/Affinity" "BLOB" "Lcom/example/querylathe/querylathe/sql/Affinity;" (.ref aBLOB)) (S_REAL : Sta Z h0 "com/example/querylathe/querylathe/sql/Affinity" "REAL" "Lcom/example/querylathe/querylathe/sql/Affinity;" (.ref aREAL)) (S_UNKNOWN : Sta Z h0 "com/example/querylathe/querylathe/sql/Affinity" "UNKNOWN" "Lcom/example/querylathe/querylathe/sql/Affinity;" (.ref aUNKNOWN)) (S_INTEGER : Sta Z h0 "com/example/querylathe/querylathe/sql/Affinity" "INTEGER" "Lcom/example/querylathe/querylathe/sql/Affinity;" (.ref aINTEGER)) (S_TEXT : Sta Z h0 "com/example/querylathe/querylathe/sql/Affinity" "TEXT" "Lcom/example/querylathe/querylathe/sql/Affinity;" (.ref aTEXT)) (ne_aNUMERIC_aNONE : aNUMERIC ≠ aNONE) (ne_aNUMERIC_aBLOB : aNUMERIC ≠ aBLOB) (ne_aREAL_aNONE : aREAL ≠ aNONE) (ne_aREAL_aBLOB : aREAL ≠ aBLOB) (ne_aUNKNOWN_aNONE : aUNKNOWN ≠ aNONE) (ne_aUNKNOWN_aBLOB : aUNKNOWN ≠ aBLOB) (ne_aINTEGER_aNONE : aINTEGER ≠ aNONE) (ne_aINTEGER_aBLOB : aINTEGER ≠ aBLOB) (ne_aTEXT_aNONE : aTEXT ≠ aNONE) (ne_aTEXT_aBLOB : aTEXT ≠ aBLOB) :
    MetFree l x (head1 (Jvm.Cond.code x code maxLocals ret :: ws) room_1) (fun a U => a = #[(.int p1)] ∧ Z.Warmed39 U.vm ∧ U.heap = h0) (fun _ _ _ _ _ => True) (fun _ U o U' => ∃ v L, o = .returned v ∧ own_Q0 Z p1 aNONE aNUMERIC aBLOB aREAL aUNKNOWN aINTEGER aTEXT h0 n0 v U'.heap L ∧ FrameEnd U o U' L room_1.cells room_1.slots) := by
  refine MetFree.of_bodySF (plainFor_of_name own_pn_1) hisR ?_
  intro p e s m args below meth c s₁ Bd hml0 hP hK
  obtain ⟨rfl, hZ, hh⟩ := hP
  have hw0 := hw _ (List.mem_of_getElem? (i := 0) rfl)
  have hw1 := hw _ (List.mem_of_getElem? (i := 1) rfl)
  have hw2 := hw _ (List.mem_of_getElem? (i := 2) rfl)
  have hw4 := hw _ (List.mem_of_getElem? (i := 4) rfl)
  have hw5 := hw _ (List.mem_of_getElem? (i := 5) rfl)
  have hw6 := hw _ (List.mem_of_getElem? (i := 6) rfl)
  have hw7 := hw _ (List.mem_of_getElem? (i := 7) rfl)
  have hw8 := hw _ (List.mem_of_getElem? (i := 8) rfl)
  have hw10 := hw _ (List.mem_of_getElem? (i := 10) rfl)
  have hw14 := hw _ (List.mem_of_getElem? (i := 14) rfl)
  have hw16 := hw _ (List.mem_of_getElem? (i := 16) rfl)
  have hw18 := hw _ (List.mem_of_getElem? (i := 18) rfl)
  have hw20 := hw _ (List.mem_of_getElem? (i := 20) rfl)
  have hw22 := hw _ (List.mem_of_getElem? (i := 22) rfl)
  have hx := Bd.exec
  have hby := Bd.bytes
  have hml : c.maxLocals = 4 := hml0
  have hown : s.vm.findClass "com/example/querylathe/querylathe/sql/AffinityConvertsPinLaw" = some m.cls := findClass_of_methodNamed Bd.named
  have hnm := (name_of_methodNamed Bd.named Bd.method).1
  have X0 : Stand p l e room_1 s m #[(.int p1)] below meth c s₁ [] 0 0 := Stand.of_body Bd
  have e0 : s₁.heap = h0 := by rw [← hh, Bd.state]; rfl
  have N0 := Fr.nil n0
  obtain ⟨R0, hR0⟩ : ∃ R : State → Prop, R = fun t => Steps p.tables e below (s₁.setTop (entryFrame m #[(.int p1)] maxLocals)) t := ⟨_, rfl⟩
  have pre0 : ∀ t, Steps p.tables e below (s₁.setTop (mkF m 0 #[sI p1, sU, sU, sU] [])) t → R0 t := fun t k => by rw [hR0]; exact castTop (own_ef_0 m p1) k
  have pre1 : ∀ t, own_S p e below s₁ m 7 #[sI p1, sU, sU, sU] [(.int ((p1 &&& (2147483647 : Int32)) % (7 : Int32)))] t → R0 t := fun t k => pre0 t (by
    refine XS.iloadN X0.here hx rfl (hb hby at_0) rfl ?_
    show own_S p e below s₁ m 1 #[sI p1, sU, sU, sU] [(.int p1)] _
    refine X0.ldcInt hx hown (mvT hZ hw0) (g := (mkF m 1 #[sI p1, sU, sU, sU] [(.int p1)])) rfl (hb hby at_1) _ ?_
    show own_S p e below s₁ m 3 #[sI p1, sU, sU, sU] [(.int 2147483647), (.int p1)] _
    refine XS.iand X0.here hx rfl (hb hby at_3) rfl ?_
    show own_S p e below s₁ m 4 #[sI p1, sU, sU, sU] [(.int (p1 &&& (2147483647 : Int32)))] _
    refine XS.bipush X0.here hx rfl (hb hby at_4) ?_
    show own_S p e below s₁ m 6 #[sI p1, sU, sU, sU] [(.int 7), (.int (p1 &&& (2147483647 : Int32)))] _
    refine iremM X0 hx rfl (hb hby at_6) rfl (by decide) ?_
    exact k)
  obtain ⟨v1, hv1⟩ : ∃ z : Int32, z = ((p1 &&& (2147483647 : Int32)) % (7 : Int32)) := ⟨_, rfl⟩
  have pre2 : ∀ t, own_S p e below s₁ m 7 #[sI p1, sU, sU, sU] [(.int v1)] t → R0 t := fun t k => pre1 t (by subst hv1; exact k)
  have pre3 : ∀ t, own_S p e below s₁ m 9 #[sI p1, sI v1, sU, sU] [(.int v1)] t → R0 t := fun t k => pre2 t (by
    refine XS.istoreN X0.here hx rfl (hb hby at_7) rfl (l' := #[sI p1, sI v1, sU, sU]) rfl ?_
    show own_S p e below s₁ m 8 #[sI p1, sI v1, sU, sU] [] _
    refine XS.iloadN X0.here hx rfl (hb hby at_8) rfl ?_
    exact k)
  by_cases hc9 : v1 = (0 : Int32)
  · have pre4 : ∀ t, own_S p e below s₁ m 12 #[sI p1, sI v1, sU, sU] [] t → R0 t := fun t k => pre3 t (by
      refine XS.ifNo X0.here hx rfl (hb hby at_9) rfl ((if0 _ _).trans (teq hc9).2) ?_
      exact k)
    obtain ⟨T5, X5, e5, st5⟩ := getS2 X0 hx hZ hown (host := "") (Or.inl hw1) Via.refl e0 S_NONE (g := (mkF m 12 #[sI p1, sI v1, sU, sU] [])) rfl (hb hby at_12)
    have pre6 : ∀ t, own_S p e below T5 m 98 #[sI p1, sI v1, sR aNONE, sI 0] [(.ref aNONE)] t → R0 t := fun t k => pre4 t (by
      refine st5 _ ?_
      show own_S p e below T5 m 15 #[sI p1, sI v1, sU, sU] [(.ref aNONE)] _
      refine XS.astoreN X5.here hx rfl (hb hby at_15) rfl rfl (l' := #[sI p1, sI v1, sR aNONE, sU]) rfl ?_
      show own_S p e below T5 m 16 #[sI p1, sI v1, sR aNONE, sU] [] _
      refine XS.iconst X5.here hx rfl (hb hby at_16) ?_
      show own_S p e below T5 m 17 #[sI p1, sI v1, sR aNONE, sU] [(.int 0)] _
      refine XS.istoreN X5.here hx rfl (hb hby at_17) rfl (l' := #[sI p1, sI v1, sR aNONE, sI 0]) rfl ?_
      show own_S p e below T5 m 18 #[sI p1, sI v1, sR aNONE, sI 0] [] _
      refine XS.goto X5.here hx rfl (pc0 := 18) (pc' := 97) rfl (hb hby at_18) (by decide) (by decide) ?_
      show own_S p e below T5 m 97 #[sI p1, sI v1, sR aNONE, sI 0] [] _
      refine XS.aloadN X5.here hx rfl (hb hby at_97) rfl rfl ?_
      exact k)
    obtain ⟨cq7, kq7, q7a, q7b, q7c⟩ := isOf hZ e5 E_aNONE
    obtain ⟨_, _, ⟨T7, L7, k7, n7⟩, -, X7, ⟨Lc7, hQ7, l7, y7, z7⟩, st7⟩ := X5.virtualBack hx (y := own_y0) (z := own_y0) hown (mvT hZ hw4) (mvT hZ hw5) (notFace_of_selects (args := #[]) (mvT hZ hw7)) (mvT hZ hw7) (mvT hZ hw6) (by decide) (backOf (W := 0) (own_rm1 l Z a0 hw [] aNONE aNONE aBLOB h0 n0 Z0 S_NONE S_BLOB) hZ hw8 hw2 (by decide) (by decide)) q7a q7c (g := (mkF m 98 #[sI p1, sI v1, sR aNONE, sI 0] [(.ref aNONE)])) rfl (by rw [hml]; rfl) (Steps.refl _) (argsL := []) (rest := []) (lenOf own_pd_0 rfl) rfl (by show 2 * 0 + _ ≤ _; exact Nat.le_of_eq rfl) (hb hby at_98) (fun _ _ => ⟨rfl, e5, (by decide : 0 + 0 ≤ _), (by decide : 0 + 0 ≤ _)⟩)
    dsimp only [Pt.U, Pt.locs, Pt.cells, Pt.slots] at X7 l7 y7 z7 st7 hQ7
    subst l7 y7 z7
    obtain ⟨rfl, N7q, eh7⟩ := hQ7
    have N7 := Fr.app N0 N7q
    have pre8 : ∀ t, own_S p e below T7 m 102 #[sI p1, sI v1, sR aNONE, sI 0] [(.int 0), (.int (if aNONE = aNONE ∨ aNONE = aBLOB then (0 : Int32) else 1))] t → R0 t := fun t k => pre6 t (by
      refine st7.trans ?_
      show own_S p e below T7 m 101 #[sI p1, sI v1, sR aNONE, sI 0] [(.int (if aNONE = aNONE ∨ aNONE = aBLOB then (0 : Int32) else 1))] _
      refine XS.iloadN X7.here hx rfl (hb hby at_101) rfl ?_
      exact k)
    have hc9 : (if aNONE = aNONE ∨ aNONE = aBLOB then (0 : Int32) else 1) = (0 : Int32) := if_pos (Or.inl rfl)
    have pre10 : ∀ t, own_S p e below T7 m 110 #[sI p1, sI v1, sR aNONE, sI 0] [(.int 1)] t → R0 t := fun t k => pre8 t (by
      refine XS.icmpNo X7.here hx rfl (hb hby at_102) rfl (teq hc9).2 ?_
      show own_S p e below T7 m 105 #[sI p1, sI v1, sR aNONE, sI 0] [] _
      refine XS.iconst X7.here hx rfl (hb hby at_105) ?_
      show own_S p e below T7 m 106 #[sI p1, sI v1, sR aNONE, sI 0] [(.int 1)] _
      refine XS.goto X7.here hx rfl (pc0 := 106) (pc' := 110) rfl (hb hby at_106) (by decide) (by decide) ?_
      exact k)
    obtain ⟨fs, hr, hrun, hended, hW, hsame⟩ := X7.leave (v := some (.int 1)) (fun h => by rw [Bd.returns] at h; cases h)
    refine ⟨_, _, cast (congrFun hR0 _) (pre10 _ (retN X7 hx (t := .boolean) Bd.returns (by simp) (hb hby at_110) hr)), hrun, hended, _, _, rfl, ?_, ⟨_, rfl⟩, hW, hsame.mono (by decide) (by decide)⟩
    show own_Q0 Z _ _ _ _ _ _ _ _ h0 n0 _ T7.heap _
    rw [eh7]
    exact ⟨rfl, N7⟩
  · have pre11 : ∀ t, own_S p e below s₁ m 23 #[sI p1, sI v1, sU, sU] [(.int 1), (.int v1)] t → R0 t := fun t k => pre3 t (by
      refine XS.ifYes X0.here hx rfl (pc0 := 9) (pc' := 21) rfl (hb hby at_9) rfl ((if0 _ _).trans (feq hc9).2) (by decide) (by decide) ?_
      show own_S p e below s₁ m 21 #[sI p1, sI v1, sU, sU] [] _
      refine XS.iloadN X0.here hx rfl (hb hby at_21) rfl ?_
      show own_S p e below s₁ m 22 #[sI p1, sI v1, sU, sU] [(.int v1)] _
      refine XS.iconst X0.here hx rfl (hb hby at_22) ?_
      exact k)
    by_cases hc23 : v1 = (1 : Int32)
    · have pre12 : ∀ t, own_S p e below s₁ m 26 #[sI p1, sI v1, sU, sU] [] t → R0 t := fun t k => pre11 t (by
        refine XS.icmpNo X0.here hx rfl (hb hby at_23) rfl (teq hc23).2 ?_
        exact k)
      obtain ⟨T13, X13, e13, st13⟩ := getS2 X0 hx hZ hown (host := "") (Or.inl hw22) Via.refl e0 S_BLOB (g := (mkF m 26 #[sI p1, sI v1, sU, sU] [])) rfl (hb hby at_26)
      have pre14 : ∀ t, own_S p e below T13 m 98 #[sI p1, sI v1, sR aBLOB, sI 0] [(.ref aBLOB)] t → R0 t := fun t k => pre12 t (by
        refine st13 _ ?_
        show own_S p e below T13 m 29 #[sI p1, sI v1, sU, sU] [(.ref aBLOB)] _
        refine XS.astoreN X13.here hx rfl (hb hby at_29) rfl rfl (l' := #[sI p1, sI v1, sR aBLOB, sU]) rfl ?_
        show own_S p e below T13 m 30 #[sI p1, sI v1, sR aBLOB, sU] [] _
        refine XS.iconst X13.here hx rfl (hb hby at_30) ?_
        show own_S p e below T13 m 31 #[sI p1, sI v1, sR aBLOB, sU] [(.int 0)] _
        refine XS.istoreN X13.here hx rfl (hb hby at_31) rfl (l' := #[sI p1, sI v1, sR aBLOB, sI 0]) rfl ?_
        show own_S p e below T13 m 32 #[sI p1, sI v1, sR aBLOB, sI 0] [] _
        refine XS.goto X13.here hx rfl (pc0 := 32) (pc' := 97) rfl (hb hby at_32) (by decide) (by decide) ?_
        show own_S p e below T13 m 97 #[sI p1, sI v1, sR aBLOB, sI 0] [] _
        refine XS.aloadN X13.here hx rfl (hb hby at_97) rfl rfl ?_
        exact k)
      obtain ⟨cq15, kq15, q15a, q15b, q15c⟩ := isOf hZ e13 E_aBLOB
      obtain ⟨_, _, ⟨T15, L15, k15, n15⟩, -, X15, ⟨Lc15, hQ15, l15, y15, z15⟩, st15⟩ := X13.virtualBack hx (y := own_y0) (z := own_y0) hown (mvT hZ hw4) (mvT hZ hw5) (notFace_of_selects (args := #[]) (mvT hZ hw7)) (mvT hZ hw7) (mvT hZ hw6) (by decide) (backOf (W := 0) (own_rm1 l Z a0 hw [] aBLOB aNONE aBLOB h0 n0 Z0 S_NONE S_BLOB) hZ hw8 hw2 (by decide) (by decide)) q15a q15c (g := (mkF m 98 #[sI p1, sI v1, sR aBLOB, sI 0] [(.ref aBLOB)])) rfl (by rw [hml]; rfl) (Steps.refl _) (argsL := []) (rest := []) (lenOf own_pd_0 rfl) rfl (by show 2 * 0 + _ ≤ _; exact Nat.le_of_eq rfl) (hb hby at_98) (fun _ _ => ⟨rfl, e13, (by decide : 0 + 0 ≤ _), (by decide : 0 + 0 ≤ _)⟩)
      dsimp only [Pt.U, Pt.locs, Pt.cells, Pt.slots] at X15 l15 y15 z15 st15 hQ15
      subst l15 y15 z15
      obtain ⟨rfl, N15q, eh15⟩ := hQ15
      have N15 := Fr.app N0 N15q
      have pre16 : ∀ t, own_S p e below T15 m 102 #[sI p1, sI v1, sR aBLOB, sI 0] [(.int 0), (.int (if aBLOB = aNONE ∨ aBLOB = aBLOB then (0 : Int32) else 1))] t → R0 t := fun t k => pre14 t (by
        refine st15.trans ?_
        show own_S p e below T15 m 101 #[sI p1, sI v1, sR aBLOB, sI 0] [(.int (if aBLOB = aNONE ∨ aBLOB = aBLOB then (0 : Int32) else 1))] _
        refine XS.iloadN X15.here hx rfl (hb hby at_101) rfl ?_
        exact k)
      have hc17 : (if aBLOB = aNONE ∨ aBLOB = aBLOB then (0 : Int32) else 1) = (0 : Int32) := if_pos (Or.inr rfl)
      have pre18 : ∀ t, own_S p e below T15 m 110 #[sI p1, sI v1, sR aBLOB, sI 0] [(.int 1)] t → R0 t := fun t k => pre16 t (by
        refine XS.icmpNo X15.here hx rfl (hb hby at_102) rfl (teq hc17).2 ?_
        show own_S p e below T15 m 105 #[sI p1, sI v1, sR aBLOB, sI 0] [] _
        refine XS.iconst X15.here hx rfl (hb hby at_105) ?_
        show own_S p e below T15 m 106 #[sI p1, sI v1, sR aBLOB, sI 0] [(.int 1)] _
        refine XS.goto X15.here hx rfl (pc0 := 106) (pc' := 110) rfl (hb hby at_106) (by decide) (by decide) ?_
        exact k)
      obtain ⟨fs, hr, hrun, hended, hW, hsame⟩ := X15.leave (v := some (.int 1)) (fun h => by rw [Bd.returns] at h; cases h)
      refine ⟨_, _, cast (congrFun hR0 _) (pre18 _ (retN X15 hx (t := .boolean) Bd.returns (by simp) (hb hby at_110) hr)), hrun, hended, _, _, rfl, ?_, ⟨_, rfl⟩, hW, hsame.mono (by decide) (by decide)⟩
      show own_Q0 Z _ _ _ _ _ _ _ _ h0 n0 _ T15.heap _
      rw [eh15]
      exact ⟨rfl, N15⟩
    · have pre19 : ∀ t, own_S p e below s₁ m 37 #[sI p1, sI v1, sU, sU] [(.int 2), (.int v1)] t → R0 t := fun t k => pre11 t (by
        refine XS.icmpYes X0.here hx rfl (pc0 := 23) (pc' := 35) rfl (hb hby at_23) rfl (feq hc23).2 (by decide) (by decide) ?_
        show own_S p e below s₁ m 35 #[sI p1, sI v1, sU, sU] [] _
        refine XS.iloadN X0.here hx rfl (hb hby at_35) rfl ?_
        show own_S p e below s₁ m 36 #[sI p1, sI v1, sU, sU] [(.int v1)] _
        refine XS.iconst X0.here hx rfl (hb hby at_36) ?_
        exact k)
      by_cases hc37 : v1 = (2 : Int32)
      · have pre20 : ∀ t, own_S p e below s₁ m 40 #[sI p1, sI v1, sU, sU] [] t → R0 t := fun t k => pre19 t (by
          refine XS.icmpNo X0.here hx rfl (hb hby at_37) rfl (teq hc37).2 ?_
          exact k)
        obtain ⟨T21, X21, e21, st21⟩ := getS2 X0 hx hZ hown (host := "") (Or.inl hw20) Via.refl e0 S_TEXT (g := (mkF m 40 #[sI p1, sI v1, sU, sU] [])) rfl (hb hby at_40)
        have pre22 : ∀ t, own_S p e below T21 m 98 #[sI p1, sI v1, sR aTEXT, sI 1] [(.ref aTEXT)] t → R0 t := fun t k => pre20 t (by
          refine st21 _ ?_
          show own_S p e below T21 m 43 #[sI p1, sI v1, sU, sU] [(.ref aTEXT)] _
          refine XS.astoreN X21.here hx rfl (hb hby at_43) rfl rfl (l' := #[sI p1, sI v1, sR aTEXT, sU]) rfl ?_
          show own_S p e below T21 m 44 #[sI p1, sI v1, sR aTEXT, sU] [] _
          refine XS.iconst X21.here hx rfl (hb hby at_44) ?_
          show own_S p e below T21 m 45 #[sI p1, sI v1, sR aTEXT, sU] [(.int 1)] _
          refine XS.istoreN X21.here hx rfl (hb hby at_45) rfl (l' := #[sI p1, sI v1, sR aTEXT, sI 1]) rfl ?_
          show own_S p e below T21 m 46 #[sI p1, sI v1, sR aTEXT, sI 1] [] _
          refine XS.goto X21.here hx rfl (pc0 := 46) (pc' := 97) rfl (hb hby at_46) (by decide) (by decide) ?_
          show own_S p e below T21 m 97 #[sI p1, sI v1, sR aTEXT, sI 1] [] _
          refine XS.aloadN X21.here hx rfl (hb hby at_97) rfl rfl ?_
          exact k)
        obtain ⟨cq23, kq23, q23a, q23b, q23c⟩ := isOf hZ e21 E_aTEXT
        obtain ⟨_, _, ⟨T23, L23, k23, n23⟩, -, X23, ⟨Lc23, hQ23, l23, y23, z23⟩, st23⟩ := X21.virtualBack hx (y := own_y0) (z := own_y0) hown (mvT hZ hw4) (mvT hZ hw5) (notFace_of_selects (args := #[]) (mvT hZ hw7)) (mvT hZ hw7) (mvT hZ hw6) (by decide) (backOf (W := 0) (own_rm1 l Z a0 hw [] aTEXT aNONE aBLOB h0 n0 Z0 S_NONE S_BLOB) hZ hw8 hw2 (by decide) (by decide)) q23a q23c (g := (mkF m 98 #[sI p1, sI v1, sR aTEXT, sI 1] [(.ref aTEXT)])) rfl (by rw [hml]; rfl) (Steps.refl _) (argsL := []) (rest := []) (lenOf own_pd_0 rfl) rfl (by show 2 * 0 + _ ≤ _; exact Nat.le_of_eq rfl) (hb hby at_98) (fun _ _ => ⟨rfl, e21, (by decide : 0 + 0 ≤ _), (by decide : 0 + 0 ≤ _)⟩)
        dsimp only [Pt.U, Pt.locs, Pt.cells, Pt.slots] at X23 l23 y23 z23 st23 hQ23
        subst l23 y23 z23
        obtain ⟨rfl, N23q, eh23⟩ := hQ23
        have N23 := Fr.app N0 N23q
        have pre24 : ∀ t, own_S p e below T23 m 102 #[sI p1, sI v1, sR aTEXT, sI 1] [(.int 1), (.int (if aTEXT = aNONE ∨ aTEXT = aBLOB then (0 : Int32) else 1))] t → R0 t := fun t k => pre22 t (by
          refine st23.trans ?_
          show own_S p e below T23 m 101 #[sI p1, sI v1, sR aTEXT, sI 1] [(.int (if aTEXT = aNONE ∨ aTEXT = aBLOB then (0 : Int32) else 1))] _
          refine XS.iloadN X23.here hx rfl (hb hby at_101) rfl ?_
          exact k)
        have hc25 : (if aTEXT = aNONE ∨ aTEXT = aBLOB then (0 : Int32) else 1) = (1 : Int32) := if_neg (fun q => q.elim ne_aTEXT_aNONE ne_aTEXT_aBLOB)
        have pre26 : ∀ t, own_S p e below T23 m 110 #[sI p1, sI v1, sR aTEXT, sI 1] [(.int 1)] t → R0 t := fun t k => pre24 t (by
          refine XS.icmpNo X23.here hx rfl (hb hby at_102) rfl (teq hc25).2 ?_
          show own_S p e below T23 m 105 #[sI p1, sI v1, sR aTEXT, sI 1] [] _
          refine XS.iconst X23.here hx rfl (hb hby at_105) ?_
          show own_S p e below T23 m 106 #[sI p1, sI v1, sR aTEXT, sI 1] [(.int 1)] _
          refine XS.goto X23.here hx rfl (pc0 := 106) (pc' := 110) rfl (hb hby at_106) (by decide) (by decide) ?_
          exact k)
        obtain ⟨fs, hr, hrun, hended, hW, hsame⟩ := X23.leave (v := some (.int 1)) (fun h => by rw [Bd.returns] at h; cases h)
        refine ⟨_, _, cast (congrFun hR0 _) (pre26 _ (retN X23 hx (t := .boolean) Bd.returns (by simp) (hb hby at_110) hr)), hrun, hended, _, _, rfl, ?_, ⟨_, rfl⟩, hW, hsame.mono (by decide) (by decide)⟩
        show own_Q0 Z _ _ _ _ _ _ _ _ h0 n0 _ T23.heap _
        rw [eh23]
        exact ⟨rfl, N23⟩
      · have pre27 : ∀ t, own_S p e below s₁ m 51 #[sI p1, sI v1, sU, sU] [(.int 3), (.int v1)] t → R0 t := fun t k => pre19 t (by
          refine XS.icmpYes X0.here hx rfl (pc0 := 37) (pc' := 49) rfl (hb hby at_37) rfl (feq hc37).2 (by decide) (by decide) ?_
          show own_S p e below s₁ m 49 #[sI p1, sI v1, sU, sU] [] _
          refine XS.iloadN X0.here hx rfl (hb hby at_49) rfl ?_
          show own_S p e below s₁ m 50 #[sI p1, sI v1, sU, sU] [(.int v1)] _
          refine XS.iconst X0.here hx rfl (hb hby at_50) ?_
          exact k)
        by_cases hc51 : v1 = (3 : Int32)
        · have pre28 : ∀ t, own_S p e below s₁ m 54 #[sI p1, sI v1, sU, sU] [] t → R0 t := fun t k => pre27 t (by
            refine XS.icmpNo X0.here hx rfl (hb hby at_51) rfl (teq hc51).2 ?_
            exact k)
          obtain ⟨T29, X29, e29, st29⟩ := getS2 X0 hx hZ hown (host := "") (Or.inl hw10) Via.refl e0 S_NUMERIC (g := (mkF m 54 #[sI p1, sI v1, sU, sU] [])) rfl (hb hby at_54)
          have pre30 : ∀ t, own_S p e below T29 m 98 #[sI p1, sI v1, sR aNUMERIC, sI 1] [(.ref aNUMERIC)] t → R0 t := fun t k => pre28 t (by
            refine st29 _ ?_
            show own_S p e below T29 m 57 #[sI p1, sI v1, sU, sU] [(.ref aNUMERIC)] _
            refine XS.astoreN X29.here hx rfl (hb hby at_57) rfl rfl (l' := #[sI p1, sI v1, sR aNUMERIC, sU]) rfl ?_
            show own_S p e below T29 m 58 #[sI p1, sI v1, sR aNUMERIC, sU] [] _
            refine XS.iconst X29.here hx rfl (hb hby at_58) ?_
            show own_S p e below T29 m 59 #[sI p1, sI v1, sR aNUMERIC, sU] [(.int 1)] _
            refine XS.istoreN X29.here hx rfl (hb hby at_59) rfl (l' := #[sI p1, sI v1, sR aNUMERIC, sI 1]) rfl ?_
            show own_S p e below T29 m 60 #[sI p1, sI v1, sR aNUMERIC, sI 1] [] _
            refine XS.goto X29.here hx rfl (pc0 := 60) (pc' := 97) rfl (hb hby at_60) (by decide) (by decide) ?_
            show own_S p e below T29 m 97 #[sI p1, sI v1, sR aNUMERIC, sI 1] [] _
            refine XS.aloadN X29.here hx rfl (hb hby at_97) rfl rfl ?_
            exact k)
          obtain ⟨cq31, kq31, q31a, q31b, q31c⟩ := isOf hZ e29 E_aNUMERIC
          obtain ⟨_, _, ⟨T31, L31, k31, n31⟩, -, X31, ⟨Lc31, hQ31, l31, y31, z31⟩, st31⟩ := X29.virtualBack hx (y := own_y0) (z := own_y0) hown (mvT hZ hw4) (mvT hZ hw5) (notFace_of_selects (args := #[]) (mvT hZ hw7)) (mvT hZ hw7) (mvT hZ hw6) (by decide) (backOf (W := 0) (own_rm1 l Z a0 hw [] aNUMERIC aNONE aBLOB h0 n0 Z0 S_NONE S_BLOB) hZ hw8 hw2 (by decide) (by decide)) q31a q31c (g := (mkF m 98 #[sI p1, sI v1, sR aNUMERIC, sI 1] [(.ref aNUMERIC)])) rfl (by rw [hml]; rfl) (Steps.refl _) (argsL := []) (rest := []) (lenOf own_pd_0 rfl) rfl (by show 2 * 0 + _ ≤ _; exact Nat.le_of_eq rfl) (hb hby at_98) (fun _ _ => ⟨rfl, e29, (by decide : 0 + 0 ≤ _), (by decide : 0 + 0 ≤ _)⟩)
          dsimp only [Pt.U, Pt.locs, Pt.cells, Pt.slots] at X31 l31 y31 z31 st31 hQ31
          subst l31 y31 z31
          obtain ⟨rfl, N31q, eh31⟩ := hQ31
          have N31 := Fr.app N0 N31q
          have pre32 : ∀ t, own_S p e below T31 m 102 #[sI p1, sI v1, sR aNUMERIC, sI 1] [(.int 1), (.int (if aNUMERIC = aNONE ∨ aNUMERIC = aBLOB then (0 : Int32) else 1))] t → R0 t := fun t k => pre30 t (by
            refine st31.trans ?_
            show own_S p e below T31 m 101 #[sI p1, sI v1, sR aNUMERIC, sI 1] [(.int (if aNUMERIC = aNONE ∨ aNUMERIC = aBLOB then (0 : Int32) else 1))] _
            refine XS.iloadN X31.here hx rfl (hb hby at_101) rfl ?_
            exact k)
          have hc33 : (if aNUMERIC = aNONE ∨ aNUMERIC = aBLOB then (0 : Int32) else 1) = (1 : Int32) := if_neg (fun q => q.elim ne_aNUMERIC_aNONE ne_aNUMERIC_aBLOB)
          have pre34 : ∀ t, own_S p e below T31 m 110 #[sI p1, sI v1, sR aNUMERIC, sI 1] [(.int 1)] t → R0 t := fun t k => pre32 t (by
            refine XS.icmpNo X31.here hx rfl (hb hby at_102) rfl (teq hc33).2 ?_
            show own_S p e below T31 m 105 #[sI p1, sI v1, sR aNUMERIC, sI 1] [] _
            refine XS.iconst X31.here hx rfl (hb hby at_105) ?_
            show own_S p e below T31 m 106 #[sI p1, sI v1, sR aNUMERIC, sI 1] [(.int 1)] _
            refine XS.goto X31.here hx rfl (pc0 := 106) (pc' := 110) rfl (hb hby at_106) (by decide) (by decide) ?_
            exact k)
          obtain ⟨fs, hr, hrun, hended, hW, hsame⟩ := X31.leave (v := some (.int 1)) (fun h => by rw [Bd.returns] at h; cases h)
          refine ⟨_, _, cast (congrFun hR0 _) (pre34 _ (retN X31 hx (t := .boolean) Bd.returns (by simp) (hb hby at_110) hr)), hrun, hended, _, _, rfl, ?_, ⟨_, rfl⟩, hW, hsame.mono (by decide) (by decide)⟩
          show own_Q0 Z _ _ _ _ _ _ _ _ h0 n0 _ T31.heap _
          rw [eh31]
          exact ⟨rfl, N31⟩
        · have pre35 : ∀ t, own_S p e below s₁ m 65 #[sI p1, sI v1, sU, sU] [(.int 4), (.int v1)] t → R0 t := fun t k => pre27 t (by
            refine XS.icmpYes X0.here hx rfl (pc0 := 51) (pc' := 63) rfl (hb hby at_51) rfl (feq hc51).2 (by decide) (by decide) ?_
            show own_S p e below s₁ m 63 #[sI p1, sI v1, sU, sU] [] _
            refine XS.iloadN X0.here hx rfl (hb hby at_63) rfl ?_
            show own_S p e below s₁ m 64 #[sI p1, sI v1, sU, sU] [(.int v1)] _
            refine XS.iconst X0.here hx rfl (hb hby at_64) ?_
            exact k)
          by_cases hc65 : v1 = (4 : Int32)
          · have pre36 : ∀ t, own_S p e below s₁ m 68 #[sI p1, sI v1, sU, sU] [] t → R0 t := fun t k => pre35 t (by
              refine XS.icmpNo X0.here hx rfl (hb hby at_65) rfl (teq hc65).2 ?_
              exact k)
            obtain ⟨T37, X37, e37, st37⟩ := getS2 X0 hx hZ hown (host := "") (Or.inl hw18) Via.refl e0 S_INTEGER (g := (mkF m 68 #[sI p1, sI v1, sU, sU] [])) rfl (hb hby at_68)
            have pre38 : ∀ t, own_S p e below T37 m 98 #[sI p1, sI v1, sR aINTEGER, sI 1] [(.ref aINTEGER)] t → R0 t := fun t k => pre36 t (by
              refine st37 _ ?_
              show own_S p e below T37 m 71 #[sI p1, sI v1, sU, sU] [(.ref aINTEGER)] _
              refine XS.astoreN X37.here hx rfl (hb hby at_71) rfl rfl (l' := #[sI p1, sI v1, sR aINTEGER, sU]) rfl ?_
              show own_S p e below T37 m 72 #[sI p1, sI v1, sR aINTEGER, sU] [] _
              refine XS.iconst X37.here hx rfl (hb hby at_72) ?_
              show own_S p e below T37 m 73 #[sI p1, sI v1, sR aINTEGER, sU] [(.int 1)] _
              refine XS.istoreN X37.here hx rfl (hb hby at_73) rfl (l' := #[sI p1, sI v1, sR aINTEGER, sI 1]) rfl ?_
              show own_S p e below T37 m 74 #[sI p1, sI v1, sR aINTEGER, sI 1] [] _
              refine XS.goto X37.here hx rfl (pc0 := 74) (pc' := 97) rfl (hb hby at_74) (by decide) (by decide) ?_
              show own_S p e below T37 m 97 #[sI p1, sI v1, sR aINTEGER, sI 1] [] _
              refine XS.aloadN X37.here hx rfl (hb hby at_97) rfl rfl ?_
              exact k)
            obtain ⟨cq39, kq39, q39a, q39b, q39c⟩ := isOf hZ e37 E_aINTEGER
            obtain ⟨_, _, ⟨T39, L39, k39, n39⟩, -, X39, ⟨Lc39, hQ39, l39, y39, z39⟩, st39⟩ := X37.virtualBack hx (y := own_y0) (z := own_y0) hown (mvT hZ hw4) (mvT hZ hw5) (notFace_of_selects (args := #[]) (mvT hZ hw7)) (mvT hZ hw7) (mvT hZ hw6) (by decide) (backOf (W := 0) (own_rm1 l Z a0 hw [] aINTEGER aNONE aBLOB h0 n0 Z0 S_NONE S_BLOB) hZ hw8 hw2 (by decide) (by decide)) q39a q39c (g := (mkF m 98 #[sI p1, sI v1, sR aINTEGER, sI 1] [(.ref aINTEGER)])) rfl (by rw [hml]; rfl) (Steps.refl _) (argsL := []) (rest := []) (lenOf own_pd_0 rfl) rfl (by show 2 * 0 + _ ≤ _; exact Nat.le_of_eq rfl) (hb hby at_98) (fun _ _ => ⟨rfl, e37, (by decide : 0 + 0 ≤ _), (by decide : 0 + 0 ≤ _)⟩)
            dsimp only [Pt.U, Pt.locs, Pt.cells, Pt.slots] at X39 l39 y39 z39 st39 hQ39
            subst l39 y39 z39
            obtain ⟨rfl, N39q, eh39⟩ := hQ39
            have N39 := Fr.app N0 N39q
            have pre40 : ∀ t, own_S p e below T39 m 102 #[sI p1, sI v1, sR aINTEGER, sI 1] [(.int 1), (.int (if aINTEGER = aNONE ∨ aINTEGER = aBLOB then (0 : Int32) else 1))] t → R0 t := fun t k => pre38 t (by
              refine st39.trans ?_
              show own_S p e below T39 m 101 #[sI p1, sI v1, sR aINTEGER, sI 1] [(.int (if aINTEGER = aNONE ∨ aINTEGER = aBLOB then (0 : Int32) else 1))] _
              refine XS.iloadN X39.here hx rfl (hb hby at_101) rfl ?_
              exact k)
            have hc41 : (if aINTEGER = aNONE ∨ aINTEGER = aBLOB then (0 : Int32) else 1) = (1 : Int32) := if_neg (fun q => q.elim ne_aINTEGER_aNONE ne_aINTEGER_aBLOB)
            have pre42 : ∀ t, own_S p e below T39 m 110 #[sI p1, sI v1, sR aINTEGER, sI 1] [(.int 1)] t → R0 t := fun t k => pre40 t (by
              refine XS.icmpNo X39.here hx rfl (hb hby at_102) rfl (teq hc41).2 ?_
              show own_S p e below T39 m 105 #[sI p1, sI v1, sR aINTEGER, sI 1] [] _
              refine XS.iconst X39.here hx rfl (hb hby at_105) ?_
              show own_S p e below T39 m 106 #[sI p1, sI v1, sR aINTEGER, sI 1] [(.int 1)] _
              refine XS.goto X39.here hx rfl (pc0 := 106) (pc' := 110) rfl (hb hby at_106) (by decide) (by decide) ?_
              exact k)
            obtain ⟨fs, hr, hrun, hended, hW, hsame⟩ := X39.leave (v := some (.int 1)) (fun h => by rw [Bd.returns] at h; cases h)
            refine ⟨_, _, cast (congrFun hR0 _) (pre42 _ (retN X39 hx (t := .boolean) Bd.returns (by simp) (hb hby at_110) hr)), hrun, hended, _, _, rfl, ?_, ⟨_, rfl⟩, hW, hsame.mono (by decide) (by decide)⟩
            show own_Q0 Z _ _ _ _ _ _ _ _ h0 n0 _ T39.heap _
            rw [eh39]
            exact ⟨rfl, N39⟩
          · have pre43 : ∀ t, own_S p e below s₁ m 79 #[sI p1, sI v1, sU, sU] [(.int 5), (.int v1)] t → R0 t := fun t k => pre35 t (by
              refine XS.icmpYes X0.here hx rfl (pc0 := 65) (pc' := 77) rfl (hb hby at_65) rfl (feq hc65).2 (by decide) (by decide) ?_
              show own_S p e below s₁ m 77 #[sI p1, sI v1, sU, sU] [] _
              refine XS.iloadN X0.here hx rfl (hb hby at_77) rfl ?_
              show own_S p e below s₁ m 78 #[sI p1, sI v1, sU, sU] [(.int v1)] _
              refine XS.iconst X0.here hx rfl (hb hby at_78) ?_
              exact k)
            by_cases hc79 : v1 = (5 : Int32)
            · have pre44 : ∀ t, own_S p e below s₁ m 82 #[sI p1, sI v1, sU, sU] [] t → R0 t := fun t k => pre43 t (by
                refine XS.icmpNo X0.here hx rfl (hb hby at_79) rfl (teq hc79).2 ?_
                exact k)
              obtain ⟨T45, X45, e45, st45⟩ := getS2 X0 hx hZ hown (host := "") (Or.inl hw14) Via.refl e0 S_REAL (g := (mkF m 82 #[sI p1, sI v1, sU, sU] [])) rfl (hb hby at_82)
              have pre46 : ∀ t, own_S p e below T45 m 98 #[sI p1, sI v1, sR aREAL, sI 1] [(.ref aREAL)] t → R0 t := fun t k => pre44 t (by
                refine st45 _ ?_
                show own_S p e below T45 m 85 #[sI p1, sI v1, sU, sU] [(.ref aREAL)] _
                refine XS.astoreN X45.here hx rfl (hb hby at_85) rfl rfl (l' := #[sI p1, sI v1, sR aREAL, sU]) rfl ?_
                show own_S p e below T45 m 86 #[sI p1, sI v1, sR aREAL, sU] [] _
                refine XS.iconst X45.here hx rfl (hb hby at_86) ?_
                show own_S p e below T45 m 87 #[sI p1, sI v1, sR aREAL, sU] [(.int 1)] _
                refine XS.istoreN X45.here hx rfl (hb hby at_87) rfl (l' := #[sI p1, sI v1, sR aREAL, sI 1]) rfl ?_
                show own_S p e below T45 m 88 #[sI p1, sI v1, sR aREAL, sI 1] [] _
                refine XS.goto X45.here hx rfl (pc0 := 88) (pc' := 97) rfl (hb hby at_88) (by decide) (by decide) ?_
                show own_S p e below T45 m 97 #[sI p1, sI v1, sR aREAL, sI 1] [] _
                refine XS.aloadN X45.here hx rfl (hb hby at_97) rfl rfl ?_
                exact k)
              obtain ⟨cq47, kq47, q47a, q47b, q47c⟩ := isOf hZ e45 E_aREAL
              obtain ⟨_, _, ⟨T47, L47, k47, n47⟩, -, X47, ⟨Lc47, hQ47, l47, y47, z47⟩, st47⟩ := X45.virtualBack hx (y := own_y0) (z := own_y0) hown (mvT hZ hw4) (mvT hZ hw5) (notFace_of_selects (args := #[]) (mvT hZ hw7)) (mvT hZ hw7) (mvT hZ hw6) (by decide) (backOf (W := 0) (own_rm1 l Z a0 hw [] aREAL aNONE aBLOB h0 n0 Z0 S_NONE S_BLOB) hZ hw8 hw2 (by decide) (by decide)) q47a q47c (g := (mkF m 98 #[sI p1, sI v1, sR aREAL, sI 1] [(.ref aREAL)])) rfl (by rw [hml]; rfl) (Steps.refl _) (argsL := []) (rest := []) (lenOf own_pd_0 rfl) rfl (by show 2 * 0 + _ ≤ _; exact Nat.le_of_eq rfl) (hb hby at_98) (fun _ _ => ⟨rfl, e45, (by decide : 0 + 0 ≤ _), (by decide : 0 + 0 ≤ _)⟩)
              dsimp only [Pt.U, Pt.locs, Pt.cells, Pt.slots] at X47 l47 y47 z47 st47 hQ47
              subst l47 y47 z47
              obtain ⟨rfl, N47q, eh47⟩ := hQ47
              have N47 := Fr.app N0 N47q
              have pre48 : ∀ t, own_S p e below T47 m 102 #[sI p1, sI v1, sR aREAL, sI 1] [(.int 1), (.int (if aREAL = aNONE ∨ aREAL = aBLOB then (0 : Int32) else 1))] t → R0 t := fun t k => pre46 t (by
                refine st47.trans ?_
                show own_S p e below T47 m 101 #[sI p1, sI v1, sR aREAL, sI 1] [(.int (if aREAL = aNONE ∨ aREAL = aBLOB then (0 : Int32) else 1))] _
                refine XS.iloadN X47.here hx rfl (hb hby at_101) rfl ?_
                exact k)
              have hc49 : (if aREAL = aNONE ∨ aREAL = aBLOB then (0 : Int32) else 1) = (1 : Int32) := if_neg (fun q => q.elim ne_aREAL_aNONE ne_aREAL_aBLOB)
              have pre50 : ∀ t, own_S p e below T47 m 110 #[sI p1, sI v1, sR aREAL, sI 1] [(.int 1)] t → R0 t := fun t k => pre48 t (by
                refine XS.icmpNo X47.here hx rfl (hb hby at_102) rfl (teq hc49).2 ?_
                show own_S p e below T47 m 105 #[sI p1, sI v1, sR aREAL, sI 1] [] _
                refine XS.iconst X47.here hx rfl (hb hby at_105) ?_
                show own_S p e below T47 m 106 #[sI p1, sI v1, sR aREAL, sI 1] [(.int 1)] _
                refine XS.goto X47.here hx rfl (pc0 := 106) (pc' := 110) rfl (hb hby at_106) (by decide) (by decide) ?_
                exact k)
              obtain ⟨fs, hr, hrun, hended, hW, hsame⟩ := X47.leave (v := some (.int 1)) (fun h => by rw [Bd.returns] at h; cases h)
              refine ⟨_, _, cast (congrFun hR0 _) (pre50 _ (retN X47 hx (t := .boolean) Bd.returns (by simp) (hb hby at_110) hr)), hrun, hended, _, _, rfl, ?_, ⟨_, rfl⟩, hW, hsame.mono (by decide) (by decide)⟩
              show own_Q0 Z _ _ _ _ _ _ _ _ h0 n0 _ T47.heap _
              rw [eh47]
              exact ⟨rfl, N47⟩
            · have pre51 : ∀ t, own_S p e below s₁ m 91 #[sI p1, sI v1, sU, sU] [] t → R0 t := fun t k => pre43 t (by
                refine XS.icmpYes X0.here hx rfl (pc0 := 79) (pc' := 91) rfl (hb hby at_79) rfl (feq hc79).2 (by decide) (by decide) ?_
                exact k)
              obtain ⟨T52, X52, e52, st52⟩ := getS2 X0 hx hZ hown (host := "") (Or.inl hw16) Via.refl e0 S_UNKNOWN (g := (mkF m 91 #[sI p1, sI v1, sU, sU] [])) rfl (hb hby at_91)
              have pre53 : ∀ t, own_S p e below T52 m 98 #[sI p1, sI v1, sR aUNKNOWN, sI 1] [(.ref aUNKNOWN)] t → R0 t := fun t k => pre51 t (by
                refine st52 _ ?_
                show own_S p e below T52 m 94 #[sI p1, sI v1, sU, sU] [(.ref aUNKNOWN)] _
                refine XS.astoreN X52.here hx rfl (hb hby at_94) rfl rfl (l' := #[sI p1, sI v1, sR aUNKNOWN, sU]) rfl ?_
                show own_S p e below T52 m 95 #[sI p1, sI v1, sR aUNKNOWN, sU] [] _
                refine XS.iconst X52.here hx rfl (hb hby at_95) ?_
                show own_S p e below T52 m 96 #[sI p1, sI v1, sR aUNKNOWN, sU] [(.int 1)] _
                refine XS.istoreN X52.here hx rfl (hb hby at_96) rfl (l' := #[sI p1, sI v1, sR aUNKNOWN, sI 1]) rfl ?_
                show own_S p e below T52 m 97 #[sI p1, sI v1, sR aUNKNOWN, sI 1] [] _
                refine XS.aloadN X52.here hx rfl (hb hby at_97) rfl rfl ?_
                exact k)
              obtain ⟨cq54, kq54, q54a, q54b, q54c⟩ := isOf hZ e52 E_aUNKNOWN
              obtain ⟨_, _, ⟨T54, L54, k54, n54⟩, -, X54, ⟨Lc54, hQ54, l54, y54, z54⟩, st54⟩ := X52.virtualBack hx (y := own_y0) (z := own_y0) hown (mvT hZ hw4) (mvT hZ hw5) (notFace_of_selects (args := #[]) (mvT hZ hw7)) (mvT hZ hw7) (mvT hZ hw6) (by decide) (backOf (W := 0) (own_rm1 l Z a0 hw [] aUNKNOWN aNONE aBLOB h0 n0 Z0 S_NONE S_BLOB) hZ hw8 hw2 (by decide) (by decide)) q54a q54c (g := (mkF m 98 #[sI p1, sI v1, sR aUNKNOWN, sI 1] [(.ref aUNKNOWN)])) rfl (by rw [hml]; rfl) (Steps.refl _) (argsL := []) (rest := []) (lenOf own_pd_0 rfl) rfl (by show 2 * 0 + _ ≤ _; exact Nat.le_of_eq rfl) (hb hby at_98) (fun _ _ => ⟨rfl, e52, (by decide : 0 + 0 ≤ _), (by decide : 0 + 0 ≤ _)⟩)
              dsimp only [Pt.U, Pt.locs, Pt.cells, Pt.slots] at X54 l54 y54 z54 st54 hQ54
              subst l54 y54 z54
              obtain ⟨rfl, N54q, eh54⟩ := hQ54
              have N54 := Fr.app N0 N54q
              have pre55 : ∀ t, own_S p e below T54 m 102 #[sI p1, sI v1, sR aUNKNOWN, sI 1] [(.int 1), (.int (if aUNKNOWN = aNONE ∨ aUNKNOWN = aBLOB then (0 : Int32) else 1))] t → R0 t := fun t k => pre53 t (by
                refine st54.trans ?_
                show own_S p e below T54 m 101 #[sI p1, sI v1, sR aUNKNOWN, sI 1] [(.int (if aUNKNOWN = aNONE ∨ aUNKNOWN = aBLOB then (0 : Int32) else 1))] _
                refine XS.iloadN X54.here hx rfl (hb hby at_101) rfl ?_
                exact k)
              have hc56 : (if aUNKNOWN = aNONE ∨ aUNKNOWN = aBLOB then (0 : Int32) else 1) = (1 : Int32) := if_neg (fun q => q.elim ne_aUNKNOWN_aNONE ne_aUNKNOWN_aBLOB)
              have pre57 : ∀ t, own_S p e below T54 m 110 #[sI p1, sI v1, sR aUNKNOWN, sI 1] [(.int 1)] t → R0 t := fun t k => pre55 t (by
                refine XS.icmpNo X54.here hx rfl (hb hby at_102) rfl (teq hc56).2 ?_
                show own_S p e below T54 m 105 #[sI p1, sI v1, sR aUNKNOWN, sI 1] [] _
                refine XS.iconst X54.here hx rfl (hb hby at_105) ?_
                show own_S p e below T54 m 106 #[sI p1, sI v1, sR aUNKNOWN, sI 1] [(.int 1)] _
                refine XS.goto X54.here hx rfl (pc0 := 106) (pc' := 110) rfl (hb hby at_106) (by decide) (by decide) ?_
                exact k)
              obtain ⟨fs, hr, hrun, hended, hW, hsame⟩ := X54.leave (v := some (.int 1)) (fun h => by rw [Bd.returns] at h; cases h)
              refine ⟨_, _, cast (congrFun hR0 _) (pre57 _ (retN X54 hx (t := .boolean) Bd.returns (by simp) (hb hby at_110) hr)), hrun, hended, _, _, rfl, ?_, ⟨_, rfl⟩, hW, hsame.mono (by decide) (by decide)⟩
              show own_Q0 Z _ _ _ _ _ _ _ _ h0 n0 _ T54.heap _
              rw [eh54]
              exact ⟨rfl, N54⟩
theorem own_ne_ord {Z : State} {h : Heap} {a b : Addr} {C n d : String} {x y : Int32} (F : Fld Z h a C n d (.int x)) (G : Fld Z h b C n d (.int y)) (q : x ≠ y) : a ≠ b := Fld.ne F G fun e => q (Value.int.inj e)
theorem own_eq_int {t : Term} {args : Array Value} {s : State} {n : Int32} (h : (Jvm.Cond.eq t (.int n)).value args s none s [] = some true) : t.eval args s none [] s = some (.int n) := Cond.eq_int (Cond.before_iff.mpr h) rfl
set_option maxRecDepth 65536 in
set_option maxHeartbeats 40000000 in
theorem own_comes {Post : Tables → Env → Array Value → State → Outcome → State → Prop} (hpost : ∀ tb e args s v u, (limb_1_1.after args s (.returned v) u = true ∧ limb_1_2.after args s (.returned v) u = true ∧ True) → FrameEnd s (.returned v) u (Jvm.fieldLocs frame_1_writes args s ++ Jvm.arrayLocs frame_1_arrays args s ++ Jvm.staticLocs frame_1_statics s) 0 0 → Post tb e args s (.returned v) u) :
    ArmFor flags0 classFile x code maxLocals ret World_1 tables_1 room_1 Calls_1 rest_1 Pre_1 Post := by
  intro l hfl _ _ p e ha hc hk s m args below hf hA hF happ hP
  obtain ⟨hcalls, hrest, hpre⟩ := hP
  obtain ⟨-, -, -, hnamed, -, -, -, hat⟩ := (Spec.applies_iff hf).mp happ
  obtain ⟨hg, hn⟩ := and_e (Cond.before_iff.mp (show (Jvm.Cond.and given_1 narrow_1).before args s = true from hpre))
  obtain ⟨hcount, hg0⟩ := and_e hg
  have ha0 := hg0
  obtain ⟨w0, rfl⟩ : ∃ w0 : Value, args = #[w0] := by
    have hs : args.size = 1 := by simpa [Cond.value, given_1] using hcount
    obtain ⟨L⟩ := args
    match L, hs with
    | [w0], _ => exact ⟨w0, rfl⟩
  have hw := fun d (hd : d ∈ tables_1) => atoms_spec (ws := Jvm.Cond.code x code maxLocals ret :: tables_1) hat d (List.mem_cons_of_mem _ hd)
  have hfit : Fit s := fun {y c} hc i hi => by
    obtain ⟨ha, rfl⟩ := Array.getElem?_eq_some_iff.mp hc
    have q := List.all_eq_true.mp ((Array.all_eq_true_iff_forall_mem.mp hF) _ (Array.getElem_mem ha)) i (List.mem_range.mpr hi)
    simpa [Array.getElem?_eq_getElem hi] using q
  obtain ⟨i0, ei0⟩ := is_v ha0
  obtain rfl : w0 = (.int i0) := Option.some.inj ei0
  obtain ⟨n0, r0⟩ := and_e hn
  obtain ⟨n1, r1⟩ := and_e r0
  obtain ⟨n2, r2⟩ := and_e r1
  obtain ⟨n3, r3⟩ := and_e r2
  obtain ⟨n4, r4⟩ := and_e r3
  obtain ⟨n5, r5⟩ := and_e r4
  obtain ⟨n6, r6⟩ := and_e r5
  obtain ⟨n7, r7⟩ := and_e r6
  obtain ⟨n8, r8⟩ := and_e r7
  obtain ⟨n9, r9⟩ := and_e r8
  obtain ⟨n10, r10⟩ := and_e r9
  obtain ⟨n11, r11⟩ := and_e r10
  obtain ⟨n12, r12⟩ := and_e r11
  have n13 := r12
  obtain ⟨xNONE, eNONE⟩ := exa_v n0
  have ENONE := Exa.start eNONE n0
  have TNONE := Sta.start eNONE (Or.inr ⟨(hw _ (List.mem_of_getElem? (i := 2) rfl)), (hw _ (List.mem_of_getElem? (i := 3) rfl))⟩)
  obtain ⟨xNUMERIC, eNUMERIC⟩ := exa_v n1
  have ENUMERIC := Exa.start eNUMERIC n1
  have TNUMERIC := Sta.start eNUMERIC (Or.inr ⟨(hw _ (List.mem_of_getElem? (i := 2) rfl)), (hw _ (List.mem_of_getElem? (i := 11) rfl))⟩)
  obtain ⟨xBLOB, eBLOB⟩ := exa_v n4
  have EBLOB := Exa.start eBLOB n4
  have TBLOB := Sta.start eBLOB (Or.inr ⟨(hw _ (List.mem_of_getElem? (i := 2) rfl)), (hw _ (List.mem_of_getElem? (i := 13) rfl))⟩)
  obtain ⟨xREAL, eREAL⟩ := exa_v n6
  have EREAL := Exa.start eREAL n6
  have TREAL := Sta.start eREAL (Or.inr ⟨(hw _ (List.mem_of_getElem? (i := 2) rfl)), (hw _ (List.mem_of_getElem? (i := 15) rfl))⟩)
  obtain ⟨xUNKNOWN, eUNKNOWN⟩ := exa_v n8
  have EUNKNOWN := Exa.start eUNKNOWN n8
  have TUNKNOWN := Sta.start eUNKNOWN (Or.inr ⟨(hw _ (List.mem_of_getElem? (i := 2) rfl)), (hw _ (List.mem_of_getElem? (i := 17) rfl))⟩)
  obtain ⟨xINTEGER, eINTEGER⟩ := exa_v n10
  have EINTEGER := Exa.start eINTEGER n10
  have TINTEGER := Sta.start eINTEGER (Or.inr ⟨(hw _ (List.mem_of_getElem? (i := 2) rfl)), (hw _ (List.mem_of_getElem? (i := 19) rfl))⟩)
  obtain ⟨xTEXT, eTEXT⟩ := exa_v n12
  have ETEXT := Exa.start eTEXT n12
  have TTEXT := Sta.start eTEXT (Or.inr ⟨(hw _ (List.mem_of_getElem? (i := 2) rfl)), (hw _ (List.mem_of_getElem? (i := 21) rfl))⟩)
  have FNUMERIC := Fld.start ((fld_at eNUMERIC).symm.trans (own_eq_int n2))
  have FNONE := Fld.start ((fld_at eNONE).symm.trans (own_eq_int n3))
  have FBLOB := Fld.start ((fld_at eBLOB).symm.trans (own_eq_int n5))
  have FREAL := Fld.start ((fld_at eREAL).symm.trans (own_eq_int n7))
  have FUNKNOWN := Fld.start ((fld_at eUNKNOWN).symm.trans (own_eq_int n9))
  have FINTEGER := Fld.start ((fld_at eINTEGER).symm.trans (own_eq_int n11))
  have FTEXT := Fld.start ((fld_at eTEXT).symm.trans (own_eq_int n13))
  obtain ⟨n, o, h1, h2, h3, _, L, rfl, ⟨rfl, N⟩, hq⟩ := own_rm0 l s _ hw tables_1 i0 xNONE xNUMERIC xBLOB xREAL xUNKNOWN xINTEGER xTEXT s.heap s.heap.size (Nat.le_refl _) ENONE ENUMERIC EBLOB EREAL EUNKNOWN EINTEGER ETEXT TNONE TNUMERIC TBLOB TREAL TUNKNOWN TINTEGER TTEXT (own_ne_ord FNUMERIC FNONE (by decide)) (own_ne_ord FNUMERIC FBLOB (by decide)) (own_ne_ord FREAL FNONE (by decide)) (own_ne_ord FREAL FBLOB (by decide)) (own_ne_ord FUNKNOWN FNONE (by decide)) (own_ne_ord FUNKNOWN FBLOB (by decide)) (own_ne_ord FINTEGER FNONE (by decide)) (own_ne_ord FINTEGER FBLOB (by decide)) (own_ne_ord FTEXT FNONE (by decide)) (own_ne_ord FTEXT FBLOB (by decide)) p e ha hc hk s m _ below hf ((Spec.applies_iff_loose hf).mp happ).1 ⟨rfl, State.Warmed39.refl s, rfl⟩ trivial
  refine ⟨n, _, h1, h2, h3, hpost _ _ _ _ _ _ ⟨Cond.after_iff.mpr rfl, Cond.after_iff.mpr (eq_i res_at (Term.int_eval (1)) rfl), trivial⟩ ⟨hq.1, hq.2.1, (hq.2.2.sift fun y hy => Or.inr (N y hy)).mono (by decide) (by decide)⟩⟩
theorem main_1_1 : Claimed_1_1 := own_comes fun _ _ _ _ _ _ h hF => ⟨h.1, hF⟩
theorem main_1_2 : Claimed_1_2 := own_comes fun _ _ _ _ _ _ h hF => ⟨h.2.1, hF⟩
end Jvm.Pilot.@@N@@
namespace Jvm.Pilot.@@N@@
open Jvm Jvm.ClassFile Sem Op Lib Jvm.Free Jvm.Stand Jvm.Pilot.@@N@@.Jvm.D
/-! MADE BY PROGRAM (witnessworld.py) out of the Statement's table words and the real class files: 12 classes; the members and pool entries that the words name. The judged class is class 1, her method 1. -/
namespace start1
open Jvm.ClassFile
def u (s : String) : CpInfo := .utf8 (stringToUtf16 s)
/-- a pool by its gaps: so many unusable entries, then the entry; so many at the end -/
def gap : Nat → List CpInfo → List CpInfo
  | 0, r => r
  | n + 1, r => .unusable :: gap n r
def poolList (es : List (Nat × CpInfo)) (last : Nat) : List CpInfo := es.foldr (fun e r => gap e.1 (e.2 :: r)) (gap last [])
def pool (es : List (Nat × CpInfo)) (last : Nat) : Array CpInfo := ⟨poolList es last⟩
def fileOf (pool : Array CpInfo) (this : Nat) (attrs : Array Attribute := #[]) (ms : Array MethodInfo := #[]) (fl : Nat := 33) (sup : Nat := 0) (ifs : Array Nat := #[]) (fds : Array FieldInfo := #[]) : ClassFile where
  minorVersion := 0
  majorVersion := 65
  constantPool := pool
  accessFlags := fl
  thisClass := this
  superClass := sup
  interfaces := ifs
  fields := fds
  methods := ms
  attributes := attrs
def plain (name : String) (sup : Option ClassId) : Class where
  name := name
  kind := .ordinary
  loader := none
  accessFlags := 33
  super := sup
  interfaces := #[]
  cf := none
  fields := #[]
  methods := #[]
  instanceTypes := #[]
  staticTypes := #[]
  resolved := #[]
  callSites := []
  init := .initialized
  statics := none
  mirror := none

def pool0 : Array CpInfo := pool [(5, u "<init>"), (0, u "()V"), (1, .class_ 10), (1, u "java/lang/Object")] 113

def k0m0 : Method := { name := "<init>", desc := "()V", sig := { parameters := [], returnType := none }, accessFlags := 1, code := none }
/-- java/lang/Object -/
def k0 : Class := { plain "java/lang/Object" none with
  accessFlags := 33
  interfaces := #[]
  cf := some (fileOf pool0 8 #[] #[{ accessFlags := 1, nameIndex := 5, descriptorIndex := 6, attributes := #[] }] 33 0 #[] #[])
  fields := #[]
  methods := #[k0m0]
  instanceTypes := #[]
  staticTypes := #[]
  resolved := Array.replicate 124 none
  statics := none }

def pool1 : Array CpInfo := pool [(2, .class_ 4), (1, u "java/lang/Object"), (0, u "<init>"), (0, u "()V"), (0, .integer 2147483647), (0, .fieldref 9 10), (0, .class_ 11), (0, .nameAndType 12 13), (0, u "com/example/querylathe/querylathe/sql/Affinity"), (0, u "NONE"), (0, u "Lcom/example/querylathe/querylathe/sql/Affinity;"), (0, .fieldref 9 15), (0, .nameAndType 16 13), (0, u "BLOB"), (0, .fieldref 9 18), (0, .nameAndType 19 13), (0, u "TEXT"), (0, .fieldref 9 21), (0, .nameAndType 22 13), (0, u "NUMERIC"), (0, .fieldref 9 24), (0, .nameAndType 25 13), (0, u "INTEGER"), (0, .fieldref 9 27), (0, .nameAndType 28 13), (0, u "REAL"), (0, .fieldref 9 30), (0, .nameAndType 31 13), (0, u "UNKNOWN"), (0, .methodref 9 33), (0, .nameAndType 34 35), (0, u "converts"), (0, u "()Z"), (0, .class_ 37), (0, u "com/example/querylathe/querylathe/sql/AffinityConvertsPinLaw"), (2, u "law"), (0, u "(I)Z")] 3

def k1m0 : Method := { name := "<init>", desc := "()V", sig := { parameters := [], returnType := none }, accessFlags := 2, code := none }
def k1c1 : Code := { maxStack := 2, maxLocals := 4, code := code, exceptionTable := #[], attributes := #[] }
def k1m1 : Method := { name := "law", desc := "(I)Z", sig := { parameters := [.int], returnType := some .boolean }, accessFlags := 9, code := some k1c1 }
/-- com/example/querylathe/querylathe/sql/AffinityConvertsPinLaw -/
def k1 : Class := { plain "com/example/querylathe/querylathe/sql/AffinityConvertsPinLaw" (some 0) with
  accessFlags := 49
  interfaces := #[]
  cf := some (fileOf pool1 36 #[] #[{ accessFlags := 2, nameIndex := 5, descriptorIndex := 6, attributes := #[] }, { accessFlags := 9, nameIndex := 40, descriptorIndex := 41, attributes := #[] }] 49 2 #[] #[])
  fields := #[]
  methods := #[k1m0, k1m1]
  instanceTypes := #[]
  staticTypes := #[]
  resolved := Array.replicate 45 none
  statics := none }

def pool2 : Array CpInfo := pool [(1, .class_ 2), (0, u "java/lang/constant/Constable"), (0, .class_ 4), (0, u "java/lang/Object")] 6

/-- java/lang/constant/Constable -/
def k2 : Class := { plain "java/lang/constant/Constable" (some 0) with
  accessFlags := 1537
  interfaces := #[]
  cf := some (fileOf pool2 1 #[] #[] 1537 3 #[] #[])
  fields := #[]
  methods := #[]
  instanceTypes := #[]
  staticTypes := #[]
  resolved := Array.replicate 11 none
  statics := none }

def pool3 : Array CpInfo := pool [(1, .class_ 2), (0, u "java/lang/Comparable"), (0, .class_ 4), (0, u "java/lang/Object")] 7

/-- java/lang/Comparable -/
def k3 : Class := { plain "java/lang/Comparable" (some 0) with
  accessFlags := 1537
  interfaces := #[]
  cf := some (fileOf pool3 1 #[] #[] 1537 3 #[] #[])
  fields := #[]
  methods := #[]
  instanceTypes := #[]
  staticTypes := #[]
  resolved := Array.replicate 12 none
  statics := none }

def pool4 : Array CpInfo := pool [(1, .class_ 2), (0, u "java/io/Serializable"), (0, .class_ 4), (0, u "java/lang/Object")] 2

/-- java/io/Serializable -/
def k4 : Class := { plain "java/io/Serializable" (some 0) with
  accessFlags := 1537
  interfaces := #[]
  cf := some (fileOf pool4 1 #[] #[] 1537 3 #[] #[])
  fields := #[]
  methods := #[]
  instanceTypes := #[]
  staticTypes := #[]
  resolved := Array.replicate 7 none
  statics := none }

def pool5 : Array CpInfo := pool [(2, .class_ 4), (1, u "java/lang/Enum"), (0, u "name"), (0, u "Ljava/lang/String;"), (2, u "ordinal"), (0, u "I"), (1, .class_ 14), (1, u "java/lang/Object"), (4, u "hash"), (86, .class_ 108), (1, u "java/lang/Enum$EnumDesc"), (2, .class_ 112), (0, u "java/lang/constant/Constable"), (0, .class_ 114), (0, u "java/lang/Comparable"), (0, .class_ 116), (0, u "java/io/Serializable")] 87

/-- java/lang/Enum -/
def k5 : Class := { plain "java/lang/Enum" (some 0) with
  accessFlags := 1057
  interfaces := #[2, 3, 4]
  cf := some (fileOf pool5 2 #[.nestMembers #[106]] #[] 1057 12 #[111, 113, 115] #[{ accessFlags := 18, nameIndex := 5, descriptorIndex := 6, attributes := #[] }, { accessFlags := 18, nameIndex := 9, descriptorIndex := 10, attributes := #[] }, { accessFlags := 2, nameIndex := 19, descriptorIndex := 10, attributes := #[] }])
  fields := #[{ name := "name", type := (.object "java/lang/String"), accessFlags := 18, slot := 0, constantValue := 0 }, { name := "ordinal", type := .int, accessFlags := 18, slot := 1, constantValue := 0 }, { name := "hash", type := .int, accessFlags := 2, slot := 2, constantValue := 0 }]
  methods := #[]
  instanceTypes := #[(.object "java/lang/String"), .int, .int]
  staticTypes := #[]
  resolved := Array.replicate 204 none
  statics := none }

def pool6 : Array CpInfo := pool [(1, .class_ 2), (0, u "com/example/querylathe/querylathe/sql/Affinity"), (0, .fieldref 1 4), (0, .nameAndType 5 6), (0, u "NONE"), (0, u "Lcom/example/querylathe/querylathe/sql/Affinity;"), (0, .fieldref 1 8), (0, .nameAndType 9 6), (0, u "BLOB"), (2, u "TEXT"), (2, u "NUMERIC"), (2, u "INTEGER"), (2, u "REAL"), (2, u "UNKNOWN"), (2, u "$VALUES"), (0, u "[Lcom/example/querylathe/querylathe/sql/Affinity;"), (6, .class_ 37), (1, u "java/lang/Enum"), (28, u "()Z"), (74, u "converts")] 8

def k6c0 : Code := { maxStack := 2, maxLocals := 1, code := prog_31_method_5_code, exceptionTable := #[], attributes := #[] }
def k6m0 : Method := { name := "converts", desc := "()Z", sig := { parameters := [], returnType := some .boolean }, accessFlags := 0, code := some k6c0 }
/-- com/example/querylathe/querylathe/sql/Affinity -/
def k6 : Class := { plain "com/example/querylathe/querylathe/sql/Affinity" (some 5) with
  accessFlags := 16432
  interfaces := #[]
  cf := some (fileOf pool6 1 #[] #[{ accessFlags := 0, nameIndex := 141, descriptorIndex := 66, attributes := #[] }] 16432 35 #[] #[{ accessFlags := 16409, nameIndex := 5, descriptorIndex := 6, attributes := #[] }, { accessFlags := 16409, nameIndex := 9, descriptorIndex := 6, attributes := #[] }, { accessFlags := 16409, nameIndex := 12, descriptorIndex := 6, attributes := #[] }, { accessFlags := 16409, nameIndex := 15, descriptorIndex := 6, attributes := #[] }, { accessFlags := 16409, nameIndex := 18, descriptorIndex := 6, attributes := #[] }, { accessFlags := 16409, nameIndex := 21, descriptorIndex := 6, attributes := #[] }, { accessFlags := 16409, nameIndex := 24, descriptorIndex := 6, attributes := #[] }, { accessFlags := 4122, nameIndex := 27, descriptorIndex := 28, attributes := #[] }])
  fields := #[{ name := "NONE", type := (.object "com/example/querylathe/querylathe/sql/Affinity"), accessFlags := 16409, slot := 0, constantValue := 0 }, { name := "BLOB", type := (.object "com/example/querylathe/querylathe/sql/Affinity"), accessFlags := 16409, slot := 1, constantValue := 0 }, { name := "TEXT", type := (.object "com/example/querylathe/querylathe/sql/Affinity"), accessFlags := 16409, slot := 2, constantValue := 0 }, { name := "NUMERIC", type := (.object "com/example/querylathe/querylathe/sql/Affinity"), accessFlags := 16409, slot := 3, constantValue := 0 }, { name := "INTEGER", type := (.object "com/example/querylathe/querylathe/sql/Affinity"), accessFlags := 16409, slot := 4, constantValue := 0 }, { name := "REAL", type := (.object "com/example/querylathe/querylathe/sql/Affinity"), accessFlags := 16409, slot := 5, constantValue := 0 }, { name := "UNKNOWN", type := (.object "com/example/querylathe/querylathe/sql/Affinity"), accessFlags := 16409, slot := 6, constantValue := 0 }, { name := "$VALUES", type := (.array (.object "com/example/querylathe/querylathe/sql/Affinity")), accessFlags := 4122, slot := 7, constantValue := 0 }]
  methods := #[k6m0]
  instanceTypes := #[(.object "java/lang/String"), .int, .int]
  staticTypes := #[(.object "com/example/querylathe/querylathe/sql/Affinity"), (.object "com/example/querylathe/querylathe/sql/Affinity"), (.object "com/example/querylathe/querylathe/sql/Affinity"), (.object "com/example/querylathe/querylathe/sql/Affinity"), (.object "com/example/querylathe/querylathe/sql/Affinity"), (.object "com/example/querylathe/querylathe/sql/Affinity"), (.object "com/example/querylathe/querylathe/sql/Affinity"), (.array (.object "com/example/querylathe/querylathe/sql/Affinity"))]
  resolved := Array.replicate 150 none
  statics := some 0 }

def pool7 : Array CpInfo := pool [(1, u "java/lang/Cloneable"), (0, .class_ 1), (0, u "java/lang/Object"), (0, .class_ 3)] 3

/-- java/lang/Cloneable -/
def k7 : Class := { plain "java/lang/Cloneable" (some 0) with
  accessFlags := 1537
  interfaces := #[]
  cf := some (fileOf pool7 2 #[] #[] 1537 4 #[] #[])
  fields := #[]
  methods := #[]
  instanceTypes := #[]
  staticTypes := #[]
  resolved := Array.replicate 8 none
  statics := none }

/-- the primitive byte -/
def k8 : Class := { plain "byte" none with kind := .primitive 'B', accessFlags := 0x411 }
/-- [B -/
def k9 : Class := { plain "[B" (some 0) with kind := .array 8 .byte, interfaces := #[7, 4], accessFlags := 1041 }

/-- the primitive int -/
def k10 : Class := { plain "int" none with kind := .primitive 'I', accessFlags := 0x411 }
/-- [I -/
def k11 : Class := { plain "[I" (some 0) with kind := .array 10 .int, interfaces := #[7, 4], accessFlags := 1041 }

def heap : Heap := #[{ cls := 6, slots := #[.ref 1, .ref 2, .ref 3, .ref 4, .ref 5, .ref 6, .ref 7, .null], vm := .statics 6 },
  { cls := 6, slots := #[.null, .int 0, .int 0], vm := .none },
  { cls := 6, slots := #[.null, .int 1, .int 0], vm := .none },
  { cls := 6, slots := #[.null, .int 2, .int 0], vm := .none },
  { cls := 6, slots := #[.null, .int 3, .int 0], vm := .none },
  { cls := 6, slots := #[.null, .int 4, .int 0], vm := .none },
  { cls := 6, slots := #[.null, .int 5, .int 0], vm := .none },
  { cls := 6, slots := #[.null, .int 6, .int 0], vm := .none }]
def classes : Array Class := #[k0, k1, k2, k3, k4, k5, k6, k7, k8, k9, k10, k11]
def interned : List (Array UInt16 × Addr) := []
def slotsUsed : Nat := 29
def theMethod : MethodId := ⟨1, 1⟩
def args0 : Array Value := #[.int 5]
def aboutOver (below : List Frame) : State where
  vm := { classes := classes, interned := interned.toArray }
  heap := heap
  slotsUsed := slotsUsed
  threads := #[{ frames := .invoking theMethod args0 :: below }]
def below0 : List Frame := [.native { method := ⟨0, 0⟩, args := #[] }]
def about1 : State := aboutOver below0
def p0 : Program := .bare "" "" ""
def e0 : Env := launch0.env 0 0 0
theorem w_frames : about1.frames = Frame.invoking theMethod args0 :: below0 := rfl
set_option maxRecDepth 65536 in
theorem w_args : argsFit about1.vm theMethod args0 = true := by decide +kernel
set_option maxRecDepth 65536 in
theorem w_heap : heapFits about1 = true := by decide +kernel
set_option maxRecDepth 65536 in
theorem w_runnable : about1.curStatus? = some .runnable := by decide +kernel
set_option maxRecDepth 65536 in
theorem w_alone : about1.alone = true := by decide +kernel
set_option maxRecDepth 65536 in
theorem w_named : about1.methodNamed? x = some theMethod := by decide +kernel
set_option maxRecDepth 65536 in
theorem w_hears : about1.hears theMethod below0 = true := by decide +kernel
set_option maxRecDepth 65536 in
theorem w_ripe : about1.ripe theMethod args0 below0 = true := by decide +kernel
theorem w_running : about1.status = .running := rfl
set_option maxRecDepth 65536 in
theorem w_room : about1.hasRoom e0.platform room_1 = true :=
  launch0.hasRoom_least _ room_1 (by decide +kernel) (by decide +kernel) (by decide +kernel) (by decide +kernel) (by decide +kernel) (by decide +kernel)
theorem allAtoms_all (ts : List Jvm.Cond) (a : Array Jvm.Value) (st : Jvm.State) : (allAtoms ts).before a st = ts.all (fun c => c.before a st) := by
  induction ts with
  | nil => rfl
  | cons c t ih =>
    show (Jvm.Cond.and c (allAtoms t)).before a st = _
    rw [Jvm.Cond.before_and, ih, List.all_cons]
def words1 : List Jvm.Cond := Jvm.Cond.code x code maxLocals ret :: tables_1
/-- a 'code' word, met by the world's own term for the bytes: nothing is compared byte by byte -/
theorem code_word {y : MethodName} {bytes : ByteArray} {mx : Nat} {rt : Option FieldType} {a : Array Value} {s : State} {m : MethodId} {meth : Method} {c : Code} (h1 : s.methodNamed? y = some m) (h2 : s.vm.method? m = some meth) (h3 : meth.code = some c) (h4 : c.code = bytes)
    (h5 : (c.maxLocals == mx && c.exceptionTable.isEmpty && decide (c.maxStack ≤ mostOperands) && decide (meth.sig.returnType = rt) && !meth.locks && decide (parseMethodDescriptor y.desc = some meth.sig)) = true) : (Jvm.Cond.code y bytes mx rt).before a s = true := by
  simp only [Bool.and_eq_true, beq_iff_eq, Bool.not_eq_true', decide_eq_true_eq] at h5
  obtain ⟨⟨⟨⟨⟨g1, g2⟩, g3⟩, g4⟩, g5⟩, g6⟩ := h5
  simp [Cond.before, Cond.holds, Cond.value, h1, h2, h3, h4, g1, g2, g3, g4, g5, g6]
def isCode : Jvm.Cond → Bool
  | .code _ _ _ _ => true
  | _ => false
theorem all_split {L : List Jvm.Cond} {P : Jvm.Cond → Bool} (h1 : L.all (fun c => isCode c || P c) = true) (h2 : ∀ c ∈ L.filter isCode, P c = true) : L.all P = true := by
  refine List.all_eq_true.mpr fun c hc => ?_
  have h := List.all_eq_true.mp h1 c hc
  rcases Bool.eq_false_or_eq_true (isCode c) with hi | hi
  · exact h2 c (List.mem_filter.mpr ⟨hc, hi⟩)
  · simpa [hi] using h
set_option maxRecDepth 65536 in
theorem w_c0 : (Jvm.Cond.code x code maxLocals ret).before args0 about1 = true := code_word (m := ⟨1, 1⟩) (meth := k1m1) (c := k1c1) (by decide +kernel) rfl rfl rfl (by decide +kernel)
set_option maxRecDepth 65536 in
theorem w_c1 : (Jvm.Cond.code ({ cls := "com/example/querylathe/querylathe/sql/Affinity", name := "converts", desc := "()Z" } : Jvm.MethodName) prog_31_method_5_code (1 : Nat) (Option.some Jvm.ClassFile.FieldType.boolean)).before args0 about1 = true := code_word (m := ⟨6, 0⟩) (meth := k6m0) (c := k6c0) (by decide +kernel) rfl rfl rfl (by decide +kernel)
def codes1 : List Jvm.Cond := [Jvm.Cond.code x code maxLocals ret, Jvm.Cond.code ({ cls := "com/example/querylathe/querylathe/sql/Affinity", name := "converts", desc := "()Z" } : Jvm.MethodName) prog_31_method_5_code (1 : Nat) (Option.some Jvm.ClassFile.FieldType.boolean)]
set_option maxRecDepth 65536 in
theorem codes_eq : words1.filter isCode = codes1 := rfl
theorem w_codes : ∀ c ∈ words1.filter isCode, c.before args0 about1 = true := by
  rw [codes_eq]
  intro c hc
  simp only [codes1, List.mem_cons, List.not_mem_nil, or_false] at hc
  rcases hc with rfl | rfl
  · exact w_c0
  · exact w_c1
set_option maxRecDepth 65536 in
theorem w_t1 : words1.all (fun c => isCode c || c.before args0 about1) = true := by decide +kernel
theorem w_tables : (allAtoms (Jvm.Cond.code x code maxLocals ret :: tables_1)).before args0 about1 = true := by
  rw [allAtoms_all]
  show words1.all (fun c => c.before args0 about1) = true
  refine all_split ?_ w_codes
  rw [w_t1]
set_option maxRecDepth 65536 in
theorem w_case : (Jvm.Cond.and given_1 narrow_1).before args0 about1 = true := by decide +kernel
theorem w_applies : (headSpec (Jvm.Cond.code x code maxLocals ret :: tables_1) room_1).applies x e0.platform about1 = true :=
  (Spec.applies_iff w_frames).mpr ⟨w_running, w_runnable, w_alone, w_named, w_hears, w_ripe, w_room, w_tables⟩
theorem atStart : AtStart classFile x code maxLocals ret World_1 tables_1 room_1 Calls_1 rest_1 Pre_1 launch0 p0 e0 about1 theMethod args0 below0 :=
  ⟨lists_1, trivial, launch0.admits_env _ _ _, launch0.least_env, fairChoices_fair.cas, fairChoices_fair.clock, w_frames, w_args, w_heap, w_applies, trivial, trivial, w_case⟩
end start1
theorem witness_1 : WitnessClaimed_1 := ⟨start1.p0, start1.e0, start1.about1, start1.theMethod, start1.args0, start1.below0, start1.atStart⟩
end Jvm.Pilot.@@N@@
