import JvmDerived
import JvmDerived.Pilot.@@N@@Statement
import JvmDerived.Pilot.@@N@@Code
set_option linter.unusedVariables false
set_option linter.unusedSimpArgs false
namespace Jvm.Pilot.@@N@@
open Jvm Jvm.ClassFile Sem Op Lib Jvm.Free Jvm.Stand Jvm.LawKit Jvm.RoadKit Bundle Jvm.Pilot.@@N@@.Jvm.D
abbrev sI (x : Int32) : Slot := .val (.int x)
abbrev sJ (x : Int64) : Slot := .val (.long x)
abbrev sR (a : Addr) : Slot := .val (.ref a)
abbrev sN : Slot := .val .null
abbrev sU : Slot := .unset
abbrev sW : Slot := .second
abbrev own_S (p : Program) (e : Env) (below : List Frame) (T : State) (m : MethodId) (pc : Nat) (L : Array Slot) (S : List Value) (t : State) : Prop := Steps p.tables e below (T.setTop (mkF m pc L S)) t
def own_s (c : Int32) : Int32 := if (97 ≤ c.toInt ∧ c.toInt ≤ 122) ∨ (65 ≤ c.toInt ∧ c.toInt ≤ 90) ∨ c.toInt = 95 ∨ 128 ≤ c.toInt then 1 else 0
def own_e (c : Int32) : Int32 := if 128 ≤ c.toInt ∨ (97 ≤ (c ||| 32).toInt ∧ (c ||| 32).toInt ≤ 122) ∨ c.toInt = 95 then 1 else 0
theorem own_low : ∀ k : Fin 128, own_s (Int32.ofNat k.val) = own_e (Int32.ofNat k.val) := by decide +kernel
theorem own_same (c : Int32) (h0 : 0 ≤ c.toInt) : own_s c = own_e c := by
  by_cases h : 128 ≤ c.toInt
  · rw [own_s, own_e, if_pos (by omega), if_pos (by omega)]
  · have e : c = Int32.ofNat c.toInt.toNat := by
      apply Int32.toInt_inj.mp
      rw [Int32.toInt_ofNat_of_lt (by omega)]
      omega
    have q := own_low ⟨c.toInt.toNat, by omega⟩
    rw [e]; exact q
theorem own_d1_0 : decode prog_85_method_17_code 0 = .ok (.iload_n 0, 1) := by decide +kernel
theorem own_d1_1 : decode prog_85_method_17_code 1 = .ok (.bipush 97, 2) := by decide +kernel
theorem own_d1_3 : decode prog_85_method_17_code 3 = .ok (.if_icmp .lt 9, 3) := by decide +kernel
theorem own_d1_6 : decode prog_85_method_17_code 6 = .ok (.iload_n 0, 1) := by decide +kernel
theorem own_d1_7 : decode prog_85_method_17_code 7 = .ok (.bipush 122, 2) := by decide +kernel
theorem own_d1_9 : decode prog_85_method_17_code 9 = .ok (.if_icmp .le 28, 3) := by decide +kernel
theorem own_d1_12 : decode prog_85_method_17_code 12 = .ok (.iload_n 0, 1) := by decide +kernel
theorem own_d1_13 : decode prog_85_method_17_code 13 = .ok (.bipush 65, 2) := by decide +kernel
theorem own_d1_15 : decode prog_85_method_17_code 15 = .ok (.if_icmp .lt 9, 3) := by decide +kernel
theorem own_d1_18 : decode prog_85_method_17_code 18 = .ok (.iload_n 0, 1) := by decide +kernel
theorem own_d1_19 : decode prog_85_method_17_code 19 = .ok (.bipush 90, 2) := by decide +kernel
theorem own_d1_21 : decode prog_85_method_17_code 21 = .ok (.if_icmp .le 16, 3) := by decide +kernel
theorem own_d1_24 : decode prog_85_method_17_code 24 = .ok (.iload_n 0, 1) := by decide +kernel
theorem own_d1_25 : decode prog_85_method_17_code 25 = .ok (.bipush 95, 2) := by decide +kernel
theorem own_d1_27 : decode prog_85_method_17_code 27 = .ok (.if_icmp .eq 10, 3) := by decide +kernel
theorem own_d1_30 : decode prog_85_method_17_code 30 = .ok (.iload_n 0, 1) := by decide +kernel
theorem own_d1_31 : decode prog_85_method_17_code 31 = .ok (.sipush 128, 3) := by decide +kernel
theorem own_d1_34 : decode prog_85_method_17_code 34 = .ok (.if_icmp .lt 7, 3) := by decide +kernel
theorem own_d1_37 : decode prog_85_method_17_code 37 = .ok (.iconst 1, 1) := by decide +kernel
theorem own_d1_38 : decode prog_85_method_17_code 38 = .ok (.goto 4, 3) := by decide +kernel
theorem own_d1_41 : decode prog_85_method_17_code 41 = .ok (.iconst 0, 1) := by decide +kernel
theorem own_d1_42 : decode prog_85_method_17_code 42 = .ok (.ireturn, 1) := by decide +kernel
theorem own_pn_0 : plainName "com/example/querylathe/querylathe/sql/Identifier" = true := by first | (simp [plainName, overriddenIn]; done) | decide +kernel
theorem own_ef_1 (m : MethodId) (x0 : Int32) : entryFrame m #[(.int x0)] 1 = mkF m 0 #[sI x0] [] := by first | (simp [entryFrame, mkF, argsToLocals, Value.category]; done) | rfl
def own_Q1 (Z : State) (p1 : Int32) (h0 : Heap) (n0 : Nat) (v : Option Value) (h : Heap) (L : List Loc) : Prop := v = some (.int (own_s p1)) ∧ Fr n0 L ∧ h = h0
abbrev own_y0 : MethodName := ⟨"com/example/querylathe/querylathe/sql/Identifier", "startsPlainWord", "(C)Z"⟩
set_option maxRecDepth 65536 in
set_option maxHeartbeats 40000000 in
theorem own_rm1 (l : Launch) (Z : State) (a0 : Array Value) (hw : ∀ d ∈ tables_1, d.before a0 Z = true) (ws : List Jvm.Cond) (p1 : Int32) (h0 : Heap) (n0 : Nat) (Z0 : n0 ≤ h0.size)  :
    MetFree l own_y0 (head1 (Jvm.Cond.code own_y0 prog_85_method_17_code 1 (some .boolean) :: ws) ({ frames := 0, cells := 0, slots := 0, locals := 0 } : Room)) (fun a U => a = #[(.int p1)] ∧ Z.Warmed39 U.vm ∧ U.heap = h0) (fun _ _ _ _ _ => True) (fun _ U o U' => ∃ v L, o = .returned v ∧ own_Q1 Z p1 h0 n0 v U'.heap L ∧ FrameEnd U o U' L ({ frames := 0, cells := 0, slots := 0, locals := 0 } : Room).cells ({ frames := 0, cells := 0, slots := 0, locals := 0 } : Room).slots) := by
  refine MetFree.of_bodySF (plainFor_of_name own_pn_0) hisR ?_
  intro p e s m args below meth c s₁ Bd hml0 hP hK
  obtain ⟨rfl, hZ, hh⟩ := hP
  have hx := Bd.exec
  have hby := Bd.bytes
  have hml : c.maxLocals = 1 := hml0
  have hown : s.vm.findClass "com/example/querylathe/querylathe/sql/Identifier" = some m.cls := findClass_of_methodNamed Bd.named
  have hnm := (name_of_methodNamed Bd.named Bd.method).1
  have X0 : Stand p l e ({ frames := 0, cells := 0, slots := 0, locals := 0 } : Room) s m #[(.int p1)] below meth c s₁ [] 0 0 := Stand.of_body Bd
  have e0 : s₁.heap = h0 := by rw [← hh, Bd.state]; rfl
  have N0 := Fr.nil n0
  obtain ⟨R0, hR0⟩ : ∃ R : State → Prop, R = fun t => Steps p.tables e below (s₁.setTop (entryFrame m #[(.int p1)] 1)) t := ⟨_, rfl⟩
  have pre0 : ∀ t, Steps p.tables e below (s₁.setTop (mkF m 0 #[sI p1] [])) t → R0 t := fun t k => by rw [hR0]; exact castTop (own_ef_1 m p1) k
  have pre1 : ∀ t, own_S p e below s₁ m 3 #[sI p1] [(.int 97), (.int p1)] t → R0 t := fun t k => pre0 t (by
    refine XS.iloadN X0.here hx rfl (hb hby own_d1_0) rfl ?_
    show own_S p e below s₁ m 1 #[sI p1] [(.int p1)] _
    refine XS.bipush X0.here hx rfl (hb hby own_d1_1) ?_
    exact k)
  by_cases hc3 : p1 < (97 : Int32)
  · have pre2 : ∀ t, own_S p e below s₁ m 15 #[sI p1] [(.int 65), (.int p1)] t → R0 t := fun t k => pre1 t (by
      refine XS.icmpYes X0.here hx rfl (pc0 := 3) (pc' := 12) rfl (hb hby own_d1_3) rfl (tlt hc3).1 (by decide) (by decide) ?_
      show own_S p e below s₁ m 12 #[sI p1] [] _
      refine XS.iloadN X0.here hx rfl (hb hby own_d1_12) rfl ?_
      show own_S p e below s₁ m 13 #[sI p1] [(.int p1)] _
      refine XS.bipush X0.here hx rfl (hb hby own_d1_13) ?_
      exact k)
    by_cases hc15 : p1 < (65 : Int32)
    · have pre3 : ∀ t, own_S p e below s₁ m 27 #[sI p1] [(.int 95), (.int p1)] t → R0 t := fun t k => pre2 t (by
        refine XS.icmpYes X0.here hx rfl (pc0 := 15) (pc' := 24) rfl (hb hby own_d1_15) rfl (tlt hc15).1 (by decide) (by decide) ?_
        show own_S p e below s₁ m 24 #[sI p1] [] _
        refine XS.iloadN X0.here hx rfl (hb hby own_d1_24) rfl ?_
        show own_S p e below s₁ m 25 #[sI p1] [(.int p1)] _
        refine XS.bipush X0.here hx rfl (hb hby own_d1_25) ?_
        exact k)
      by_cases hc27 : p1 = (95 : Int32)
      · have pre4 : ∀ t, own_S p e below s₁ m 42 #[sI p1] [(.int 1)] t → R0 t := fun t k => pre3 t (by
          refine XS.icmpYes X0.here hx rfl (pc0 := 27) (pc' := 37) rfl (hb hby own_d1_27) rfl (teq hc27).1 (by decide) (by decide) ?_
          show own_S p e below s₁ m 37 #[sI p1] [] _
          refine XS.iconst X0.here hx rfl (hb hby own_d1_37) ?_
          show own_S p e below s₁ m 38 #[sI p1] [(.int 1)] _
          refine XS.goto X0.here hx rfl (pc0 := 38) (pc' := 42) rfl (hb hby own_d1_38) (by decide) (by decide) ?_
          exact k)
        obtain ⟨fs, hr, hrun, hended, hW, hsame⟩ := X0.leave (v := some (.int 1)) (fun h => by rw [Bd.returns] at h; cases h)
        refine ⟨_, _, cast (congrFun hR0 _) (pre4 _ (retN X0 hx (t := .boolean) Bd.returns (by simp) (hb hby own_d1_42) hr)), hrun, hended, _, _, rfl, ?_, ⟨_, rfl⟩, hW, hsame.mono (by decide) (by decide)⟩
        show own_Q1 Z _ h0 n0 _ s₁.heap _
        rw [e0]
        exact ⟨(by rw [own_s, if_pos (by (simp only [Int32.lt_iff_toInt_lt, ← Int32.toInt_inj, Int32.reduceToInt] at hc3 hc15 hc27; omega))]), N0, rfl⟩
      · have pre5 : ∀ t, own_S p e below s₁ m 34 #[sI p1] [(.int 128), (.int p1)] t → R0 t := fun t k => pre3 t (by
          refine XS.icmpNo X0.here hx rfl (hb hby own_d1_27) rfl (feq hc27).1 ?_
          show own_S p e below s₁ m 30 #[sI p1] [] _
          refine XS.iloadN X0.here hx rfl (hb hby own_d1_30) rfl ?_
          show own_S p e below s₁ m 31 #[sI p1] [(.int p1)] _
          refine XS.sipush X0.here hx rfl (hb hby own_d1_31) ?_
          exact k)
        by_cases hc34 : p1 < (128 : Int32)
        · have pre6 : ∀ t, own_S p e below s₁ m 42 #[sI p1] [(.int 0)] t → R0 t := fun t k => pre5 t (by
            refine XS.icmpYes X0.here hx rfl (pc0 := 34) (pc' := 41) rfl (hb hby own_d1_34) rfl (tlt hc34).1 (by decide) (by decide) ?_
            show own_S p e below s₁ m 41 #[sI p1] [] _
            refine XS.iconst X0.here hx rfl (hb hby own_d1_41) ?_
            exact k)
          obtain ⟨fs, hr, hrun, hended, hW, hsame⟩ := X0.leave (v := some (.int 0)) (fun h => by rw [Bd.returns] at h; cases h)
          refine ⟨_, _, cast (congrFun hR0 _) (pre6 _ (retN X0 hx (t := .boolean) Bd.returns (by simp) (hb hby own_d1_42) hr)), hrun, hended, _, _, rfl, ?_, ⟨_, rfl⟩, hW, hsame.mono (by decide) (by decide)⟩
          show own_Q1 Z _ h0 n0 _ s₁.heap _
          rw [e0]
          exact ⟨(by rw [own_s, if_neg (by (simp only [Int32.lt_iff_toInt_lt, ← Int32.toInt_inj, Int32.reduceToInt] at hc3 hc15 hc27 hc34; omega))]), N0, rfl⟩
        · have pre7 : ∀ t, own_S p e below s₁ m 42 #[sI p1] [(.int 1)] t → R0 t := fun t k => pre5 t (by
            refine XS.icmpNo X0.here hx rfl (hb hby own_d1_34) rfl (flt hc34).1 ?_
            show own_S p e below s₁ m 37 #[sI p1] [] _
            refine XS.iconst X0.here hx rfl (hb hby own_d1_37) ?_
            show own_S p e below s₁ m 38 #[sI p1] [(.int 1)] _
            refine XS.goto X0.here hx rfl (pc0 := 38) (pc' := 42) rfl (hb hby own_d1_38) (by decide) (by decide) ?_
            exact k)
          obtain ⟨fs, hr, hrun, hended, hW, hsame⟩ := X0.leave (v := some (.int 1)) (fun h => by rw [Bd.returns] at h; cases h)
          refine ⟨_, _, cast (congrFun hR0 _) (pre7 _ (retN X0 hx (t := .boolean) Bd.returns (by simp) (hb hby own_d1_42) hr)), hrun, hended, _, _, rfl, ?_, ⟨_, rfl⟩, hW, hsame.mono (by decide) (by decide)⟩
          show own_Q1 Z _ h0 n0 _ s₁.heap _
          rw [e0]
          exact ⟨(by rw [own_s, if_pos (by (simp only [Int32.lt_iff_toInt_lt, ← Int32.toInt_inj, Int32.reduceToInt] at hc3 hc15 hc27 hc34; omega))]), N0, rfl⟩
    · have pre8 : ∀ t, own_S p e below s₁ m 21 #[sI p1] [(.int 90), (.int p1)] t → R0 t := fun t k => pre2 t (by
        refine XS.icmpNo X0.here hx rfl (hb hby own_d1_15) rfl (flt hc15).1 ?_
        show own_S p e below s₁ m 18 #[sI p1] [] _
        refine XS.iloadN X0.here hx rfl (hb hby own_d1_18) rfl ?_
        show own_S p e below s₁ m 19 #[sI p1] [(.int p1)] _
        refine XS.bipush X0.here hx rfl (hb hby own_d1_19) ?_
        exact k)
      by_cases hc21 : (90 : Int32) < p1
      · have pre9 : ∀ t, own_S p e below s₁ m 27 #[sI p1] [(.int 95), (.int p1)] t → R0 t := fun t k => pre8 t (by
          refine XS.icmpNo X0.here hx rfl (hb hby own_d1_21) rfl (tlt hc21).2.2.2 ?_
          show own_S p e below s₁ m 24 #[sI p1] [] _
          refine XS.iloadN X0.here hx rfl (hb hby own_d1_24) rfl ?_
          show own_S p e below s₁ m 25 #[sI p1] [(.int p1)] _
          refine XS.bipush X0.here hx rfl (hb hby own_d1_25) ?_
          exact k)
        by_cases hc27 : p1 = (95 : Int32)
        · have pre10 : ∀ t, own_S p e below s₁ m 42 #[sI p1] [(.int 1)] t → R0 t := fun t k => pre9 t (by
            refine XS.icmpYes X0.here hx rfl (pc0 := 27) (pc' := 37) rfl (hb hby own_d1_27) rfl (teq hc27).1 (by decide) (by decide) ?_
            show own_S p e below s₁ m 37 #[sI p1] [] _
            refine XS.iconst X0.here hx rfl (hb hby own_d1_37) ?_
            show own_S p e below s₁ m 38 #[sI p1] [(.int 1)] _
            refine XS.goto X0.here hx rfl (pc0 := 38) (pc' := 42) rfl (hb hby own_d1_38) (by decide) (by decide) ?_
            exact k)
          obtain ⟨fs, hr, hrun, hended, hW, hsame⟩ := X0.leave (v := some (.int 1)) (fun h => by rw [Bd.returns] at h; cases h)
          refine ⟨_, _, cast (congrFun hR0 _) (pre10 _ (retN X0 hx (t := .boolean) Bd.returns (by simp) (hb hby own_d1_42) hr)), hrun, hended, _, _, rfl, ?_, ⟨_, rfl⟩, hW, hsame.mono (by decide) (by decide)⟩
          show own_Q1 Z _ h0 n0 _ s₁.heap _
          rw [e0]
          exact ⟨(by rw [own_s, if_pos (by (simp only [Int32.lt_iff_toInt_lt, ← Int32.toInt_inj, Int32.reduceToInt] at hc3 hc15 hc21 hc27; omega))]), N0, rfl⟩
        · have pre11 : ∀ t, own_S p e below s₁ m 34 #[sI p1] [(.int 128), (.int p1)] t → R0 t := fun t k => pre9 t (by
            refine XS.icmpNo X0.here hx rfl (hb hby own_d1_27) rfl (feq hc27).1 ?_
            show own_S p e below s₁ m 30 #[sI p1] [] _
            refine XS.iloadN X0.here hx rfl (hb hby own_d1_30) rfl ?_
            show own_S p e below s₁ m 31 #[sI p1] [(.int p1)] _
            refine XS.sipush X0.here hx rfl (hb hby own_d1_31) ?_
            exact k)
          by_cases hc34 : p1 < (128 : Int32)
          · have pre12 : ∀ t, own_S p e below s₁ m 42 #[sI p1] [(.int 0)] t → R0 t := fun t k => pre11 t (by
              refine XS.icmpYes X0.here hx rfl (pc0 := 34) (pc' := 41) rfl (hb hby own_d1_34) rfl (tlt hc34).1 (by decide) (by decide) ?_
              show own_S p e below s₁ m 41 #[sI p1] [] _
              refine XS.iconst X0.here hx rfl (hb hby own_d1_41) ?_
              exact k)
            obtain ⟨fs, hr, hrun, hended, hW, hsame⟩ := X0.leave (v := some (.int 0)) (fun h => by rw [Bd.returns] at h; cases h)
            refine ⟨_, _, cast (congrFun hR0 _) (pre12 _ (retN X0 hx (t := .boolean) Bd.returns (by simp) (hb hby own_d1_42) hr)), hrun, hended, _, _, rfl, ?_, ⟨_, rfl⟩, hW, hsame.mono (by decide) (by decide)⟩
            show own_Q1 Z _ h0 n0 _ s₁.heap _
            rw [e0]
            exact ⟨(by rw [own_s, if_neg (by (simp only [Int32.lt_iff_toInt_lt, ← Int32.toInt_inj, Int32.reduceToInt] at hc3 hc15 hc21 hc27 hc34; omega))]), N0, rfl⟩
          · have pre13 : ∀ t, own_S p e below s₁ m 42 #[sI p1] [(.int 1)] t → R0 t := fun t k => pre11 t (by
              refine XS.icmpNo X0.here hx rfl (hb hby own_d1_34) rfl (flt hc34).1 ?_
              show own_S p e below s₁ m 37 #[sI p1] [] _
              refine XS.iconst X0.here hx rfl (hb hby own_d1_37) ?_
              show own_S p e below s₁ m 38 #[sI p1] [(.int 1)] _
              refine XS.goto X0.here hx rfl (pc0 := 38) (pc' := 42) rfl (hb hby own_d1_38) (by decide) (by decide) ?_
              exact k)
            obtain ⟨fs, hr, hrun, hended, hW, hsame⟩ := X0.leave (v := some (.int 1)) (fun h => by rw [Bd.returns] at h; cases h)
            refine ⟨_, _, cast (congrFun hR0 _) (pre13 _ (retN X0 hx (t := .boolean) Bd.returns (by simp) (hb hby own_d1_42) hr)), hrun, hended, _, _, rfl, ?_, ⟨_, rfl⟩, hW, hsame.mono (by decide) (by decide)⟩
            show own_Q1 Z _ h0 n0 _ s₁.heap _
            rw [e0]
            exact ⟨(by rw [own_s, if_pos (by (simp only [Int32.lt_iff_toInt_lt, ← Int32.toInt_inj, Int32.reduceToInt] at hc3 hc15 hc21 hc27 hc34; omega))]), N0, rfl⟩
      · have pre14 : ∀ t, own_S p e below s₁ m 42 #[sI p1] [(.int 1)] t → R0 t := fun t k => pre8 t (by
          refine XS.icmpYes X0.here hx rfl (pc0 := 21) (pc' := 37) rfl (hb hby own_d1_21) rfl (flt hc21).2.2.2 (by decide) (by decide) ?_
          show own_S p e below s₁ m 37 #[sI p1] [] _
          refine XS.iconst X0.here hx rfl (hb hby own_d1_37) ?_
          show own_S p e below s₁ m 38 #[sI p1] [(.int 1)] _
          refine XS.goto X0.here hx rfl (pc0 := 38) (pc' := 42) rfl (hb hby own_d1_38) (by decide) (by decide) ?_
          exact k)
        obtain ⟨fs, hr, hrun, hended, hW, hsame⟩ := X0.leave (v := some (.int 1)) (fun h => by rw [Bd.returns] at h; cases h)
        refine ⟨_, _, cast (congrFun hR0 _) (pre14 _ (retN X0 hx (t := .boolean) Bd.returns (by simp) (hb hby own_d1_42) hr)), hrun, hended, _, _, rfl, ?_, ⟨_, rfl⟩, hW, hsame.mono (by decide) (by decide)⟩
        show own_Q1 Z _ h0 n0 _ s₁.heap _
        rw [e0]
        exact ⟨(by rw [own_s, if_pos (by (simp only [Int32.lt_iff_toInt_lt, ← Int32.toInt_inj, Int32.reduceToInt] at hc3 hc15 hc21; omega))]), N0, rfl⟩
  · have pre15 : ∀ t, own_S p e below s₁ m 9 #[sI p1] [(.int 122), (.int p1)] t → R0 t := fun t k => pre1 t (by
      refine XS.icmpNo X0.here hx rfl (hb hby own_d1_3) rfl (flt hc3).1 ?_
      show own_S p e below s₁ m 6 #[sI p1] [] _
      refine XS.iloadN X0.here hx rfl (hb hby own_d1_6) rfl ?_
      show own_S p e below s₁ m 7 #[sI p1] [(.int p1)] _
      refine XS.bipush X0.here hx rfl (hb hby own_d1_7) ?_
      exact k)
    by_cases hc9 : (122 : Int32) < p1
    · have pre16 : ∀ t, own_S p e below s₁ m 15 #[sI p1] [(.int 65), (.int p1)] t → R0 t := fun t k => pre15 t (by
        refine XS.icmpNo X0.here hx rfl (hb hby own_d1_9) rfl (tlt hc9).2.2.2 ?_
        show own_S p e below s₁ m 12 #[sI p1] [] _
        refine XS.iloadN X0.here hx rfl (hb hby own_d1_12) rfl ?_
        show own_S p e below s₁ m 13 #[sI p1] [(.int p1)] _
        refine XS.bipush X0.here hx rfl (hb hby own_d1_13) ?_
        exact k)
      by_cases hc15 : p1 < (65 : Int32)
      · have pre17 : ∀ t, own_S p e below s₁ m 27 #[sI p1] [(.int 95), (.int p1)] t → R0 t := fun t k => pre16 t (by
          refine XS.icmpYes X0.here hx rfl (pc0 := 15) (pc' := 24) rfl (hb hby own_d1_15) rfl (tlt hc15).1 (by decide) (by decide) ?_
          show own_S p e below s₁ m 24 #[sI p1] [] _
          refine XS.iloadN X0.here hx rfl (hb hby own_d1_24) rfl ?_
          show own_S p e below s₁ m 25 #[sI p1] [(.int p1)] _
          refine XS.bipush X0.here hx rfl (hb hby own_d1_25) ?_
          exact k)
        by_cases hc27 : p1 = (95 : Int32)
        · have pre18 : ∀ t, own_S p e below s₁ m 42 #[sI p1] [(.int 1)] t → R0 t := fun t k => pre17 t (by
            refine XS.icmpYes X0.here hx rfl (pc0 := 27) (pc' := 37) rfl (hb hby own_d1_27) rfl (teq hc27).1 (by decide) (by decide) ?_
            show own_S p e below s₁ m 37 #[sI p1] [] _
            refine XS.iconst X0.here hx rfl (hb hby own_d1_37) ?_
            show own_S p e below s₁ m 38 #[sI p1] [(.int 1)] _
            refine XS.goto X0.here hx rfl (pc0 := 38) (pc' := 42) rfl (hb hby own_d1_38) (by decide) (by decide) ?_
            exact k)
          obtain ⟨fs, hr, hrun, hended, hW, hsame⟩ := X0.leave (v := some (.int 1)) (fun h => by rw [Bd.returns] at h; cases h)
          refine ⟨_, _, cast (congrFun hR0 _) (pre18 _ (retN X0 hx (t := .boolean) Bd.returns (by simp) (hb hby own_d1_42) hr)), hrun, hended, _, _, rfl, ?_, ⟨_, rfl⟩, hW, hsame.mono (by decide) (by decide)⟩
          show own_Q1 Z _ h0 n0 _ s₁.heap _
          rw [e0]
          exact ⟨(by rw [own_s, if_pos (by (simp only [Int32.lt_iff_toInt_lt, ← Int32.toInt_inj, Int32.reduceToInt] at hc3 hc9 hc15 hc27; omega))]), N0, rfl⟩
        · have pre19 : ∀ t, own_S p e below s₁ m 34 #[sI p1] [(.int 128), (.int p1)] t → R0 t := fun t k => pre17 t (by
            refine XS.icmpNo X0.here hx rfl (hb hby own_d1_27) rfl (feq hc27).1 ?_
            show own_S p e below s₁ m 30 #[sI p1] [] _
            refine XS.iloadN X0.here hx rfl (hb hby own_d1_30) rfl ?_
            show own_S p e below s₁ m 31 #[sI p1] [(.int p1)] _
            refine XS.sipush X0.here hx rfl (hb hby own_d1_31) ?_
            exact k)
          by_cases hc34 : p1 < (128 : Int32)
          · have pre20 : ∀ t, own_S p e below s₁ m 42 #[sI p1] [(.int 0)] t → R0 t := fun t k => pre19 t (by
              refine XS.icmpYes X0.here hx rfl (pc0 := 34) (pc' := 41) rfl (hb hby own_d1_34) rfl (tlt hc34).1 (by decide) (by decide) ?_
              show own_S p e below s₁ m 41 #[sI p1] [] _
              refine XS.iconst X0.here hx rfl (hb hby own_d1_41) ?_
              exact k)
            obtain ⟨fs, hr, hrun, hended, hW, hsame⟩ := X0.leave (v := some (.int 0)) (fun h => by rw [Bd.returns] at h; cases h)
            refine ⟨_, _, cast (congrFun hR0 _) (pre20 _ (retN X0 hx (t := .boolean) Bd.returns (by simp) (hb hby own_d1_42) hr)), hrun, hended, _, _, rfl, ?_, ⟨_, rfl⟩, hW, hsame.mono (by decide) (by decide)⟩
            show own_Q1 Z _ h0 n0 _ s₁.heap _
            rw [e0]
            exact ⟨(by rw [own_s, if_neg (by (simp only [Int32.lt_iff_toInt_lt, ← Int32.toInt_inj, Int32.reduceToInt] at hc3 hc9 hc15 hc27 hc34; omega))]), N0, rfl⟩
          · have pre21 : ∀ t, own_S p e below s₁ m 42 #[sI p1] [(.int 1)] t → R0 t := fun t k => pre19 t (by
              refine XS.icmpNo X0.here hx rfl (hb hby own_d1_34) rfl (flt hc34).1 ?_
              show own_S p e below s₁ m 37 #[sI p1] [] _
              refine XS.iconst X0.here hx rfl (hb hby own_d1_37) ?_
              show own_S p e below s₁ m 38 #[sI p1] [(.int 1)] _
              refine XS.goto X0.here hx rfl (pc0 := 38) (pc' := 42) rfl (hb hby own_d1_38) (by decide) (by decide) ?_
              exact k)
            obtain ⟨fs, hr, hrun, hended, hW, hsame⟩ := X0.leave (v := some (.int 1)) (fun h => by rw [Bd.returns] at h; cases h)
            refine ⟨_, _, cast (congrFun hR0 _) (pre21 _ (retN X0 hx (t := .boolean) Bd.returns (by simp) (hb hby own_d1_42) hr)), hrun, hended, _, _, rfl, ?_, ⟨_, rfl⟩, hW, hsame.mono (by decide) (by decide)⟩
            show own_Q1 Z _ h0 n0 _ s₁.heap _
            rw [e0]
            exact ⟨(by rw [own_s, if_pos (by (simp only [Int32.lt_iff_toInt_lt, ← Int32.toInt_inj, Int32.reduceToInt] at hc3 hc9 hc15 hc27 hc34; omega))]), N0, rfl⟩
      · have pre22 : ∀ t, own_S p e below s₁ m 21 #[sI p1] [(.int 90), (.int p1)] t → R0 t := fun t k => pre16 t (by
          refine XS.icmpNo X0.here hx rfl (hb hby own_d1_15) rfl (flt hc15).1 ?_
          show own_S p e below s₁ m 18 #[sI p1] [] _
          refine XS.iloadN X0.here hx rfl (hb hby own_d1_18) rfl ?_
          show own_S p e below s₁ m 19 #[sI p1] [(.int p1)] _
          refine XS.bipush X0.here hx rfl (hb hby own_d1_19) ?_
          exact k)
        by_cases hc21 : (90 : Int32) < p1
        · have pre23 : ∀ t, own_S p e below s₁ m 27 #[sI p1] [(.int 95), (.int p1)] t → R0 t := fun t k => pre22 t (by
            refine XS.icmpNo X0.here hx rfl (hb hby own_d1_21) rfl (tlt hc21).2.2.2 ?_
            show own_S p e below s₁ m 24 #[sI p1] [] _
            refine XS.iloadN X0.here hx rfl (hb hby own_d1_24) rfl ?_
            show own_S p e below s₁ m 25 #[sI p1] [(.int p1)] _
            refine XS.bipush X0.here hx rfl (hb hby own_d1_25) ?_
            exact k)
          by_cases hc27 : p1 = (95 : Int32)
          · have pre24 : ∀ t, own_S p e below s₁ m 42 #[sI p1] [(.int 1)] t → R0 t := fun t k => pre23 t (by
              refine XS.icmpYes X0.here hx rfl (pc0 := 27) (pc' := 37) rfl (hb hby own_d1_27) rfl (teq hc27).1 (by decide) (by decide) ?_
              show own_S p e below s₁ m 37 #[sI p1] [] _
              refine XS.iconst X0.here hx rfl (hb hby own_d1_37) ?_
              show own_S p e below s₁ m 38 #[sI p1] [(.int 1)] _
              refine XS.goto X0.here hx rfl (pc0 := 38) (pc' := 42) rfl (hb hby own_d1_38) (by decide) (by decide) ?_
              exact k)
            obtain ⟨fs, hr, hrun, hended, hW, hsame⟩ := X0.leave (v := some (.int 1)) (fun h => by rw [Bd.returns] at h; cases h)
            refine ⟨_, _, cast (congrFun hR0 _) (pre24 _ (retN X0 hx (t := .boolean) Bd.returns (by simp) (hb hby own_d1_42) hr)), hrun, hended, _, _, rfl, ?_, ⟨_, rfl⟩, hW, hsame.mono (by decide) (by decide)⟩
            show own_Q1 Z _ h0 n0 _ s₁.heap _
            rw [e0]
            exact ⟨(by rw [own_s, if_pos (by (simp only [Int32.lt_iff_toInt_lt, ← Int32.toInt_inj, Int32.reduceToInt] at hc3 hc9 hc15 hc21 hc27; omega))]), N0, rfl⟩
          · have pre25 : ∀ t, own_S p e below s₁ m 34 #[sI p1] [(.int 128), (.int p1)] t → R0 t := fun t k => pre23 t (by
              refine XS.icmpNo X0.here hx rfl (hb hby own_d1_27) rfl (feq hc27).1 ?_
              show own_S p e below s₁ m 30 #[sI p1] [] _
              refine XS.iloadN X0.here hx rfl (hb hby own_d1_30) rfl ?_
              show own_S p e below s₁ m 31 #[sI p1] [(.int p1)] _
              refine XS.sipush X0.here hx rfl (hb hby own_d1_31) ?_
              exact k)
            by_cases hc34 : p1 < (128 : Int32)
            · have pre26 : ∀ t, own_S p e below s₁ m 42 #[sI p1] [(.int 0)] t → R0 t := fun t k => pre25 t (by
                refine XS.icmpYes X0.here hx rfl (pc0 := 34) (pc' := 41) rfl (hb hby own_d1_34) rfl (tlt hc34).1 (by decide) (by decide) ?_
                show own_S p e below s₁ m 41 #[sI p1] [] _
                refine XS.iconst X0.here hx rfl (hb hby own_d1_41) ?_
                exact k)
              obtain ⟨fs, hr, hrun, hended, hW, hsame⟩ := X0.leave (v := some (.int 0)) (fun h => by rw [Bd.returns] at h; cases h)
              refine ⟨_, _, cast (congrFun hR0 _) (pre26 _ (retN X0 hx (t := .boolean) Bd.returns (by simp) (hb hby own_d1_42) hr)), hrun, hended, _, _, rfl, ?_, ⟨_, rfl⟩, hW, hsame.mono (by decide) (by decide)⟩
              show own_Q1 Z _ h0 n0 _ s₁.heap _
              rw [e0]
              exact ⟨(by rw [own_s, if_neg (by (simp only [Int32.lt_iff_toInt_lt, ← Int32.toInt_inj, Int32.reduceToInt] at hc3 hc9 hc15 hc21 hc27 hc34; omega))]), N0, rfl⟩
            · have pre27 : ∀ t, own_S p e below s₁ m 42 #[sI p1] [(.int 1)] t → R0 t := fun t k => pre25 t (by
                refine XS.icmpNo X0.here hx rfl (hb hby own_d1_34) rfl (flt hc34).1 ?_
                show own_S p e below s₁ m 37 #[sI p1] [] _
                refine XS.iconst X0.here hx rfl (hb hby own_d1_37) ?_
                show own_S p e below s₁ m 38 #[sI p1] [(.int 1)] _
                refine XS.goto X0.here hx rfl (pc0 := 38) (pc' := 42) rfl (hb hby own_d1_38) (by decide) (by decide) ?_
                exact k)
              obtain ⟨fs, hr, hrun, hended, hW, hsame⟩ := X0.leave (v := some (.int 1)) (fun h => by rw [Bd.returns] at h; cases h)
              refine ⟨_, _, cast (congrFun hR0 _) (pre27 _ (retN X0 hx (t := .boolean) Bd.returns (by simp) (hb hby own_d1_42) hr)), hrun, hended, _, _, rfl, ?_, ⟨_, rfl⟩, hW, hsame.mono (by decide) (by decide)⟩
              show own_Q1 Z _ h0 n0 _ s₁.heap _
              rw [e0]
              exact ⟨(by rw [own_s, if_pos (by (simp only [Int32.lt_iff_toInt_lt, ← Int32.toInt_inj, Int32.reduceToInt] at hc3 hc9 hc15 hc21 hc27 hc34; omega))]), N0, rfl⟩
        · have pre28 : ∀ t, own_S p e below s₁ m 42 #[sI p1] [(.int 1)] t → R0 t := fun t k => pre22 t (by
            refine XS.icmpYes X0.here hx rfl (pc0 := 21) (pc' := 37) rfl (hb hby own_d1_21) rfl (flt hc21).2.2.2 (by decide) (by decide) ?_
            show own_S p e below s₁ m 37 #[sI p1] [] _
            refine XS.iconst X0.here hx rfl (hb hby own_d1_37) ?_
            show own_S p e below s₁ m 38 #[sI p1] [(.int 1)] _
            refine XS.goto X0.here hx rfl (pc0 := 38) (pc' := 42) rfl (hb hby own_d1_38) (by decide) (by decide) ?_
            exact k)
          obtain ⟨fs, hr, hrun, hended, hW, hsame⟩ := X0.leave (v := some (.int 1)) (fun h => by rw [Bd.returns] at h; cases h)
          refine ⟨_, _, cast (congrFun hR0 _) (pre28 _ (retN X0 hx (t := .boolean) Bd.returns (by simp) (hb hby own_d1_42) hr)), hrun, hended, _, _, rfl, ?_, ⟨_, rfl⟩, hW, hsame.mono (by decide) (by decide)⟩
          show own_Q1 Z _ h0 n0 _ s₁.heap _
          rw [e0]
          exact ⟨(by rw [own_s, if_pos (by (simp only [Int32.lt_iff_toInt_lt, ← Int32.toInt_inj, Int32.reduceToInt] at hc3 hc9 hc15 hc21; omega))]), N0, rfl⟩
    · have pre29 : ∀ t, own_S p e below s₁ m 42 #[sI p1] [(.int 1)] t → R0 t := fun t k => pre15 t (by
        refine XS.icmpYes X0.here hx rfl (pc0 := 9) (pc' := 37) rfl (hb hby own_d1_9) rfl (flt hc9).2.2.2 (by decide) (by decide) ?_
        show own_S p e below s₁ m 37 #[sI p1] [] _
        refine XS.iconst X0.here hx rfl (hb hby own_d1_37) ?_
        show own_S p e below s₁ m 38 #[sI p1] [(.int 1)] _
        refine XS.goto X0.here hx rfl (pc0 := 38) (pc' := 42) rfl (hb hby own_d1_38) (by decide) (by decide) ?_
        exact k)
      obtain ⟨fs, hr, hrun, hended, hW, hsame⟩ := X0.leave (v := some (.int 1)) (fun h => by rw [Bd.returns] at h; cases h)
      refine ⟨_, _, cast (congrFun hR0 _) (pre29 _ (retN X0 hx (t := .boolean) Bd.returns (by simp) (hb hby own_d1_42) hr)), hrun, hended, _, _, rfl, ?_, ⟨_, rfl⟩, hW, hsame.mono (by decide) (by decide)⟩
      show own_Q1 Z _ h0 n0 _ s₁.heap _
      rw [e0]
      exact ⟨(by rw [own_s, if_pos (by (simp only [Int32.lt_iff_toInt_lt, ← Int32.toInt_inj, Int32.reduceToInt] at hc3 hc9; omega))]), N0, rfl⟩
theorem own_d2_0 : decode method_2_code 0 = .ok (.iload_n 0, 1) := by decide +kernel
theorem own_d2_1 : decode method_2_code 1 = .ok (.sipush 128, 3) := by decide +kernel
theorem own_d2_4 : decode method_2_code 4 = .ok (.if_icmp .lt 5, 3) := by decide +kernel
theorem own_d2_7 : decode method_2_code 7 = .ok (.iconst 1, 1) := by decide +kernel
theorem own_d2_8 : decode method_2_code 8 = .ok (.ireturn, 1) := by decide +kernel
theorem own_d2_9 : decode method_2_code 9 = .ok (.iload_n 0, 1) := by decide +kernel
theorem own_d2_10 : decode method_2_code 10 = .ok (.bipush 32, 2) := by decide +kernel
theorem own_d2_12 : decode method_2_code 12 = .ok (.ior, 1) := by decide +kernel
theorem own_d2_13 : decode method_2_code 13 = .ok (.istore_n 1, 1) := by decide +kernel
theorem own_d2_14 : decode method_2_code 14 = .ok (.iload_n 1, 1) := by decide +kernel
theorem own_d2_15 : decode method_2_code 15 = .ok (.bipush 97, 2) := by decide +kernel
theorem own_d2_17 : decode method_2_code 17 = .ok (.if_icmp .lt 11, 3) := by decide +kernel
theorem own_d2_20 : decode method_2_code 20 = .ok (.iload_n 1, 1) := by decide +kernel
theorem own_d2_21 : decode method_2_code 21 = .ok (.bipush 122, 2) := by decide +kernel
theorem own_d2_23 : decode method_2_code 23 = .ok (.if_icmp .gt 5, 3) := by decide +kernel
theorem own_d2_26 : decode method_2_code 26 = .ok (.iconst 1, 1) := by decide +kernel
theorem own_d2_27 : decode method_2_code 27 = .ok (.ireturn, 1) := by decide +kernel
theorem own_d2_28 : decode method_2_code 28 = .ok (.iload_n 0, 1) := by decide +kernel
theorem own_d2_29 : decode method_2_code 29 = .ok (.bipush 95, 2) := by decide +kernel
theorem own_d2_31 : decode method_2_code 31 = .ok (.if_icmp .ne 7, 3) := by decide +kernel
theorem own_d2_34 : decode method_2_code 34 = .ok (.iconst 1, 1) := by decide +kernel
theorem own_d2_35 : decode method_2_code 35 = .ok (.goto 4, 3) := by decide +kernel
theorem own_d2_38 : decode method_2_code 38 = .ok (.iconst 0, 1) := by decide +kernel
theorem own_d2_39 : decode method_2_code 39 = .ok (.ireturn, 1) := by decide +kernel
theorem own_pn_1 : plainName "com/example/querylathe/querylathe/sql/IdentifierStartsPlainWordPinLaw" = true := by first | (simp [plainName, overriddenIn]; done) | decide +kernel
theorem own_ef_2 (m : MethodId) (x0 : Int32) : entryFrame m #[(.int x0)] 2 = mkF m 0 #[sI x0, .unset] [] := by first | (simp [entryFrame, mkF, argsToLocals, Value.category]; done) | rfl
def own_Q2 (Z : State) (p1 : Int32) (h0 : Heap) (n0 : Nat) (v : Option Value) (h : Heap) (L : List Loc) : Prop := v = some (.int (own_e p1)) ∧ Fr n0 L ∧ h = h0
abbrev own_y1 : MethodName := ⟨"com/example/querylathe/querylathe/sql/IdentifierStartsPlainWordPinLaw", "expected", "(C)Z"⟩
set_option maxRecDepth 65536 in
set_option maxHeartbeats 40000000 in
theorem own_rm2 (l : Launch) (Z : State) (a0 : Array Value) (hw : ∀ d ∈ tables_1, d.before a0 Z = true) (ws : List Jvm.Cond) (p1 : Int32) (h0 : Heap) (n0 : Nat) (Z0 : n0 ≤ h0.size)  :
    MetFree l own_y1 (head1 (Jvm.Cond.code own_y1 method_2_code 2 (some .boolean) :: ws) ({ frames := 0, cells := 0, slots := 0, locals := 0 } : Room)) (fun a U => a = #[(.int p1)] ∧ Z.Warmed39 U.vm ∧ U.heap = h0) (fun _ _ _ _ _ => True) (fun _ U o U' => ∃ v L, o = .returned v ∧ own_Q2 Z p1 h0 n0 v U'.heap L ∧ FrameEnd U o U' L ({ frames := 0, cells := 0, slots := 0, locals := 0 } : Room).cells ({ frames := 0, cells := 0, slots := 0, locals := 0 } : Room).slots) := by
  refine MetFree.of_bodySF (plainFor_of_name own_pn_1) hisR ?_
  intro p e s m args below meth c s₁ Bd hml0 hP hK
  obtain ⟨rfl, hZ, hh⟩ := hP
  have hx := Bd.exec
  have hby := Bd.bytes
  have hml : c.maxLocals = 2 := hml0
  have hown : s.vm.findClass "com/example/querylathe/querylathe/sql/IdentifierStartsPlainWordPinLaw" = some m.cls := findClass_of_methodNamed Bd.named
  have hnm := (name_of_methodNamed Bd.named Bd.method).1
  have X0 : Stand p l e ({ frames := 0, cells := 0, slots := 0, locals := 0 } : Room) s m #[(.int p1)] below meth c s₁ [] 0 0 := Stand.of_body Bd
  have e0 : s₁.heap = h0 := by rw [← hh, Bd.state]; rfl
  have N0 := Fr.nil n0
  obtain ⟨R0, hR0⟩ : ∃ R : State → Prop, R = fun t => Steps p.tables e below (s₁.setTop (entryFrame m #[(.int p1)] 2)) t := ⟨_, rfl⟩
  have pre0 : ∀ t, Steps p.tables e below (s₁.setTop (mkF m 0 #[sI p1, sU] [])) t → R0 t := fun t k => by rw [hR0]; exact castTop (own_ef_2 m p1) k
  have pre1 : ∀ t, own_S p e below s₁ m 4 #[sI p1, sU] [(.int 128), (.int p1)] t → R0 t := fun t k => pre0 t (by
    refine XS.iloadN X0.here hx rfl (hb hby own_d2_0) rfl ?_
    show own_S p e below s₁ m 1 #[sI p1, sU] [(.int p1)] _
    refine XS.sipush X0.here hx rfl (hb hby own_d2_1) ?_
    exact k)
  by_cases hc4 : p1 < (128 : Int32)
  · have pre2 : ∀ t, own_S p e below s₁ m 17 #[sI p1, sI (p1 ||| (32 : Int32))] [(.int 97), (.int (p1 ||| (32 : Int32)))] t → R0 t := fun t k => pre1 t (by
      refine XS.icmpYes X0.here hx rfl (pc0 := 4) (pc' := 9) rfl (hb hby own_d2_4) rfl (tlt hc4).1 (by decide) (by decide) ?_
      show own_S p e below s₁ m 9 #[sI p1, sU] [] _
      refine XS.iloadN X0.here hx rfl (hb hby own_d2_9) rfl ?_
      show own_S p e below s₁ m 10 #[sI p1, sU] [(.int p1)] _
      refine XS.bipush X0.here hx rfl (hb hby own_d2_10) ?_
      show own_S p e below s₁ m 12 #[sI p1, sU] [(.int 32), (.int p1)] _
      refine XS.ior X0.here hx rfl (hb hby own_d2_12) rfl ?_
      show own_S p e below s₁ m 13 #[sI p1, sU] [(.int (p1 ||| (32 : Int32)))] _
      refine XS.istoreN X0.here hx rfl (hb hby own_d2_13) rfl (l' := #[sI p1, sI (p1 ||| (32 : Int32))]) rfl ?_
      show own_S p e below s₁ m 14 #[sI p1, sI (p1 ||| (32 : Int32))] [] _
      refine XS.iloadN X0.here hx rfl (hb hby own_d2_14) rfl ?_
      show own_S p e below s₁ m 15 #[sI p1, sI (p1 ||| (32 : Int32))] [(.int (p1 ||| (32 : Int32)))] _
      refine XS.bipush X0.here hx rfl (hb hby own_d2_15) ?_
      exact k)
    by_cases hc17 : (p1 ||| (32 : Int32)) < (97 : Int32)
    · have pre3 : ∀ t, own_S p e below s₁ m 31 #[sI p1, sI (p1 ||| (32 : Int32))] [(.int 95), (.int p1)] t → R0 t := fun t k => pre2 t (by
        refine XS.icmpYes X0.here hx rfl (pc0 := 17) (pc' := 28) rfl (hb hby own_d2_17) rfl (tlt hc17).1 (by decide) (by decide) ?_
        show own_S p e below s₁ m 28 #[sI p1, sI (p1 ||| (32 : Int32))] [] _
        refine XS.iloadN X0.here hx rfl (hb hby own_d2_28) rfl ?_
        show own_S p e below s₁ m 29 #[sI p1, sI (p1 ||| (32 : Int32))] [(.int p1)] _
        refine XS.bipush X0.here hx rfl (hb hby own_d2_29) ?_
        exact k)
      by_cases hc31 : p1 = (95 : Int32)
      · have pre4 : ∀ t, own_S p e below s₁ m 39 #[sI p1, sI (p1 ||| (32 : Int32))] [(.int 1)] t → R0 t := fun t k => pre3 t (by
          refine XS.icmpNo X0.here hx rfl (hb hby own_d2_31) rfl (teq hc31).2 ?_
          show own_S p e below s₁ m 34 #[sI p1, sI (p1 ||| (32 : Int32))] [] _
          refine XS.iconst X0.here hx rfl (hb hby own_d2_34) ?_
          show own_S p e below s₁ m 35 #[sI p1, sI (p1 ||| (32 : Int32))] [(.int 1)] _
          refine XS.goto X0.here hx rfl (pc0 := 35) (pc' := 39) rfl (hb hby own_d2_35) (by decide) (by decide) ?_
          exact k)
        obtain ⟨fs, hr, hrun, hended, hW, hsame⟩ := X0.leave (v := some (.int 1)) (fun h => by rw [Bd.returns] at h; cases h)
        refine ⟨_, _, cast (congrFun hR0 _) (pre4 _ (retN X0 hx (t := .boolean) Bd.returns (by simp) (hb hby own_d2_39) hr)), hrun, hended, _, _, rfl, ?_, ⟨_, rfl⟩, hW, hsame.mono (by decide) (by decide)⟩
        show own_Q2 Z _ h0 n0 _ s₁.heap _
        rw [e0]
        exact ⟨(by rw [own_e, if_pos (by (simp only [Int32.lt_iff_toInt_lt, ← Int32.toInt_inj, Int32.reduceToInt] at hc4 hc17 hc31; omega))]), N0, rfl⟩
      · have pre5 : ∀ t, own_S p e below s₁ m 39 #[sI p1, sI (p1 ||| (32 : Int32))] [(.int 0)] t → R0 t := fun t k => pre3 t (by
          refine XS.icmpYes X0.here hx rfl (pc0 := 31) (pc' := 38) rfl (hb hby own_d2_31) rfl (feq hc31).2 (by decide) (by decide) ?_
          show own_S p e below s₁ m 38 #[sI p1, sI (p1 ||| (32 : Int32))] [] _
          refine XS.iconst X0.here hx rfl (hb hby own_d2_38) ?_
          exact k)
        obtain ⟨fs, hr, hrun, hended, hW, hsame⟩ := X0.leave (v := some (.int 0)) (fun h => by rw [Bd.returns] at h; cases h)
        refine ⟨_, _, cast (congrFun hR0 _) (pre5 _ (retN X0 hx (t := .boolean) Bd.returns (by simp) (hb hby own_d2_39) hr)), hrun, hended, _, _, rfl, ?_, ⟨_, rfl⟩, hW, hsame.mono (by decide) (by decide)⟩
        show own_Q2 Z _ h0 n0 _ s₁.heap _
        rw [e0]
        exact ⟨(by rw [own_e, if_neg (by (simp only [Int32.lt_iff_toInt_lt, ← Int32.toInt_inj, Int32.reduceToInt] at hc4 hc17 hc31; omega))]), N0, rfl⟩
    · have pre6 : ∀ t, own_S p e below s₁ m 23 #[sI p1, sI (p1 ||| (32 : Int32))] [(.int 122), (.int (p1 ||| (32 : Int32)))] t → R0 t := fun t k => pre2 t (by
        refine XS.icmpNo X0.here hx rfl (hb hby own_d2_17) rfl (flt hc17).1 ?_
        show own_S p e below s₁ m 20 #[sI p1, sI (p1 ||| (32 : Int32))] [] _
        refine XS.iloadN X0.here hx rfl (hb hby own_d2_20) rfl ?_
        show own_S p e below s₁ m 21 #[sI p1, sI (p1 ||| (32 : Int32))] [(.int (p1 ||| (32 : Int32)))] _
        refine XS.bipush X0.here hx rfl (hb hby own_d2_21) ?_
        exact k)
      by_cases hc23 : (122 : Int32) < (p1 ||| (32 : Int32))
      · have pre7 : ∀ t, own_S p e below s₁ m 31 #[sI p1, sI (p1 ||| (32 : Int32))] [(.int 95), (.int p1)] t → R0 t := fun t k => pre6 t (by
          refine XS.icmpYes X0.here hx rfl (pc0 := 23) (pc' := 28) rfl (hb hby own_d2_23) rfl (tlt hc23).2.2.1 (by decide) (by decide) ?_
          show own_S p e below s₁ m 28 #[sI p1, sI (p1 ||| (32 : Int32))] [] _
          refine XS.iloadN X0.here hx rfl (hb hby own_d2_28) rfl ?_
          show own_S p e below s₁ m 29 #[sI p1, sI (p1 ||| (32 : Int32))] [(.int p1)] _
          refine XS.bipush X0.here hx rfl (hb hby own_d2_29) ?_
          exact k)
        by_cases hc31 : p1 = (95 : Int32)
        · have pre8 : ∀ t, own_S p e below s₁ m 39 #[sI p1, sI (p1 ||| (32 : Int32))] [(.int 1)] t → R0 t := fun t k => pre7 t (by
            refine XS.icmpNo X0.here hx rfl (hb hby own_d2_31) rfl (teq hc31).2 ?_
            show own_S p e below s₁ m 34 #[sI p1, sI (p1 ||| (32 : Int32))] [] _
            refine XS.iconst X0.here hx rfl (hb hby own_d2_34) ?_
            show own_S p e below s₁ m 35 #[sI p1, sI (p1 ||| (32 : Int32))] [(.int 1)] _
            refine XS.goto X0.here hx rfl (pc0 := 35) (pc' := 39) rfl (hb hby own_d2_35) (by decide) (by decide) ?_
            exact k)
          obtain ⟨fs, hr, hrun, hended, hW, hsame⟩ := X0.leave (v := some (.int 1)) (fun h => by rw [Bd.returns] at h; cases h)
          refine ⟨_, _, cast (congrFun hR0 _) (pre8 _ (retN X0 hx (t := .boolean) Bd.returns (by simp) (hb hby own_d2_39) hr)), hrun, hended, _, _, rfl, ?_, ⟨_, rfl⟩, hW, hsame.mono (by decide) (by decide)⟩
          show own_Q2 Z _ h0 n0 _ s₁.heap _
          rw [e0]
          exact ⟨(by rw [own_e, if_pos (by (simp only [Int32.lt_iff_toInt_lt, ← Int32.toInt_inj, Int32.reduceToInt] at hc4 hc17 hc23 hc31; omega))]), N0, rfl⟩
        · have pre9 : ∀ t, own_S p e below s₁ m 39 #[sI p1, sI (p1 ||| (32 : Int32))] [(.int 0)] t → R0 t := fun t k => pre7 t (by
            refine XS.icmpYes X0.here hx rfl (pc0 := 31) (pc' := 38) rfl (hb hby own_d2_31) rfl (feq hc31).2 (by decide) (by decide) ?_
            show own_S p e below s₁ m 38 #[sI p1, sI (p1 ||| (32 : Int32))] [] _
            refine XS.iconst X0.here hx rfl (hb hby own_d2_38) ?_
            exact k)
          obtain ⟨fs, hr, hrun, hended, hW, hsame⟩ := X0.leave (v := some (.int 0)) (fun h => by rw [Bd.returns] at h; cases h)
          refine ⟨_, _, cast (congrFun hR0 _) (pre9 _ (retN X0 hx (t := .boolean) Bd.returns (by simp) (hb hby own_d2_39) hr)), hrun, hended, _, _, rfl, ?_, ⟨_, rfl⟩, hW, hsame.mono (by decide) (by decide)⟩
          show own_Q2 Z _ h0 n0 _ s₁.heap _
          rw [e0]
          exact ⟨(by rw [own_e, if_neg (by (simp only [Int32.lt_iff_toInt_lt, ← Int32.toInt_inj, Int32.reduceToInt] at hc4 hc17 hc23 hc31; omega))]), N0, rfl⟩
      · have pre10 : ∀ t, own_S p e below s₁ m 27 #[sI p1, sI (p1 ||| (32 : Int32))] [(.int 1)] t → R0 t := fun t k => pre6 t (by
          refine XS.icmpNo X0.here hx rfl (hb hby own_d2_23) rfl (flt hc23).2.2.1 ?_
          show own_S p e below s₁ m 26 #[sI p1, sI (p1 ||| (32 : Int32))] [] _
          refine XS.iconst X0.here hx rfl (hb hby own_d2_26) ?_
          exact k)
        obtain ⟨fs, hr, hrun, hended, hW, hsame⟩ := X0.leave (v := some (.int 1)) (fun h => by rw [Bd.returns] at h; cases h)
        refine ⟨_, _, cast (congrFun hR0 _) (pre10 _ (retN X0 hx (t := .boolean) Bd.returns (by simp) (hb hby own_d2_27) hr)), hrun, hended, _, _, rfl, ?_, ⟨_, rfl⟩, hW, hsame.mono (by decide) (by decide)⟩
        show own_Q2 Z _ h0 n0 _ s₁.heap _
        rw [e0]
        exact ⟨(by rw [own_e, if_pos (by (simp only [Int32.lt_iff_toInt_lt, ← Int32.toInt_inj, Int32.reduceToInt] at hc4 hc17 hc23; omega))]), N0, rfl⟩
  · have pre11 : ∀ t, own_S p e below s₁ m 8 #[sI p1, sU] [(.int 1)] t → R0 t := fun t k => pre1 t (by
      refine XS.icmpNo X0.here hx rfl (hb hby own_d2_4) rfl (flt hc4).1 ?_
      show own_S p e below s₁ m 7 #[sI p1, sU] [] _
      refine XS.iconst X0.here hx rfl (hb hby own_d2_7) ?_
      exact k)
    obtain ⟨fs, hr, hrun, hended, hW, hsame⟩ := X0.leave (v := some (.int 1)) (fun h => by rw [Bd.returns] at h; cases h)
    refine ⟨_, _, cast (congrFun hR0 _) (pre11 _ (retN X0 hx (t := .boolean) Bd.returns (by simp) (hb hby own_d2_8) hr)), hrun, hended, _, _, rfl, ?_, ⟨_, rfl⟩, hW, hsame.mono (by decide) (by decide)⟩
    show own_Q2 Z _ h0 n0 _ s₁.heap _
    rw [e0]
    exact ⟨(by rw [own_e, if_pos (by (simp only [Int32.lt_iff_toInt_lt, ← Int32.toInt_inj, Int32.reduceToInt] at hc4; omega))]), N0, rfl⟩
theorem own_pd_0 : parseMethodDescriptor "(C)Z" = some ⟨[.char], some .boolean⟩ := by decide +kernel
theorem own_ef_0 (m : MethodId) (x0 : Int32) : entryFrame m #[(.int x0)] maxLocals = mkF m 0 #[sI x0, .unset] [] := by first | (simp [entryFrame, mkF, argsToLocals, Value.category, maxLocals]; done) | rfl
def own_Q0 (Z : State) (p1 : Int32) (h0 : Heap) (n0 : Nat) (v : Option Value) (h : Heap) (L : List Loc) : Prop := v = some (.int 1) ∧ Fr n0 L
set_option maxRecDepth 65536 in
set_option maxHeartbeats 40000000 in
theorem own_rm0 (l : Launch) (Z : State) (a0 : Array Value) (hw : ∀ d ∈ tables_1, d.before a0 Z = true) (ws : List Jvm.Cond) (p1 : Int32) (h0 : Heap) (n0 : Nat) (Z0 : n0 ≤ h0.size)  :
    MetFree l x (head1 (Jvm.Cond.code x code maxLocals ret :: ws) room_1) (fun a U => a = #[(.int p1)] ∧ Z.Warmed39 U.vm ∧ U.heap = h0) (fun _ _ _ _ _ => True) (fun _ U o U' => ∃ v L, o = .returned v ∧ own_Q0 Z p1 h0 n0 v U'.heap L ∧ FrameEnd U o U' L room_1.cells room_1.slots) := by
  refine MetFree.of_bodySF (plainFor_of_name own_pn_1) hisR ?_
  intro p e s m args below meth c s₁ Bd hml0 hP hK
  obtain ⟨rfl, hZ, hh⟩ := hP
  have hw0 := hw _ (List.mem_of_getElem? (i := 0) rfl)
  have hw1 := hw _ (List.mem_of_getElem? (i := 1) rfl)
  have hw2 := hw _ (List.mem_of_getElem? (i := 2) rfl)
  have hw3 := hw _ (List.mem_of_getElem? (i := 3) rfl)
  have hw4 := hw _ (List.mem_of_getElem? (i := 4) rfl)
  have hw5 := hw _ (List.mem_of_getElem? (i := 5) rfl)
  have hw6 := hw _ (List.mem_of_getElem? (i := 6) rfl)
  have hw7 := hw _ (List.mem_of_getElem? (i := 7) rfl)
  have hx := Bd.exec
  have hby := Bd.bytes
  have hml : c.maxLocals = 2 := hml0
  have hown : s.vm.findClass "com/example/querylathe/querylathe/sql/IdentifierStartsPlainWordPinLaw" = some m.cls := findClass_of_methodNamed Bd.named
  have hnm := (name_of_methodNamed Bd.named Bd.method).1
  have X0 : Stand p l e room_1 s m #[(.int p1)] below meth c s₁ [] 0 0 := Stand.of_body Bd
  have e0 : s₁.heap = h0 := by rw [← hh, Bd.state]; rfl
  have N0 := Fr.nil n0
  obtain ⟨R0, hR0⟩ : ∃ R : State → Prop, R = fun t => Steps p.tables e below (s₁.setTop (entryFrame m #[(.int p1)] maxLocals)) t := ⟨_, rfl⟩
  have pre0 : ∀ t, Steps p.tables e below (s₁.setTop (mkF m 0 #[sI p1, sU] [])) t → R0 t := fun t k => by rw [hR0]; exact castTop (own_ef_0 m p1) k
  have pre1 : ∀ t, own_S p e below s₁ m 2 #[sI p1, sU] [(.int (p1.toUInt32.toUInt16.toUInt32.toInt32))] t → R0 t := fun t k => pre0 t (by
    refine XS.iloadN X0.here hx rfl (hb hby at_0) rfl ?_
    show own_S p e below s₁ m 1 #[sI p1, sU] [(.int p1)] _
    refine XS.i2c X0.here hx rfl (hb hby at_1) rfl ?_
    exact k)
  obtain ⟨v1, hv1⟩ : ∃ z : Int32, z = (p1.toUInt32.toUInt16.toUInt32.toInt32) := ⟨_, rfl⟩
  have pre2 : ∀ t, own_S p e below s₁ m 2 #[sI p1, sU] [(.int v1)] t → R0 t := fun t k => pre1 t (by subst hv1; exact k)
  have b1 := c_i2c p1
  rw [← hv1] at b1
  have pre3 : ∀ t, own_S p e below s₁ m 4 #[sI p1, sI v1] [(.int v1)] t → R0 t := fun t k => pre2 t (by
    refine XS.istoreN X0.here hx rfl (hb hby at_2) rfl (l' := #[sI p1, sI v1]) rfl ?_
    show own_S p e below s₁ m 3 #[sI p1, sI v1] [] _
    refine XS.iloadN X0.here hx rfl (hb hby at_3) rfl ?_
    exact k)
  obtain ⟨_, _, ⟨T4, L4, k4, n4⟩, -, X4, ⟨Lc4, hQ4, l4, y4, z4⟩, st4⟩ := Jvm.LawKit.callS X0 hx (y := own_y0) hown (mvT hZ hw0) (mvT hZ hw1) (mvT hZ hw2) (mvT hZ hw3) (by decide) (backOf (W := 0) (own_rm1 l Z a0 hw [] v1 h0 n0 Z0 ) hZ hw3 hw2 (by decide) (by decide)) (g := (mkF m 4 #[sI p1, sI v1] [(.int v1)])) rfl (by rw [hml]; rfl) (argsL := [(.int v1)]) (rest := []) (lenOf own_pd_0 rfl) rfl (by show 2 * 0 + _ ≤ _; exact Nat.le_of_eq rfl) (hb hby at_4) (fun _ _ => ⟨rfl, e0, (by decide : 0 + 0 ≤ _), (by decide : 0 + 0 ≤ _)⟩)
  dsimp only [Pt.U, Pt.locs, Pt.cells, Pt.slots] at X4 l4 y4 z4 st4 hQ4
  subst l4 y4 z4
  obtain ⟨rfl, N4q, eh4⟩ := hQ4
  have N4 := Fr.app N0 N4q
  have pre5 : ∀ t, own_S p e below T4 m 8 #[sI p1, sI v1] [(.int v1), (.int (own_s v1))] t → R0 t := fun t k => pre3 t (by
    refine st4 _ ?_
    show own_S p e below T4 m 7 #[sI p1, sI v1] [(.int (own_s v1))] _
    refine XS.iloadN X4.here hx rfl (hb hby at_7) rfl ?_
    exact k)
  obtain ⟨_, _, ⟨T6, L6, k6, n6⟩, -, X6, ⟨Lc6, hQ6, l6, y6, z6⟩, st6⟩ := Jvm.LawKit.callS X4 hx (y := own_y1) hown (mvT hZ hw4) (mvT hZ hw5) (mvT hZ hw6) (mvT hZ hw7) (by decide) (backOf (W := 1) (own_rm2 l Z a0 hw [] v1 h0 n0 Z0 ) hZ hw7 hw6 (by decide) (by decide)) (g := (mkF m 8 #[sI p1, sI v1] [(.int v1), (.int (own_s v1))])) rfl (by rw [hml]; rfl) (argsL := [(.int v1)]) (rest := [(.int (own_s v1))]) (lenOf own_pd_0 rfl) rfl (by show 2 * 0 + _ ≤ _; exact Nat.le_of_eq rfl) (hb hby at_8) (fun _ _ => ⟨rfl, eh4, (by decide : 0 + 0 ≤ _), (by decide : 0 + 0 ≤ _)⟩)
  dsimp only [Pt.U, Pt.locs, Pt.cells, Pt.slots] at X6 l6 y6 z6 st6 hQ6
  subst l6 y6 z6
  obtain ⟨rfl, N6q, eh6⟩ := hQ6
  have N6 := Fr.app N4 N6q
  have pre7 : ∀ t, own_S p e below T6 m 11 #[sI p1, sI v1] [(.int (own_e v1)), (.int (own_s v1))] t → R0 t := fun t k => pre5 t (by
    refine st6 _ ?_
    exact k)
  have hc8 : (own_s v1) = (own_e v1) := own_same v1 b1.2.1
  have pre9 : ∀ t, own_S p e below T6 m 19 #[sI p1, sI v1] [(.int 1)] t → R0 t := fun t k => pre7 t (by
    refine XS.icmpNo X6.here hx rfl (hb hby at_11) rfl (teq hc8).2 ?_
    show own_S p e below T6 m 14 #[sI p1, sI v1] [] _
    refine XS.iconst X6.here hx rfl (hb hby at_14) ?_
    show own_S p e below T6 m 15 #[sI p1, sI v1] [(.int 1)] _
    refine XS.goto X6.here hx rfl (pc0 := 15) (pc' := 19) rfl (hb hby at_15) (by decide) (by decide) ?_
    exact k)
  obtain ⟨fs, hr, hrun, hended, hW, hsame⟩ := X6.leave (v := some (.int 1)) (fun h => by rw [Bd.returns] at h; cases h)
  refine ⟨_, _, cast (congrFun hR0 _) (pre9 _ (retN X6 hx (t := .boolean) Bd.returns (by simp) (hb hby at_19) hr)), hrun, hended, _, _, rfl, ?_, ⟨_, rfl⟩, hW, hsame.mono (by decide) (by decide)⟩
  show own_Q0 Z _ h0 n0 _ T6.heap _
  rw [eh6]
  exact ⟨rfl, N6⟩
set_option maxRecDepth 65536 in
set_option maxHeartbeats 40000000 in
theorem own_comes {Post : Tables → Env → Array Value → State → Outcome → State → Prop} (hpost : ∀ tb e args s v u, (limb_1_1.after args s (.returned v) u = true ∧ limb_1_2.after args s (.returned v) u = true ∧ True) → FrameEnd s (.returned v) u (Jvm.fieldLocs frame_1_writes args s ++ Jvm.arrayLocs frame_1_arrays args s ++ Jvm.staticLocs frame_1_statics s) 0 0 → Post tb e args s (.returned v) u) :
    ArmFor flags0 classFile x code maxLocals ret World_1 tables_1 room_1 Calls_1 rest_1 Pre_1 Post := by
  intro l hfl _ _ p e ha hc hk s m args below hf hA hF happ hP
  obtain ⟨hcalls, hrest, hpre⟩ := hP
  obtain ⟨-, -, -, hnamed, -, -, -, hat⟩ := (Spec.applies_iff hf).mp happ
  obtain ⟨hg, hn⟩ := and_e (Cond.before_iff.mp (show (Jvm.Cond.and given_1 narrow_1).before args s = true from hpre))
  obtain ⟨hcount, hg0⟩ := and_e hg
  have ha0 := hg0
  obtain ⟨w0, rfl⟩ : ∃ w0 : Value, args = #[w0] := by
    have hs : args.size = 1 := by simpa [Cond.value, given_1] using hcount
    obtain ⟨L⟩ := args
    match L, hs with
    | [w0], _ => exact ⟨w0, rfl⟩
  have hw := fun d (hd : d ∈ tables_1) => atoms_spec (ws := Jvm.Cond.code x code maxLocals ret :: tables_1) hat d (List.mem_cons_of_mem _ hd)
  have hfit : Fit s := fun {y c} hc i hi => by
    obtain ⟨ha, rfl⟩ := Array.getElem?_eq_some_iff.mp hc
    have q := List.all_eq_true.mp ((Array.all_eq_true_iff_forall_mem.mp hF) _ (Array.getElem_mem ha)) i (List.mem_range.mpr hi)
    simpa [Array.getElem?_eq_getElem hi] using q
  obtain ⟨i0, ei0⟩ := is_v ha0
  obtain rfl : w0 = (.int i0) := Option.some.inj ei0
  obtain ⟨n, o, h1, h2, h3, _, L, rfl, ⟨rfl, N⟩, hq⟩ := own_rm0 l s _ hw tables_1 i0  s.heap s.heap.size (Nat.le_refl _)  p e ha hc hk s m _ below hf ((Spec.applies_iff_loose hf).mp happ).1 ⟨rfl, State.Warmed39.refl s, rfl⟩ trivial
  refine ⟨n, _, h1, h2, h3, hpost _ _ _ _ _ _ ⟨Cond.after_iff.mpr rfl, Cond.after_iff.mpr (eq_i res_at (Term.int_eval (1)) rfl), trivial⟩ ⟨hq.1, hq.2.1, (hq.2.2.sift fun y hy => Or.inr (N y hy)).mono (by decide) (by decide)⟩⟩
theorem main_1_1 : Claimed_1_1 := own_comes fun _ _ _ _ _ _ h hF => ⟨h.1, hF⟩
theorem main_1_2 : Claimed_1_2 := own_comes fun _ _ _ _ _ _ h hF => ⟨h.2.1, hF⟩
end Jvm.Pilot.@@N@@
namespace Jvm.Pilot.@@N@@
open Jvm Jvm.ClassFile Sem Op Lib Jvm.Free Jvm.Stand Jvm.Pilot.@@N@@.Jvm.D
/-! MADE BY PROGRAM (witnessworld.py) out of the Statement's table words and the real class files: 9 classes; the members and pool entries that the words name. The judged class is class 1, her method 2. -/
namespace start1
open Jvm.ClassFile
def u (s : String) : CpInfo := .utf8 (stringToUtf16 s)
/-- a pool by its gaps: so many unusable entries, then the entry; so many at the end -/
def gap : Nat → List CpInfo → List CpInfo
  | 0, r => r
  | n + 1, r => .unusable :: gap n r
def poolList (es : List (Nat × CpInfo)) (last : Nat) : List CpInfo := es.foldr (fun e r => gap e.1 (e.2 :: r)) (gap last [])
def pool (es : List (Nat × CpInfo)) (last : Nat) : Array CpInfo := ⟨poolList es last⟩
def fileOf (pool : Array CpInfo) (this : Nat) (attrs : Array Attribute := #[]) (ms : Array MethodInfo := #[]) (fl : Nat := 33) (sup : Nat := 0) (ifs : Array Nat := #[]) (fds : Array FieldInfo := #[]) : ClassFile where
  minorVersion := 0
  majorVersion := 65
  constantPool := pool
  accessFlags := fl
  thisClass := this
  superClass := sup
  interfaces := ifs
  fields := fds
  methods := ms
  attributes := attrs
def plain (name : String) (sup : Option ClassId) : Class where
  name := name
  kind := .ordinary
  loader := none
  accessFlags := 33
  super := sup
  interfaces := #[]
  cf := none
  fields := #[]
  methods := #[]
  instanceTypes := #[]
  staticTypes := #[]
  resolved := #[]
  callSites := []
  init := .initialized
  statics := none
  mirror := none

def pool0 : Array CpInfo := pool [(5, u "<init>"), (0, u "()V"), (1, .class_ 10), (1, u "java/lang/Object")] 113

def k0m0 : Method := { name := "<init>", desc := "()V", sig := { parameters := [], returnType := none }, accessFlags := 1, code := none }
/-- java/lang/Object -/
def k0 : Class := { plain "java/lang/Object" none with
  accessFlags := 33
  interfaces := #[]
  cf := some (fileOf pool0 8 #[] #[{ accessFlags := 1, nameIndex := 5, descriptorIndex := 6, attributes := #[] }] 33 0 #[] #[])
  fields := #[]
  methods := #[k0m0]
  instanceTypes := #[]
  staticTypes := #[]
  resolved := Array.replicate 124 none
  statics := none }

def pool1 : Array CpInfo := pool [(2, .class_ 4), (1, u "java/lang/Object"), (0, u "<init>"), (0, u "()V"), (0, .methodref 8 9), (0, .class_ 10), (0, .nameAndType 11 12), (0, u "com/example/querylathe/querylathe/sql/Identifier"), (0, u "startsPlainWord"), (0, u "(C)Z"), (0, .methodref 14 15), (0, .class_ 16), (0, .nameAndType 17 12), (0, u "com/example/querylathe/querylathe/sql/IdentifierStartsPlainWordPinLaw"), (0, u "expected"), (3, u "law"), (0, u "(I)Z")] 2

def k1m0 : Method := { name := "<init>", desc := "()V", sig := { parameters := [], returnType := none }, accessFlags := 2, code := none }
def k1c1 : Code := { maxStack := 2, maxLocals := 2, code := method_2_code, exceptionTable := #[], attributes := #[] }
def k1m1 : Method := { name := "expected", desc := "(C)Z", sig := { parameters := [.char], returnType := some .boolean }, accessFlags := 10, code := some k1c1 }
def k1c2 : Code := { maxStack := 2, maxLocals := 2, code := code, exceptionTable := #[], attributes := #[] }
def k1m2 : Method := { name := "law", desc := "(I)Z", sig := { parameters := [.int], returnType := some .boolean }, accessFlags := 9, code := some k1c2 }
/-- com/example/querylathe/querylathe/sql/IdentifierStartsPlainWordPinLaw -/
def k1 : Class := { plain "com/example/querylathe/querylathe/sql/IdentifierStartsPlainWordPinLaw" (some 0) with
  accessFlags := 49
  interfaces := #[]
  cf := some (fileOf pool1 14 #[] #[{ accessFlags := 2, nameIndex := 5, descriptorIndex := 6, attributes := #[] }, { accessFlags := 10, nameIndex := 17, descriptorIndex := 12, attributes := #[] }, { accessFlags := 9, nameIndex := 21, descriptorIndex := 22, attributes := #[] }] 49 2 #[] #[])
  fields := #[]
  methods := #[k1m0, k1m1, k1m2]
  instanceTypes := #[]
  staticTypes := #[]
  resolved := Array.replicate 25 none
  statics := none }

def pool2 : Array CpInfo := pool [(2, .class_ 4), (1, u "java/lang/Object"), (3, .class_ 10), (1, u "com/example/querylathe/querylathe/sql/Identifier"), (0, u "written"), (0, u "Ljava/lang/String;"), (2, u "name"), (6, u "folded"), (64, u "startsPlainWord"), (0, u "(C)Z"), (81, u "BYTE_ORDER"), (0, u "Ljava/util/Comparator;")] 61

def k2c0 : Code := { maxStack := 2, maxLocals := 1, code := prog_85_method_17_code, exceptionTable := #[], attributes := #[] }
def k2m0 : Method := { name := "startsPlainWord", desc := "(C)Z", sig := { parameters := [.char], returnType := some .boolean }, accessFlags := 8, code := some k2c0 }
/-- com/example/querylathe/querylathe/sql/Identifier -/
def k2 : Class := { plain "com/example/querylathe/querylathe/sql/Identifier" (some 0) with
  accessFlags := 49
  interfaces := #[]
  cf := some (fileOf pool2 8 #[] #[{ accessFlags := 8, nameIndex := 87, descriptorIndex := 88, attributes := #[] }] 49 2 #[] #[{ accessFlags := 25, nameIndex := 170, descriptorIndex := 171, attributes := #[] }, { accessFlags := 18, nameIndex := 11, descriptorIndex := 12, attributes := #[] }, { accessFlags := 18, nameIndex := 15, descriptorIndex := 12, attributes := #[] }, { accessFlags := 18, nameIndex := 22, descriptorIndex := 12, attributes := #[] }])
  fields := #[{ name := "BYTE_ORDER", type := (.object "java/util/Comparator"), accessFlags := 25, slot := 0, constantValue := 0 }, { name := "written", type := (.object "java/lang/String"), accessFlags := 18, slot := 0, constantValue := 0 }, { name := "name", type := (.object "java/lang/String"), accessFlags := 18, slot := 1, constantValue := 0 }, { name := "folded", type := (.object "java/lang/String"), accessFlags := 18, slot := 2, constantValue := 0 }]
  methods := #[k2m0]
  instanceTypes := #[(.object "java/lang/String"), (.object "java/lang/String"), (.object "java/lang/String")]
  staticTypes := #[(.object "java/util/Comparator")]
  resolved := Array.replicate 233 none
  statics := none }

def pool3 : Array CpInfo := pool [(1, u "java/lang/Cloneable"), (0, .class_ 1), (0, u "java/lang/Object"), (0, .class_ 3)] 3

/-- java/lang/Cloneable -/
def k3 : Class := { plain "java/lang/Cloneable" (some 0) with
  accessFlags := 1537
  interfaces := #[]
  cf := some (fileOf pool3 2 #[] #[] 1537 4 #[] #[])
  fields := #[]
  methods := #[]
  instanceTypes := #[]
  staticTypes := #[]
  resolved := Array.replicate 8 none
  statics := none }

def pool4 : Array CpInfo := pool [(1, u "java/io/Serializable"), (0, .class_ 1), (0, u "java/lang/Object"), (0, .class_ 3)] 3

/-- java/io/Serializable -/
def k4 : Class := { plain "java/io/Serializable" (some 0) with
  accessFlags := 1537
  interfaces := #[]
  cf := some (fileOf pool4 2 #[] #[] 1537 4 #[] #[])
  fields := #[]
  methods := #[]
  instanceTypes := #[]
  staticTypes := #[]
  resolved := Array.replicate 8 none
  statics := none }

/-- the primitive byte -/
def k5 : Class := { plain "byte" none with kind := .primitive 'B', accessFlags := 0x411 }
/-- [B -/
def k6 : Class := { plain "[B" (some 0) with kind := .array 5 .byte, interfaces := #[3, 4], accessFlags := 1041 }

/-- the primitive int -/
def k7 : Class := { plain "int" none with kind := .primitive 'I', accessFlags := 0x411 }
/-- [I -/
def k8 : Class := { plain "[I" (some 0) with kind := .array 7 .int, interfaces := #[3, 4], accessFlags := 1041 }

def heap : Heap := #[]
def classes : Array Class := #[k0, k1, k2, k3, k4, k5, k6, k7, k8]
def interned : List (Array UInt16 × Addr) := []
def slotsUsed : Nat := 0
def theMethod : MethodId := ⟨1, 2⟩
def args0 : Array Value := #[.int 5]
def aboutOver (below : List Frame) : State where
  vm := { classes := classes, interned := interned.toArray }
  heap := heap
  slotsUsed := slotsUsed
  threads := #[{ frames := .invoking theMethod args0 :: below }]
def below0 : List Frame := [.native { method := ⟨0, 0⟩, args := #[] }]
def about1 : State := aboutOver below0
def p0 : Program := .bare "" "" ""
def e0 : Env := launch0.env 0 0 0
theorem w_frames : about1.frames = Frame.invoking theMethod args0 :: below0 := rfl
set_option maxRecDepth 65536 in
theorem w_args : argsFit about1.vm theMethod args0 = true := by decide +kernel
set_option maxRecDepth 65536 in
theorem w_heap : heapFits about1 = true := by decide +kernel
set_option maxRecDepth 65536 in
theorem w_runnable : about1.curStatus? = some .runnable := by decide +kernel
set_option maxRecDepth 65536 in
theorem w_alone : about1.alone = true := by decide +kernel
set_option maxRecDepth 65536 in
theorem w_named : about1.methodNamed? x = some theMethod := by decide +kernel
set_option maxRecDepth 65536 in
theorem w_hears : about1.hears theMethod below0 = true := by decide +kernel
set_option maxRecDepth 65536 in
theorem w_ripe : about1.ripe theMethod args0 below0 = true := by decide +kernel
theorem w_running : about1.status = .running := rfl
set_option maxRecDepth 65536 in
theorem w_room : about1.hasRoom e0.platform room_1 = true :=
  launch0.hasRoom_least _ room_1 (by decide +kernel) (by decide +kernel) (by decide +kernel) (by decide +kernel) (by decide +kernel) (by decide +kernel)
theorem allAtoms_all (ts : List Jvm.Cond) (a : Array Jvm.Value) (st : Jvm.State) : (allAtoms ts).before a st = ts.all (fun c => c.before a st) := by
  induction ts with
  | nil => rfl
  | cons c t ih =>
    show (Jvm.Cond.and c (allAtoms t)).before a st = _
    rw [Jvm.Cond.before_and, ih, List.all_cons]
def words1 : List Jvm.Cond := Jvm.Cond.code x code maxLocals ret :: tables_1
/-- a 'code' word, met by the world's own term for the bytes: nothing is compared byte by byte -/
theorem code_word {y : MethodName} {bytes : ByteArray} {mx : Nat} {rt : Option FieldType} {a : Array Value} {s : State} {m : MethodId} {meth : Method} {c : Code} (h1 : s.methodNamed? y = some m) (h2 : s.vm.method? m = some meth) (h3 : meth.code = some c) (h4 : c.code = bytes)
    (h5 : (c.maxLocals == mx && c.exceptionTable.isEmpty && decide (c.maxStack ≤ mostOperands) && decide (meth.sig.returnType = rt) && !meth.locks && decide (parseMethodDescriptor y.desc = some meth.sig)) = true) : (Jvm.Cond.code y bytes mx rt).before a s = true := by
  simp only [Bool.and_eq_true, beq_iff_eq, Bool.not_eq_true', decide_eq_true_eq] at h5
  obtain ⟨⟨⟨⟨⟨g1, g2⟩, g3⟩, g4⟩, g5⟩, g6⟩ := h5
  simp [Cond.before, Cond.holds, Cond.value, h1, h2, h3, h4, g1, g2, g3, g4, g5, g6]
def isCode : Jvm.Cond → Bool
  | .code _ _ _ _ => true
  | _ => false
theorem all_split {L : List Jvm.Cond} {P : Jvm.Cond → Bool} (h1 : L.all (fun c => isCode c || P c) = true) (h2 : ∀ c ∈ L.filter isCode, P c = true) : L.all P = true := by
  refine List.all_eq_true.mpr fun c hc => ?_
  have h := List.all_eq_true.mp h1 c hc
  rcases Bool.eq_false_or_eq_true (isCode c) with hi | hi
  · exact h2 c (List.mem_filter.mpr ⟨hc, hi⟩)
  · simpa [hi] using h
set_option maxRecDepth 65536 in
theorem w_c0 : (Jvm.Cond.code x code maxLocals ret).before args0 about1 = true := code_word (m := ⟨1, 2⟩) (meth := k1m2) (c := k1c2) (by decide +kernel) rfl rfl rfl (by decide +kernel)
set_option maxRecDepth 65536 in
theorem w_c1 : (Jvm.Cond.code ({ cls := "com/example/querylathe/querylathe/sql/Identifier", name := "startsPlainWord", desc := "(C)Z" } : Jvm.MethodName) prog_85_method_17_code (1 : Nat) (Option.some Jvm.ClassFile.FieldType.boolean)).before args0 about1 = true := code_word (m := ⟨2, 0⟩) (meth := k2m0) (c := k2c0) (by decide +kernel) rfl rfl rfl (by decide +kernel)
set_option maxRecDepth 65536 in
theorem w_c2 : (Jvm.Cond.code ({ cls := "com/example/querylathe/querylathe/sql/IdentifierStartsPlainWordPinLaw", name := "expected", desc := "(C)Z" } : Jvm.MethodName) method_2_code (2 : Nat) (Option.some Jvm.ClassFile.FieldType.boolean)).before args0 about1 = true := code_word (m := ⟨1, 1⟩) (meth := k1m1) (c := k1c1) (by decide +kernel) rfl rfl rfl (by decide +kernel)
def codes1 : List Jvm.Cond := [Jvm.Cond.code x code maxLocals ret, Jvm.Cond.code ({ cls := "com/example/querylathe/querylathe/sql/Identifier", name := "startsPlainWord", desc := "(C)Z" } : Jvm.MethodName) prog_85_method_17_code (1 : Nat) (Option.some Jvm.ClassFile.FieldType.boolean), Jvm.Cond.code ({ cls := "com/example/querylathe/querylathe/sql/IdentifierStartsPlainWordPinLaw", name := "expected", desc := "(C)Z" } : Jvm.MethodName) method_2_code (2 : Nat) (Option.some Jvm.ClassFile.FieldType.boolean)]
set_option maxRecDepth 65536 in
theorem codes_eq : words1.filter isCode = codes1 := rfl
theorem w_codes : ∀ c ∈ words1.filter isCode, c.before args0 about1 = true := by
  rw [codes_eq]
  intro c hc
  simp only [codes1, List.mem_cons, List.not_mem_nil, or_false] at hc
  rcases hc with rfl | rfl | rfl
  · exact w_c0
  · exact w_c1
  · exact w_c2
set_option maxRecDepth 65536 in
theorem w_t1 : words1.all (fun c => isCode c || c.before args0 about1) = true := by decide +kernel
theorem w_tables : (allAtoms (Jvm.Cond.code x code maxLocals ret :: tables_1)).before args0 about1 = true := by
  rw [allAtoms_all]
  show words1.all (fun c => c.before args0 about1) = true
  refine all_split ?_ w_codes
  rw [w_t1]
set_option maxRecDepth 65536 in
theorem w_case : (Jvm.Cond.and given_1 narrow_1).before args0 about1 = true := by decide +kernel
theorem w_applies : (headSpec (Jvm.Cond.code x code maxLocals ret :: tables_1) room_1).applies x e0.platform about1 = true :=
  (Spec.applies_iff w_frames).mpr ⟨w_running, w_runnable, w_alone, w_named, w_hears, w_ripe, w_room, w_tables⟩
theorem atStart : AtStart classFile x code maxLocals ret World_1 tables_1 room_1 Calls_1 rest_1 Pre_1 launch0 p0 e0 about1 theMethod args0 below0 :=
  ⟨lists_1, trivial, launch0.admits_env _ _ _, launch0.least_env, fairChoices_fair.cas, fairChoices_fair.clock, w_frames, w_args, w_heap, w_applies, trivial, trivial, w_case⟩
end start1
theorem witness_1 : WitnessClaimed_1 := ⟨start1.p0, start1.e0, start1.about1, start1.theMethod, start1.args0, start1.below0, start1.atStart⟩
end Jvm.Pilot.@@N@@
