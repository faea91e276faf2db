import JvmDerived
import JvmDerived.Pilot.@@N@@Statement
import JvmDerived.Pilot.@@N@@Code
set_option linter.unusedVariables false
set_option linter.unusedSimpArgs false
namespace Jvm.Pilot.@@N@@
open Jvm Jvm.ClassFile Sem Op Lib Jvm.Free Jvm.Stand Jvm.LawKit Jvm.RoadKit Bundle Jvm.Pilot.@@N@@.Jvm.D
abbrev sI (x : Int32) : Slot := .val (.int x)
abbrev sJ (x : Int64) : Slot := .val (.long x)
abbrev sR (a : Addr) : Slot := .val (.ref a)
abbrev sN : Slot := .val .null
abbrev sU : Slot := .unset
abbrev sW : Slot := .second
abbrev own_S (p : Program) (e : Env) (below : List Frame) (T : State) (m : MethodId) (pc : Nat) (L : Array Slot) (S : List Value) (t : State) : Prop := Steps p.tables e below (T.setTop (mkF m pc L S)) t
def own_Any (Z : State) (h : Heap) (a : Addr) (ty : FieldType) : Prop := ∃ (k : ClassId) (vs : List Value), Arv Z h a k ty (8 : Int32) vs (.int (0 : Int32)) ∧ vs.length = 8
theorem own_Any.ext {Z : State} {h h' : Heap} {a : Addr} {ty : FieldType} (F : own_Any Z h a ty) (E : Ext h h') : own_Any Z h' a ty := by obtain ⟨k, vs, V, l⟩ := F; exact ⟨k, vs, V.ext E, l⟩
theorem own_Any.other {Z : State} {h h' : Heap} {a b : Addr} {ty : FieldType} {sl : Nat} {v : Value} (F : own_Any Z h b ty) (W : Wr h h' a sl v) (q : b ≠ a) : own_Any Z h' b ty := by obtain ⟨k, vs, V, l⟩ := F; exact ⟨k, vs, V.other W q, l⟩
theorem own_Any.lt {Z : State} {h : Heap} {a : Addr} {ty : FieldType} (F : own_Any Z h a ty) : a < h.size := by obtain ⟨k, vs, V, l⟩ := F; exact V.lt
theorem own_Any_of {Z : State} {h : Heap} {a : Addr} {ty : FieldType} {k : ClassId} {vs : List Value} (V : Arv Z h a k ty (8 : Int32) vs (.int (0 : Int32))) (l : vs.length = 8) : own_Any Z h a ty := ⟨k, vs, V, l⟩
theorem own_Any.get {Z : State} {h : Heap} {a : Addr} {ty : FieldType} (F : own_Any Z h a ty) (hty : ty = .int ∨ ty = .boolean ∨ ty = .byte ∨ ty = .char ∨ ty = .short) (j : Int32) (hj : ¬ j < 0 ∧ j < 8) :
    ∃ (cl : Cell) (x : Int32), Arr Z h a cl ty ∧ cl.slots.size = (8 : Int32).toNatClampNeg ∧ ¬ (j < 0 ∨ cl.slots.size ≤ j.toNatClampNeg) ∧ cl.slots[j.toNatClampNeg]? = some (.int x) := by
  obtain ⟨k, vs, ⟨c, A, q, S, N, H, G⟩, l⟩ := F
  have hin := inb_of S hj
  have hlt : j.toNatClampNeg < c.slots.size := Nat.lt_of_not_le fun y => hin (Or.inr y)
  obtain ⟨x, e⟩ := fit_I (G _ hlt) hty
  exact ⟨c, x, A, S, hin, H.at hin e⟩
theorem own_j8 (j : Int32) (hj : ¬ j < 0 ∧ j < 8) : j.toNatClampNeg < 8 := by
  obtain ⟨h1, h2⟩ := hj
  rw [Int32.lt_iff_toInt_lt] at h1 h2
  have e0 : (0 : Int32).toInt = 0 := by decide
  have e8 : (8 : Int32).toInt = 8 := by decide
  rw [e0] at h1
  rw [e8] at h2
  simp only [Int32.toNatClampNeg]
  omega
theorem own_Any.wr {Z : State} {h h' : Heap} {a : Addr} {ty : FieldType} {v : Value} (F : own_Any Z h a ty) (j : Int32) (hj : ¬ j < 0 ∧ j < 8) (W : Wr h h' a j.toNatClampNeg v) (hv : fits ty v = true) : own_Any Z h' a ty := by
  obtain ⟨k, vs, ⟨c, A, q, S, N, H, G⟩, l⟩ := F
  exact ⟨k, vs.set j.toNatClampNeg v, Arv.set A q S N H G hv W j.toNatClampNeg rfl (by rw [l]; exact own_j8 j hj), by rw [List.length_set]; exact l⟩
def own_Low (q : Addr) (h h' : Heap) : Prop := h.size ≤ h'.size ∧ ∀ (x : Addr) (c : Cell), x < q → h[x]? = some c → h'[x]? = some c
theorem own_Low.refl (q : Addr) (h : Heap) : own_Low q h h := ⟨Nat.le_refl _, fun _ _ _ k => k⟩
theorem own_Low.trans {q : Addr} {h h' h'' : Heap} (L : own_Low q h h') (M : own_Low q h' h'') : own_Low q h h'' := ⟨Nat.le_trans L.1 M.1, fun x c l k => M.2 x c l (L.2 x c l k)⟩
theorem own_Low.ext {q : Addr} {h h' h'' : Heap} (L : own_Low q h h') (E : Ext h' h'') : own_Low q h h'' := ⟨Nat.le_trans L.1 E.1, fun x c l k => E.2 x c (L.2 x c l k)⟩
theorem own_Low.wr {q a : Addr} {h h' h'' : Heap} {sl : Nat} {v : Value} (L : own_Low q h h') (W : Wr h' h'' a sl v) (g : q ≤ a) : own_Low q h h'' :=
  ⟨Nat.le_trans L.1 (Keep.of_wr W).1, fun x c l k => (Keep.of_wr W).2.1 x c (L.2 x c l k) (fun z => by cases List.mem_singleton.mp z; exact absurd l (Nat.not_lt.mpr g))⟩
theorem own_Low.fld {Z : State} {q a : Addr} {h h' : Heap} {C n d : String} {v : Value} (L : own_Low q h h') (F : Fld Z h a C n d v) (l : a < q) : Fld Z h' a C n d v := by
  obtain ⟨cell, cf, k, i, f, h1, r⟩ := F; exact ⟨cell, cf, k, i, f, L.2 a cell l h1, r⟩
theorem own_Low.exa {Z : State} {q a : Addr} {h h' : Heap} {C : String} (L : own_Low q h h') (F : Exa Z h a C) (l : a < q) : Exa Z h' a C := by
  obtain ⟨cell, k, h1, r⟩ := F; exact ⟨cell, k, L.2 a cell l h1, r⟩
def own_QI (Z : State) (h : Heap) (n0 : Nat) (q : Addr) (x0 x1 x2 : Value) (o0 o1 o2 : Int64) (hd tl sz : Int32) : Prop :=
  ∃ (aw ao au ac : Addr) (kw ko : ClassId) (cn : Int32), Exa Z h q "com/example/adlim/adlim/client/WaiterQueue" ∧ Fld Z h q "com/example/adlim/adlim/client/WaiterQueue" "waiters" "[Lcom/example/adlim/adlim/client/Waiter;" (.ref aw) ∧ Fld Z h q "com/example/adlim/adlim/client/WaiterQueue" "orders" "[J" (.ref ao) ∧ Fld Z h q "com/example/adlim/adlim/client/WaiterQueue" "uncounted" "[Z" (.ref au) ∧ Fld Z h q "com/example/adlim/adlim/client/WaiterQueue" "counts" "[I" (.ref ac) ∧ Fld Z h q "com/example/adlim/adlim/client/WaiterQueue" "ceiling" "Lcom/example/adlim/adlim/client/CeilingQueue;" .null ∧ Fld Z h q "com/example/adlim/adlim/client/WaiterQueue" "head" "I" (.int hd) ∧ Fld Z h q "com/example/adlim/adlim/client/WaiterQueue" "tail" "I" (.int tl) ∧ Fld Z h q "com/example/adlim/adlim/client/WaiterQueue" "size" "I" (.int sz) ∧ Fld Z h q "com/example/adlim/adlim/client/WaiterQueue" "counted" "I" (.int cn) ∧
    Arv Z h aw kw (.object "com/example/adlim/adlim/client/Waiter") (8 : Int32) [x0, x1, x2, .null, .null, .null, .null, .null] .null ∧ Ovr Z kw "com/example/adlim/adlim/client/Waiter" ∧ Arv Z h ao ko .long (8 : Int32) [(.long o0), (.long o1), (.long o2), (.long (0 : Int64)), (.long (0 : Int64)), (.long (0 : Int64)), (.long (0 : Int64)), (.long (0 : Int64))] (.long (0 : Int64)) ∧ own_Any Z h au .boolean ∧ own_Any Z h ac .int ∧ q < aw ∧ aw < ao ∧ ao < au ∧ au < ac ∧ n0 ≤ q
theorem own_QI_exa {Z : State} {h : Heap} {n0 : Nat} {q : Addr} {x0 x1 x2 : Value} {o0 o1 o2 : Int64} {hd tl sz : Int32} (Q : own_QI Z h n0 q x0 x1 x2 o0 o1 o2 hd tl sz) : Exa Z h q "com/example/adlim/adlim/client/WaiterQueue" := by obtain ⟨_, _, _, _, _, _, _, E, -⟩ := Q; exact E
theorem own_selp {Z s : State} {a0 args : Array Value} {y : MethodName} {n : Nat} (hZ : Z.Warmed39 s.vm) (wi : (Jvm.Cond.instantiable y.cls n).before a0 Z = true) (wp : (Jvm.Cond.privateMethod y).before a0 Z = true) (wm : (Jvm.Cond.instanceMethod y).before a0 Z = true) (hy : y.cls ≠ "java/lang/invoke/MethodHandle" ∧ y.cls ≠ "java/lang/invoke/VarHandle") : (Jvm.Cond.selects y.cls y y).before args s = true := by
  have wi' : (Jvm.Cond.instantiable y.cls n).before args s = true := mvT hZ wi
  have wm' : (Jvm.Cond.instanceMethod y).before args s = true := mvT hZ wm
  obtain ⟨c, k, h1, h2, h3, h4⟩ := Cond.instantiable_spec wi'
  exact selects_self_of_private h1 h2 (by simp_all) (Cond.privateMethod_at (mvP hZ wp (args := args))) wm' hy
theorem own_base (b o : Int64) (h : o = (b >>> ((2 : Int32) &&& 0x3f).toInt64)) : o < o + (1 : Int64) ∧ o + (1 : Int64) < o + (2 : Int64) ∧ o < o + (2 : Int64) := by
  have e := c_lshr b 2 2 (by decide)
  rw [← h] at e
  have r := rng64 b
  have e1 : (1 : Int64).toInt = 1 := by decide
  have e2 : (2 : Int64).toInt = 2 := by decide
  have a1 := c_ladd o 1
  have a2 := c_ladd o 2
  have r1 := rng64 (o + 1)
  have r2 := rng64 (o + 2)
  rw [e1] at a1
  rw [e2] at a2
  simp only [Int64.lt_iff_toInt_lt]
  omega
theorem own_and3 (x : Int32) : (x &&& (3 : Int32)) = (0 : Int32) ∨ (x &&& (3 : Int32)) = (1 : Int32) ∨ (x &&& (3 : Int32)) = (2 : Int32) ∨ (x &&& (3 : Int32)) = (3 : Int32) := by
  have h := c_and x 3 (by decide)
  have e0 : (0 : Int32).toInt = 0 := by decide
  have e1 : (1 : Int32).toInt = 1 := by decide
  have e2 : (2 : Int32).toInt = 2 := by decide
  have e3 : (3 : Int32).toInt = 3 := by decide
  simp only [← Int32.toInt_inj, e0, e1, e2, e3]
  rw [e3] at h
  omega
theorem own_d2_0 : decode jdk_30_method_1_code 0 = .ok (.aload_n 0, 1) := by decide +kernel
theorem own_d2_1 : decode jdk_30_method_1_code 1 = .ok (.invokespecial 1, 3) := by decide +kernel
theorem own_d2_4 : decode jdk_30_method_1_code 4 = .ok (.return_, 1) := by decide +kernel
theorem own_pn_0 : plainName "java/lang/Record" = true := by first | (simp [plainName, overriddenIn]; done) | decide +kernel
theorem own_ef_2 (m : MethodId) (x0 : Addr) : entryFrame m #[(.ref x0)] 1 = mkF m 0 #[sR x0] [] := by first | (simp [entryFrame, mkF, argsToLocals, Value.category]; done) | rfl
def own_Q2 (Z : State) (a1 : Addr) (h0 : Heap) (n0 : Nat) (v : Option Value) (h : Heap) (L : List Loc) : Prop := v = none ∧ Fr n0 L ∧ h = h0
abbrev own_y0 : MethodName := ⟨"java/lang/Record", "<init>", "()V"⟩
set_option maxRecDepth 65536 in
set_option maxHeartbeats 40000000 in
theorem own_rm2 (l : Launch) (Z : State) (a0 : Array Value) (hw : ∀ d ∈ tables_1, d.before a0 Z = true) (ws : List Jvm.Cond) (a1 : Addr) (h0 : Heap) (n0 : Nat) (Z0 : n0 ≤ h0.size)  :
    MetFree l own_y0 (head1 (Jvm.Cond.code own_y0 jdk_30_method_1_code 1 none :: ws) ({ frames := 1, cells := 0, slots := 0, locals := 12 } : Room)) (fun a U => a = #[(.ref a1)] ∧ Z.Warmed39 U.vm ∧ U.heap = h0) (fun _ _ _ _ _ => True) (fun _ U o U' => ∃ v L, o = .returned v ∧ own_Q2 Z a1 h0 n0 v U'.heap L ∧ FrameEnd U o U' L ({ frames := 1, cells := 0, slots := 0, locals := 12 } : Room).cells ({ frames := 1, cells := 0, slots := 0, locals := 12 } : Room).slots) := by
  refine MetFree.of_bodySF (plainFor_of_name own_pn_0) hisR ?_
  intro p e s m args below meth c s₁ Bd hml0 hP hK
  obtain ⟨rfl, hZ, hh⟩ := hP
  have hw11 := hw _ (List.mem_of_getElem? (i := 11) rfl)
  have hw12 := hw _ (List.mem_of_getElem? (i := 12) rfl)
  have hw13 := hw _ (List.mem_of_getElem? (i := 13) rfl)
  have hx := Bd.exec
  have hby := Bd.bytes
  have hml : c.maxLocals = 1 := hml0
  have hown : s.vm.findClass "java/lang/Record" = some m.cls := findClass_of_methodNamed Bd.named
  have hnm := (name_of_methodNamed Bd.named Bd.method).1
  have X0 : Stand p l e ({ frames := 1, cells := 0, slots := 0, locals := 12 } : Room) s m #[(.ref a1)] below meth c s₁ [] 0 0 := Stand.of_body Bd
  have e0 : s₁.heap = h0 := by rw [← hh, Bd.state]; rfl
  have N0 := Fr.nil n0
  obtain ⟨R0, hR0⟩ : ∃ R : State → Prop, R = fun t => Steps p.tables e below (s₁.setTop (entryFrame m #[(.ref a1)] 1)) t := ⟨_, rfl⟩
  have pre0 : ∀ t, Steps p.tables e below (s₁.setTop (mkF m 0 #[sR a1] [])) t → R0 t := fun t k => by rw [hR0]; exact castTop (own_ef_2 m a1) k
  have pre1 : ∀ t, own_S p e below s₁ m 1 #[sR a1] [(.ref a1)] t → R0 t := fun t k => pre0 t (by
    refine XS.aloadN X0.here hx rfl (hb hby own_d2_0) rfl rfl ?_
    exact k)
  obtain ⟨T2, X2, e2, st2⟩ := initO X0 hx hZ hown hw11 hw12 hw13 e0 (g := (mkF m 1 #[sR a1] [(.ref a1)])) rfl (by rw [hml]; rfl) rfl (hb hby own_d2_1) (by decide) (W := 0) (by show 2 * 0 + _ ≤ _; exact Nat.le_of_eq rfl) (by decide)
  have pre3 : ∀ t, own_S p e below T2 m 4 #[sR a1] [] t → R0 t := fun t k => pre1 t (by
    refine st2 _ ?_
    exact k)
  obtain ⟨fs, hr, hrun, hended, hW, hsame⟩ := X2.leave (v := none) (fun _ => rfl)
  refine ⟨_, _, cast (congrFun hR0 _) (pre3 _ (X2.returnOut hx Bd.returns (hb hby own_d2_4) hr)), hrun, hended, _, _, rfl, ?_, ⟨_, rfl⟩, hW, hsame.mono (by decide) (by decide)⟩
  show own_Q2 Z _ h0 n0 _ T2.heap _
  rw [e2]
  exact ⟨rfl, N0, rfl⟩
theorem own_pd_0 : parseMethodDescriptor "()V" = some ⟨[], none⟩ := by decide +kernel
theorem own_d1_0 : decode prog_62_method_1_code 0 = .ok (.aload_n 0, 1) := by decide +kernel
theorem own_d1_1 : decode prog_62_method_1_code 1 = .ok (.invokespecial 1, 3) := by decide +kernel
theorem own_d1_4 : decode prog_62_method_1_code 4 = .ok (.aload_n 0, 1) := by decide +kernel
theorem own_d1_5 : decode prog_62_method_1_code 5 = .ok (.aload_n 1, 1) := by decide +kernel
theorem own_d1_6 : decode prog_62_method_1_code 6 = .ok (.putfield 7, 3) := by decide +kernel
theorem own_d1_9 : decode prog_62_method_1_code 9 = .ok (.aload_n 0, 1) := by decide +kernel
theorem own_d1_10 : decode prog_62_method_1_code 10 = .ok (.aload_n 2, 1) := by decide +kernel
theorem own_d1_11 : decode prog_62_method_1_code 11 = .ok (.putfield 13, 3) := by decide +kernel
theorem own_d1_14 : decode prog_62_method_1_code 14 = .ok (.aload_n 0, 1) := by decide +kernel
theorem own_d1_15 : decode prog_62_method_1_code 15 = .ok (.lload_n 3, 1) := by decide +kernel
theorem own_d1_16 : decode prog_62_method_1_code 16 = .ok (.putfield 17, 3) := by decide +kernel
theorem own_d1_19 : decode prog_62_method_1_code 19 = .ok (.aload_n 0, 1) := by decide +kernel
theorem own_d1_20 : decode prog_62_method_1_code 20 = .ok (.lload 5, 2) := by decide +kernel
theorem own_d1_22 : decode prog_62_method_1_code 22 = .ok (.putfield 21, 3) := by decide +kernel
theorem own_d1_25 : decode prog_62_method_1_code 25 = .ok (.return_, 1) := by decide +kernel
theorem own_pn_1 : plainName "com/example/adlim/adlim/client/Waiter" = true := by first | (simp [plainName, overriddenIn]; done) | decide +kernel
theorem own_ef_1 (m : MethodId) (x0 : Addr) (x3 : Int64) (x4 : Int64) : entryFrame m #[(.ref x0), .null, .null, (.long x3), (.long x4)] 7 = mkF m 0 #[sR x0, sN, sN, sJ x3, .second, sJ x4, .second] [] := by first | (simp [entryFrame, mkF, argsToLocals, Value.category]; done) | rfl
def own_Q1 (Z : State) (a1 : Addr) (q4 : Int64) (q5 : Int64) (u0 : Value) (u1 : Value) (u2 : Value) (u3 : Value) (h0 : Heap) (n0 : Nat) (v : Option Value) (h : Heap) (L : List Loc) : Prop := v = none ∧ Fr n0 L ∧ Keep h0 h [a1] ∧ Exa Z h a1 "com/example/adlim/adlim/client/Waiter" ∧ Fld Z h a1 "com/example/adlim/adlim/client/Waiter" "future" "Ljava/util/concurrent/CompletableFuture;" .null ∧ Fld Z h a1 "com/example/adlim/adlim/client/Waiter" "demand" "Lcom/example/adlim/adlim/client/Demand;" .null ∧ Fld Z h a1 "com/example/adlim/adlim/client/Waiter" "admitted" "J" (.long q4) ∧ Fld Z h a1 "com/example/adlim/adlim/client/Waiter" "order" "J" (.long q5)
abbrev own_y1 : MethodName := ⟨"com/example/adlim/adlim/client/Waiter", "<init>", "(Ljava/util/concurrent/CompletableFuture;Lcom/example/adlim/adlim/client/Demand;JJ)V"⟩
set_option maxRecDepth 65536 in
set_option maxHeartbeats 40000000 in
theorem own_rm1 (l : Launch) (Z : State) (a0 : Array Value) (hw : ∀ d ∈ tables_1, d.before a0 Z = true) (ws : List Jvm.Cond) (a1 : Addr) (q4 : Int64) (q5 : Int64) (u0 : Value) (u1 : Value) (u2 : Value) (u3 : Value) (h0 : Heap) (n0 : Nat) (Z0 : n0 ≤ h0.size) (E_a1 : Exa Z h0 a1 "com/example/adlim/adlim/client/Waiter") (F_future_a1 : Fld Z h0 a1 "com/example/adlim/adlim/client/Waiter" "future" "Ljava/util/concurrent/CompletableFuture;" u0) (F_demand_a1 : Fld Z h0 a1 "com/example/adlim/adlim/client/Waiter" "demand" "Lcom/example/adlim/adlim/client/Demand;" u1) (F_admitted_a1 : Fld Z h0 a1 "com/example/adlim/adlim/client/Waiter" "admitted" "J" u2) (F_order_a1 : Fld Z h0 a1 "com/example/adlim/adlim/client/Waiter" "order" "J" u3) (g_a1 : n0 ≤ a1) :
    MetFree l own_y1 (head1 (Jvm.Cond.code own_y1 prog_62_method_1_code 7 none :: ws) ({ frames := 2, cells := 0, slots := 0, locals := 24 } : Room)) (fun a U => a = #[(.ref a1), .null, .null, (.long q4), (.long q5)] ∧ Z.Warmed39 U.vm ∧ U.heap = h0) (fun _ _ _ _ _ => True) (fun _ U o U' => ∃ v L, o = .returned v ∧ own_Q1 Z a1 q4 q5 u0 u1 u2 u3 h0 n0 v U'.heap L ∧ FrameEnd U o U' L ({ frames := 2, cells := 0, slots := 0, locals := 24 } : Room).cells ({ frames := 2, cells := 0, slots := 0, locals := 24 } : Room).slots) := by
  refine MetFree.of_bodySF (plainFor_of_name own_pn_1) hisR ?_
  intro p e s m args below meth c s₁ Bd hml0 hP hK
  obtain ⟨rfl, hZ, hh⟩ := hP
  have hw1 := hw _ (List.mem_of_getElem? (i := 1) rfl)
  have hw6 := hw _ (List.mem_of_getElem? (i := 6) rfl)
  have hw7 := hw _ (List.mem_of_getElem? (i := 7) rfl)
  have hw9 := hw _ (List.mem_of_getElem? (i := 9) rfl)
  have hw10 := hw _ (List.mem_of_getElem? (i := 10) rfl)
  have hw14 := hw _ (List.mem_of_getElem? (i := 14) rfl)
  have hw15 := hw _ (List.mem_of_getElem? (i := 15) rfl)
  have hw16 := hw _ (List.mem_of_getElem? (i := 16) rfl)
  have hw17 := hw _ (List.mem_of_getElem? (i := 17) rfl)
  have hw18 := hw _ (List.mem_of_getElem? (i := 18) rfl)
  have hw19 := hw _ (List.mem_of_getElem? (i := 19) rfl)
  have hw20 := hw _ (List.mem_of_getElem? (i := 20) rfl)
  have hw21 := hw _ (List.mem_of_getElem? (i := 21) rfl)
  have hx := Bd.exec
  have hby := Bd.bytes
  have hml : c.maxLocals = 7 := hml0
  have hown : s.vm.findClass "com/example/adlim/adlim/client/Waiter" = some m.cls := findClass_of_methodNamed Bd.named
  have hnm := (name_of_methodNamed Bd.named Bd.method).1
  have X0 : Stand p l e ({ frames := 2, cells := 0, slots := 0, locals := 24 } : Room) s m #[(.ref a1), .null, .null, (.long q4), (.long q5)] below meth c s₁ [] 0 0 := Stand.of_body Bd
  have e0 : s₁.heap = h0 := by rw [← hh, Bd.state]; rfl
  have N0 := Fr.nil n0
  obtain ⟨R0, hR0⟩ : ∃ R : State → Prop, R = fun t => Steps p.tables e below (s₁.setTop (entryFrame m #[(.ref a1), .null, .null, (.long q4), (.long q5)] 7)) t := ⟨_, rfl⟩
  have pre0 : ∀ t, Steps p.tables e below (s₁.setTop (mkF m 0 #[sR a1, sN, sN, sJ q4, sW, sJ q5, sW] [])) t → R0 t := fun t k => by rw [hR0]; exact castTop (own_ef_1 m a1 q4 q5) k
  have pre1 : ∀ t, own_S p e below s₁ m 1 #[sR a1, sN, sN, sJ q4, sW, sJ q5, sW] [(.ref a1)] t → R0 t := fun t k => pre0 t (by
    refine XS.aloadN X0.here hx rfl (hb hby own_d1_0) rfl rfl ?_
    exact k)
  obtain ⟨_, _, ⟨T2, L2, k2, n2⟩, -, X2, ⟨Lc2, hQ2, l2, y2, z2⟩, st2⟩ := X0.specialBack hx (y := own_y0) rfl hown (mvT hZ hw6) (mvT hZ hw7) (mvT hZ hw10) (by decide) (backOf (W := 0) (own_rm2 l Z a0 hw [] a1 h0 n0 Z0 ) hZ hw10 hw9 (by decide) (by decide)) (g := (mkF m 1 #[sR a1, sN, sN, sJ q4, sW, sJ q5, sW] [(.ref a1)])) rfl (by rw [hml]; rfl) (Steps.refl _) (a := a1) (argsL := []) (rest := []) (lenOf own_pd_0 rfl) rfl (by show 2 * 0 + _ ≤ _; exact Nat.le_of_eq rfl) (hb hby own_d1_1) (fun _ _ => ⟨rfl, e0, (by decide : 0 + 0 ≤ _), (by decide : 0 + 0 ≤ _)⟩)
  dsimp only [Pt.U, Pt.locs, Pt.cells, Pt.slots] at X2 l2 y2 z2 st2 hQ2
  subst l2 y2 z2
  obtain ⟨rfl, N2q, eh2⟩ := hQ2
  have N2 := Fr.app N0 N2q
  have pre3 : ∀ t, own_S p e below T2 m 6 #[sR a1, sN, sN, sJ q4, sW, sJ q5, sW] [.null, (.ref a1)] t → R0 t := fun t k => pre1 t (by
    refine st2.trans ?_
    refine XS.aloadN X2.here hx rfl (hb hby own_d1_4) rfl rfl ?_
    refine XS.aloadN X2.here hx rfl (hb hby own_d1_5) rfl rfl ?_
    exact k)
  obtain ⟨T4, h4, X4, e4, W4, st4⟩ := putF X2 hx hZ hown (host := "") (Or.inl hw14) Via.refl eh2 F_future_a1 E_a1 (Or.inr ⟨hw15, rfl, hnm⟩) hw1 (ty := (.object "java/util/concurrent/CompletableFuture")) (by decide) rfl rfl (g := (mkF m 6 #[sR a1, sN, sN, sJ q4, sW, sJ q5, sW] [.null, (.ref a1)])) rfl rfl (hb hby own_d1_6)
  have f5 := Nat.le_trans Z0 (Keep.of_wr W4).1
  have f6 := E_a1.wr W4
  have f7 := F_demand_a1.other W4 (Or.inr (slot_ne (Or.inr hw17) (Or.inr hw15) (by decide) (t := (.object "com/example/adlim/adlim/client/Demand")) (t' := (.object "java/util/concurrent/CompletableFuture")) (by decide) (by decide)))
  have f8 := F_admitted_a1.other W4 (Or.inr (slot_ne (Or.inr hw19) (Or.inr hw15) (by decide) (t := .long) (t' := (.object "java/util/concurrent/CompletableFuture")) (by decide) (by decide)))
  have f9 := F_order_a1.other W4 (Or.inr (slot_ne (Or.inr hw21) (Or.inr hw15) (by decide) (t := .long) (t' := (.object "java/util/concurrent/CompletableFuture")) (by decide) (by decide)))
  have f10 := F_future_a1.same W4
  have N11 := Fr.snoc X4 N2 g_a1
  have K12 : Keep h0 h4 [a1] := (Keep.refl h0 [a1]).wr W4 (Or.inl (List.mem_of_getElem? (i := 0) rfl))
  have pre13 : ∀ t, own_S p e below T4 m 11 #[sR a1, sN, sN, sJ q4, sW, sJ q5, sW] [.null, (.ref a1)] t → R0 t := fun t k => pre3 t (by
    refine st4 _ ?_
    refine XS.aloadN X4.here hx rfl (hb hby own_d1_9) rfl rfl ?_
    refine XS.aloadN X4.here hx rfl (hb hby own_d1_10) rfl rfl ?_
    exact k)
  obtain ⟨T14, h14, X14, e14, W14, st14⟩ := putF X4 hx hZ hown (host := "") (Or.inl hw16) Via.refl e4 f7 f6 (Or.inr ⟨hw17, rfl, hnm⟩) hw1 (ty := (.object "com/example/adlim/adlim/client/Demand")) (by decide) rfl rfl (g := (mkF m 11 #[sR a1, sN, sN, sJ q4, sW, sJ q5, sW] [.null, (.ref a1)])) rfl rfl (hb hby own_d1_11)
  have f15 := Nat.le_trans f5 (Keep.of_wr W14).1
  have f16 := f6.wr W14
  have f17 := f8.other W14 (Or.inr (slot_ne (Or.inr hw19) (Or.inr hw17) (by decide) (t := .long) (t' := (.object "com/example/adlim/adlim/client/Demand")) (by decide) (by decide)))
  have f18 := f9.other W14 (Or.inr (slot_ne (Or.inr hw21) (Or.inr hw17) (by decide) (t := .long) (t' := (.object "com/example/adlim/adlim/client/Demand")) (by decide) (by decide)))
  have f19 := f10.other W14 (Or.inr (slot_ne (Or.inr hw15) (Or.inr hw17) (by decide) (t := (.object "java/util/concurrent/CompletableFuture")) (t' := (.object "com/example/adlim/adlim/client/Demand")) (by decide) (by decide)))
  have f20 := f7.same W14
  have N21 := Fr.snoc X14 N11 g_a1
  have K22 : Keep h0 h14 [a1] := K12.wr W14 (Or.inl (List.mem_of_getElem? (i := 0) rfl))
  have pre23 : ∀ t, own_S p e below T14 m 16 #[sR a1, sN, sN, sJ q4, sW, sJ q5, sW] [(.long q4), (.ref a1)] t → R0 t := fun t k => pre13 t (by
    refine st14 _ ?_
    refine XS.aloadN X14.here hx rfl (hb hby own_d1_14) rfl rfl ?_
    refine XS.lloadN X14.here hx rfl (hb hby own_d1_15) rfl ?_
    exact k)
  obtain ⟨T24, h24, X24, e24, W24, st24⟩ := putF X14 hx hZ hown (host := "") (Or.inl hw18) Via.refl e14 f17 f16 (Or.inr ⟨hw19, rfl, hnm⟩) hw1 (ty := .long) (by decide) rfl rfl (g := (mkF m 16 #[sR a1, sN, sN, sJ q4, sW, sJ q5, sW] [(.long q4), (.ref a1)])) rfl rfl (hb hby own_d1_16)
  have f25 := Nat.le_trans f15 (Keep.of_wr W24).1
  have f26 := f16.wr W24
  have f27 := f18.other W24 (Or.inr (slot_ne (Or.inr hw21) (Or.inr hw19) (by decide) (t := .long) (t' := .long) (by decide) (by decide)))
  have f28 := f19.other W24 (Or.inr (slot_ne (Or.inr hw15) (Or.inr hw19) (by decide) (t := (.object "java/util/concurrent/CompletableFuture")) (t' := .long) (by decide) (by decide)))
  have f29 := f20.other W24 (Or.inr (slot_ne (Or.inr hw17) (Or.inr hw19) (by decide) (t := (.object "com/example/adlim/adlim/client/Demand")) (t' := .long) (by decide) (by decide)))
  have f30 := f17.same W24
  have N31 := Fr.snoc X24 N21 g_a1
  have K32 : Keep h0 h24 [a1] := K22.wr W24 (Or.inl (List.mem_of_getElem? (i := 0) rfl))
  have pre33 : ∀ t, own_S p e below T24 m 22 #[sR a1, sN, sN, sJ q4, sW, sJ q5, sW] [(.long q5), (.ref a1)] t → R0 t := fun t k => pre23 t (by
    refine st24 _ ?_
    refine XS.aloadN X24.here hx rfl (hb hby own_d1_19) rfl rfl ?_
    refine XS.lload X24.here hx rfl (hb hby own_d1_20) rfl ?_
    exact k)
  obtain ⟨T34, h34, X34, e34, W34, st34⟩ := putF X24 hx hZ hown (host := "") (Or.inl hw20) Via.refl e24 f27 f26 (Or.inr ⟨hw21, rfl, hnm⟩) hw1 (ty := .long) (by decide) rfl rfl (g := (mkF m 22 #[sR a1, sN, sN, sJ q4, sW, sJ q5, sW] [(.long q5), (.ref a1)])) rfl rfl (hb hby own_d1_22)
  have f35 := Nat.le_trans f25 (Keep.of_wr W34).1
  have f36 := f26.wr W34
  have f37 := f28.other W34 (Or.inr (slot_ne (Or.inr hw15) (Or.inr hw21) (by decide) (t := (.object "java/util/concurrent/CompletableFuture")) (t' := .long) (by decide) (by decide)))
  have f38 := f29.other W34 (Or.inr (slot_ne (Or.inr hw17) (Or.inr hw21) (by decide) (t := (.object "com/example/adlim/adlim/client/Demand")) (t' := .long) (by decide) (by decide)))
  have f39 := f30.other W34 (Or.inr (slot_ne (Or.inr hw19) (Or.inr hw21) (by decide) (t := .long) (t' := .long) (by decide) (by decide)))
  have f40 := f27.same W34
  have N41 := Fr.snoc X34 N31 g_a1
  have K42 : Keep h0 h34 [a1] := K32.wr W34 (Or.inl (List.mem_of_getElem? (i := 0) rfl))
  have pre43 : ∀ t, own_S p e below T34 m 25 #[sR a1, sN, sN, sJ q4, sW, sJ q5, sW] [] t → R0 t := fun t k => pre33 t (by
    refine st34 _ ?_
    exact k)
  obtain ⟨fs, hr, hrun, hended, hW, hsame⟩ := X34.leave (v := none) (fun _ => rfl)
  refine ⟨_, _, cast (congrFun hR0 _) (pre43 _ (X34.returnOut hx Bd.returns (hb hby own_d1_25) hr)), hrun, hended, _, _, rfl, ?_, ⟨_, rfl⟩, hW, hsame.mono (by decide) (by decide)⟩
  show own_Q1 Z _ _ _ _ _ _ _ h0 n0 _ T34.heap _
  rw [e34]
  exact ⟨rfl, N41, K42, f36, f37, f38, f39, f40⟩
theorem own_d9_0 : decode prog_62_method_8_code 0 = .ok (.aload_n 0, 1) := by decide +kernel
theorem own_d9_1 : decode prog_62_method_8_code 1 = .ok (.getfield 21, 3) := by decide +kernel
theorem own_d9_4 : decode prog_62_method_8_code 4 = .ok (.lreturn, 1) := by decide +kernel
theorem own_ef_9 (m : MethodId) (x0 : Addr) : entryFrame m #[(.ref x0)] 1 = mkF m 0 #[sR x0] [] := by first | (simp [entryFrame, mkF, argsToLocals, Value.category]; done) | rfl
def own_Q9 (Z : State) (a1 : Addr) (w1 : Int64) (h0 : Heap) (n0 : Nat) (v : Option Value) (h : Heap) (L : List Loc) : Prop := v = some (.long w1) ∧ Fr n0 L ∧ h = h0
abbrev own_y2 : MethodName := ⟨"com/example/adlim/adlim/client/Waiter", "order", "()J"⟩
set_option maxRecDepth 65536 in
set_option maxHeartbeats 40000000 in
theorem own_rm9 (l : Launch) (Z : State) (a0 : Array Value) (hw : ∀ d ∈ tables_1, d.before a0 Z = true) (ws : List Jvm.Cond) (a1 : Addr) (w1 : Int64) (h0 : Heap) (n0 : Nat) (Z0 : n0 ≤ h0.size) (F_order_a1 : Fld Z h0 a1 "com/example/adlim/adlim/client/Waiter" "order" "J" (.long w1)) :
    MetFree l own_y2 (head1 (Jvm.Cond.code own_y2 prog_62_method_8_code 1 (some .long) :: ws) ({ frames := 0, cells := 0, slots := 0, locals := 0 } : Room)) (fun a U => a = #[(.ref a1)] ∧ Z.Warmed39 U.vm ∧ U.heap = h0) (fun _ _ _ _ _ => True) (fun _ U o U' => ∃ v L, o = .returned v ∧ own_Q9 Z a1 w1 h0 n0 v U'.heap L ∧ FrameEnd U o U' L ({ frames := 0, cells := 0, slots := 0, locals := 0 } : Room).cells ({ frames := 0, cells := 0, slots := 0, locals := 0 } : Room).slots) := by
  refine MetFree.of_bodySF (plainFor_of_name own_pn_1) hisR ?_
  intro p e s m args below meth c s₁ Bd hml0 hP hK
  obtain ⟨rfl, hZ, hh⟩ := hP
  have hw20 := hw _ (List.mem_of_getElem? (i := 20) rfl)
  have hx := Bd.exec
  have hby := Bd.bytes
  have hml : c.maxLocals = 1 := hml0
  have hown : s.vm.findClass "com/example/adlim/adlim/client/Waiter" = some m.cls := findClass_of_methodNamed Bd.named
  have hnm := (name_of_methodNamed Bd.named Bd.method).1
  have X0 : Stand p l e ({ frames := 0, cells := 0, slots := 0, locals := 0 } : Room) s m #[(.ref a1)] below meth c s₁ [] 0 0 := Stand.of_body Bd
  have e0 : s₁.heap = h0 := by rw [← hh, Bd.state]; rfl
  have N0 := Fr.nil n0
  obtain ⟨R0, hR0⟩ : ∃ R : State → Prop, R = fun t => Steps p.tables e below (s₁.setTop (entryFrame m #[(.ref a1)] 1)) t := ⟨_, rfl⟩
  have pre0 : ∀ t, Steps p.tables e below (s₁.setTop (mkF m 0 #[sR a1] [])) t → R0 t := fun t k => by rw [hR0]; exact castTop (own_ef_9 m a1) k
  have pre1 : ∀ t, own_S p e below s₁ m 1 #[sR a1] [(.ref a1)] t → R0 t := fun t k => pre0 t (by
    refine XS.aloadN X0.here hx rfl (hb hby own_d9_0) rfl rfl ?_
    exact k)
  obtain ⟨T2, X2, e2, st2⟩ := getF X0 hx hZ hown (host := "") (Or.inl hw20) Via.refl e0 F_order_a1 (g := (mkF m 1 #[sR a1] [(.ref a1)])) rfl rfl (hb hby own_d9_1)
  have pre3 : ∀ t, own_S p e below T2 m 4 #[sR a1] [(.long w1)] t → R0 t := fun t k => pre1 t (by
    refine st2 _ ?_
    exact k)
  obtain ⟨fs, hr, hrun, hended, hW, hsame⟩ := X2.leave (v := some (.long w1)) (fun h => by rw [Bd.returns] at h; cases h)
  refine ⟨_, _, cast (congrFun hR0 _) (pre3 _ (retOut X2 hx Bd.returns rfl (Or.inr (Or.inl ⟨rfl, rfl, _, rfl⟩)) (hb hby own_d9_4) hr)), hrun, hended, _, _, rfl, ?_, ⟨_, rfl⟩, hW, hsame.mono (by decide) (by decide)⟩
  show own_Q9 Z _ _ h0 n0 _ T2.heap _
  rw [e2]
  exact ⟨rfl, N0, rfl⟩
theorem own_d4_0 : decode prog_63_method_2_code 0 = .ok (.aload_n 0, 1) := by decide +kernel
theorem own_d4_1 : decode prog_63_method_2_code 1 = .ok (.invokespecial 7, 3) := by decide +kernel
theorem own_d4_4 : decode prog_63_method_2_code 4 = .ok (.aload_n 0, 1) := by decide +kernel
theorem own_d4_5 : decode prog_63_method_2_code 5 = .ok (.bipush 8, 2) := by decide +kernel
theorem own_d4_7 : decode prog_63_method_2_code 7 = .ok (.anewarray 12, 3) := by decide +kernel
theorem own_d4_10 : decode prog_63_method_2_code 10 = .ok (.putfield 14, 3) := by decide +kernel
theorem own_d4_13 : decode prog_63_method_2_code 13 = .ok (.aload_n 0, 1) := by decide +kernel
theorem own_d4_14 : decode prog_63_method_2_code 14 = .ok (.bipush 8, 2) := by decide +kernel
theorem own_d4_16 : decode prog_63_method_2_code 16 = .ok (.newarray .long, 2) := by decide +kernel
theorem own_d4_18 : decode prog_63_method_2_code 18 = .ok (.putfield 18, 3) := by decide +kernel
theorem own_d4_21 : decode prog_63_method_2_code 21 = .ok (.aload_n 0, 1) := by decide +kernel
theorem own_d4_22 : decode prog_63_method_2_code 22 = .ok (.bipush 8, 2) := by decide +kernel
theorem own_d4_24 : decode prog_63_method_2_code 24 = .ok (.newarray .boolean, 2) := by decide +kernel
theorem own_d4_26 : decode prog_63_method_2_code 26 = .ok (.putfield 22, 3) := by decide +kernel
theorem own_d4_29 : decode prog_63_method_2_code 29 = .ok (.aload_n 0, 1) := by decide +kernel
theorem own_d4_30 : decode prog_63_method_2_code 30 = .ok (.bipush 8, 2) := by decide +kernel
theorem own_d4_32 : decode prog_63_method_2_code 32 = .ok (.newarray .int, 2) := by decide +kernel
theorem own_d4_34 : decode prog_63_method_2_code 34 = .ok (.putfield 26, 3) := by decide +kernel
theorem own_d4_37 : decode prog_63_method_2_code 37 = .ok (.aload_n 0, 1) := by decide +kernel
theorem own_d4_38 : decode prog_63_method_2_code 38 = .ok (.aload_n 1, 1) := by decide +kernel
theorem own_d4_39 : decode prog_63_method_2_code 39 = .ok (.putfield 30, 3) := by decide +kernel
theorem own_d4_42 : decode prog_63_method_2_code 42 = .ok (.return_, 1) := by decide +kernel
theorem own_pn_2 : plainName "com/example/adlim/adlim/client/WaiterQueue" = true := by first | (simp [plainName, overriddenIn]; done) | decide +kernel
theorem own_ef_4 (m : MethodId) (x0 : Addr) : entryFrame m #[(.ref x0), .null] 2 = mkF m 0 #[sR x0, sN] [] := by first | (simp [entryFrame, mkF, argsToLocals, Value.category]; done) | rfl
def own_Q4 (Z : State) (a1 : Addr) (h0 : Heap) (n0 : Nat) (v : Option Value) (h : Heap) (L : List Loc) : Prop := v = none ∧ Fr n0 L ∧ own_Low a1 h0 h ∧ own_QI Z h n0 a1 .null .null .null (0 : Int64) (0 : Int64) (0 : Int64) (0 : Int32) (0 : Int32) (0 : Int32)
abbrev own_y3 : MethodName := ⟨"com/example/adlim/adlim/client/WaiterQueue", "<init>", "(Lcom/example/adlim/adlim/client/CeilingQueue;)V"⟩
set_option maxRecDepth 65536 in
set_option maxHeartbeats 40000000 in
theorem own_rm4 (l : Launch) (Z : State) (a0 : Array Value) (hw : ∀ d ∈ tables_1, d.before a0 Z = true) (ws : List Jvm.Cond) (a1 : Addr) (h0 : Heap) (n0 : Nat) (Z0 : n0 ≤ h0.size) (E_a1 : Exa Z h0 a1 "com/example/adlim/adlim/client/WaiterQueue") (F_waiters_a1 : Fld Z h0 a1 "com/example/adlim/adlim/client/WaiterQueue" "waiters" "[Lcom/example/adlim/adlim/client/Waiter;" .null) (F_orders_a1 : Fld Z h0 a1 "com/example/adlim/adlim/client/WaiterQueue" "orders" "[J" .null) (F_uncounted_a1 : Fld Z h0 a1 "com/example/adlim/adlim/client/WaiterQueue" "uncounted" "[Z" .null) (F_counts_a1 : Fld Z h0 a1 "com/example/adlim/adlim/client/WaiterQueue" "counts" "[I" .null) (F_ceiling_a1 : Fld Z h0 a1 "com/example/adlim/adlim/client/WaiterQueue" "ceiling" "Lcom/example/adlim/adlim/client/CeilingQueue;" .null) (F_head_a1 : Fld Z h0 a1 "com/example/adlim/adlim/client/WaiterQueue" "head" "I" (.int 0)) (F_tail_a1 : Fld Z h0 a1 "com/example/adlim/adlim/client/WaiterQueue" "tail" "I" (.int 0)) (F_size_a1 : Fld Z h0 a1 "com/example/adlim/adlim/client/WaiterQueue" "size" "I" (.int 0)) (F_counted_a1 : Fld Z h0 a1 "com/example/adlim/adlim/client/WaiterQueue" "counted" "I" (.int 0)) (g_a1 : n0 ≤ a1) :
    MetFree l own_y3 (head1 (Jvm.Cond.code own_y3 prog_63_method_2_code 2 none :: ws) ({ frames := 1, cells := 4, slots := 32, locals := 12 } : Room)) (fun a U => a = #[(.ref a1), .null] ∧ Z.Warmed39 U.vm ∧ U.heap = h0) (fun _ _ _ _ _ => True) (fun _ U o U' => ∃ v L, o = .returned v ∧ own_Q4 Z a1 h0 n0 v U'.heap L ∧ FrameEnd U o U' L ({ frames := 1, cells := 4, slots := 32, locals := 12 } : Room).cells ({ frames := 1, cells := 4, slots := 32, locals := 12 } : Room).slots) := by
  refine MetFree.of_bodySF (plainFor_of_name own_pn_2) hisR ?_
  intro p e s m args below meth c s₁ Bd hml0 hP hK
  obtain ⟨rfl, hZ, hh⟩ := hP
  have hw12 := hw _ (List.mem_of_getElem? (i := 12) rfl)
  have hw13 := hw _ (List.mem_of_getElem? (i := 13) rfl)
  have hw24 := hw _ (List.mem_of_getElem? (i := 24) rfl)
  have hw29 := hw _ (List.mem_of_getElem? (i := 29) rfl)
  have hw30 := hw _ (List.mem_of_getElem? (i := 30) rfl)
  have hw31 := hw _ (List.mem_of_getElem? (i := 31) rfl)
  have hw32 := hw _ (List.mem_of_getElem? (i := 32) rfl)
  have hw33 := hw _ (List.mem_of_getElem? (i := 33) rfl)
  have hw34 := hw _ (List.mem_of_getElem? (i := 34) rfl)
  have hw35 := hw _ (List.mem_of_getElem? (i := 35) rfl)
  have hw36 := hw _ (List.mem_of_getElem? (i := 36) rfl)
  have hw37 := hw _ (List.mem_of_getElem? (i := 37) rfl)
  have hw38 := hw _ (List.mem_of_getElem? (i := 38) rfl)
  have hw39 := hw _ (List.mem_of_getElem? (i := 39) rfl)
  have hw40 := hw _ (List.mem_of_getElem? (i := 40) rfl)
  have hw41 := hw _ (List.mem_of_getElem? (i := 41) rfl)
  have hw42 := hw _ (List.mem_of_getElem? (i := 42) rfl)
  have hw43 := hw _ (List.mem_of_getElem? (i := 43) rfl)
  have hw44 := hw _ (List.mem_of_getElem? (i := 44) rfl)
  have hw55 := hw _ (List.mem_of_getElem? (i := 55) rfl)
  have hw67 := hw _ (List.mem_of_getElem? (i := 67) rfl)
  have hw75 := hw _ (List.mem_of_getElem? (i := 75) rfl)
  have hw81 := hw _ (List.mem_of_getElem? (i := 81) rfl)
  have hx := Bd.exec
  have hby := Bd.bytes
  have hml : c.maxLocals = 2 := hml0
  have hown : s.vm.findClass "com/example/adlim/adlim/client/WaiterQueue" = some m.cls := findClass_of_methodNamed Bd.named
  have hnm := (name_of_methodNamed Bd.named Bd.method).1
  have X0 : Stand p l e ({ frames := 1, cells := 4, slots := 32, locals := 12 } : Room) s m #[(.ref a1), .null] below meth c s₁ [] 0 0 := Stand.of_body Bd
  have e0 : s₁.heap = h0 := by rw [← hh, Bd.state]; rfl
  have N0 := Fr.nil n0
  obtain ⟨R0, hR0⟩ : ∃ R : State → Prop, R = fun t => Steps p.tables e below (s₁.setTop (entryFrame m #[(.ref a1), .null] 2)) t := ⟨_, rfl⟩
  have pre0 : ∀ t, Steps p.tables e below (s₁.setTop (mkF m 0 #[sR a1, sN] [])) t → R0 t := fun t k => by rw [hR0]; exact castTop (own_ef_4 m a1) k
  have f1 : own_Low a1 h0 h0 := own_Low.refl _ _
  have pre2 : ∀ t, own_S p e below s₁ m 1 #[sR a1, sN] [(.ref a1)] t → R0 t := fun t k => pre0 t (by
    refine XS.aloadN X0.here hx rfl (hb hby own_d4_0) rfl rfl ?_
    exact k)
  obtain ⟨T3, X3, e3, st3⟩ := initO X0 hx hZ hown hw29 hw12 hw13 e0 (g := (mkF m 1 #[sR a1, sN] [(.ref a1)])) rfl (by rw [hml]; rfl) rfl (hb hby own_d4_1) (by decide) (W := 0) (by show 2 * 0 + _ ≤ _; exact Nat.le_of_eq rfl) (by decide)
  have pre4 : ∀ t, own_S p e below T3 m 7 #[sR a1, sN] [(.int 8), (.ref a1)] t → R0 t := fun t k => pre2 t (by
    refine st3 _ ?_
    refine XS.aloadN X3.here hx rfl (hb hby own_d4_4) rfl rfl ?_
    refine XS.bipush X3.here hx rfl (hb hby own_d4_5) ?_
    exact k)
  obtain ⟨T5, h5, k5, X5, e5, E5, A5, O5, st5⟩ := newR X3 hx hZ hown hw30 hw31 e3 (g := (mkF m 7 #[sR a1, sN] [(.int 8), (.ref a1)])) rfl (hb hby own_d4_7) rfl (by decide) (cap := 8) (by decide) (by decide) (by decide) (by decide)
  obtain ⟨b5, g5⟩ : ∃ z, z = h0.size := ⟨_, rfl⟩
  rw [← g5] at A5 st5
  have lne6 : a1 < b5 := Nat.lt_of_lt_of_le E_a1.lt (Nat.le_of_eq g5.symm)
  have ne6 : a1 ≠ b5 := Nat.ne_of_lt lne6
  have g_b5 : n0 ≤ b5 := Nat.le_trans Z0 (Nat.le_of_eq g5.symm)
  have f7 := Nat.le_trans Z0 E5.1
  have f8 := E_a1.ext E5
  have f9 := F_waiters_a1.ext E5
  have f10 := F_orders_a1.ext E5
  have f11 := F_uncounted_a1.ext E5
  have f12 := F_counts_a1.ext E5
  have f13 := F_ceiling_a1.ext E5
  have f14 := F_head_a1.ext E5
  have f15 := F_tail_a1.ext E5
  have f16 := F_size_a1.ext E5
  have f17 := F_counted_a1.ext E5
  have f18 := f1.ext E5
  have V19 : Arv Z h5 b5 k5 (.object "com/example/adlim/adlim/client/Waiter") (8 : Int32) [.null, .null, .null, .null, .null, .null, .null, .null] .null := (Arv.new A5 (by decide)).pad (pad_rep [] .null 8)
  have pre20 : ∀ t, own_S p e below T5 m 10 #[sR a1, sN] [(.ref b5), (.ref a1)] t → R0 t := fun t k => pre4 t (by
    refine st5 _ ?_
    exact k)
  obtain ⟨T21, h21, X21, e21, W21, st21⟩ := putF X5 hx hZ hown (host := "") (Or.inl hw32) Via.refl e5 f9 f8 (Or.inl hw33) hw24 (ty := (.array (.object "com/example/adlim/adlim/client/Waiter"))) (by decide) rfl rfl (g := (mkF m 10 #[sR a1, sN] [(.ref b5), (.ref a1)])) rfl rfl (hb hby own_d4_10)
  have f22 := Nat.le_trans f7 (Keep.of_wr W21).1
  have f23 := f8.wr W21
  have f24 := f10.other W21 (Or.inr (slot_ne (Or.inl hw36) (Or.inl hw33) (by decide) (t := (.array .long)) (t' := (.array (.object "com/example/adlim/adlim/client/Waiter"))) (by decide) (by decide)))
  have f25 := f11.other W21 (Or.inr (slot_ne (Or.inl hw39) (Or.inl hw33) (by decide) (t := (.array .boolean)) (t' := (.array (.object "com/example/adlim/adlim/client/Waiter"))) (by decide) (by decide)))
  have f26 := f12.other W21 (Or.inr (slot_ne (Or.inl hw42) (Or.inl hw33) (by decide) (t := (.array .int)) (t' := (.array (.object "com/example/adlim/adlim/client/Waiter"))) (by decide) (by decide)))
  have f27 := f13.other W21 (Or.inr (slot_ne (Or.inr hw44) (Or.inl hw33) (by decide) (t := (.object "com/example/adlim/adlim/client/CeilingQueue")) (t' := (.array (.object "com/example/adlim/adlim/client/Waiter"))) (by decide) (by decide)))
  have f28 := f14.other W21 (Or.inr (slot_ne (Or.inl hw75) (Or.inl hw33) (by decide) (t := .int) (t' := (.array (.object "com/example/adlim/adlim/client/Waiter"))) (by decide) (by decide)))
  have f29 := f15.other W21 (Or.inr (slot_ne (Or.inl hw67) (Or.inl hw33) (by decide) (t := .int) (t' := (.array (.object "com/example/adlim/adlim/client/Waiter"))) (by decide) (by decide)))
  have f30 := f16.other W21 (Or.inr (slot_ne (Or.inl hw55) (Or.inl hw33) (by decide) (t := .int) (t' := (.array (.object "com/example/adlim/adlim/client/Waiter"))) (by decide) (by decide)))
  have f31 := f17.other W21 (Or.inr (slot_ne (Or.inl hw81) (Or.inl hw33) (by decide) (t := .int) (t' := (.array (.object "com/example/adlim/adlim/client/Waiter"))) (by decide) (by decide)))
  have f32 := V19.other W21 (Ne.symm ne6)
  have f33 : own_Low a1 h0 h21 := f18.wr W21 (Nat.le_refl _)
  have f34 := f9.same W21
  have N35 := Fr.snoc X21 N0 g_a1
  have pre36 : ∀ t, own_S p e below T21 m 16 #[sR a1, sN] [(.int 8), (.ref a1)] t → R0 t := fun t k => pre20 t (by
    refine st21 _ ?_
    refine XS.aloadN X21.here hx rfl (hb hby own_d4_13) rfl rfl ?_
    refine XS.bipush X21.here hx rfl (hb hby own_d4_14) ?_
    exact k)
  obtain ⟨T37, h37, k37, X37, e37, E37, A37, st37⟩ := newP (aty := .long) X21 hx hZ hw34 e21 (g := (mkF m 16 #[sR a1, sN] [(.int 8), (.ref a1)])) rfl (hb hby own_d4_16) rfl (by decide) (cap := 8) (by decide) (by decide) (by decide) (by decide)
  obtain ⟨b37, g37⟩ : ∃ z, z = h21.size := ⟨_, rfl⟩
  rw [← g37] at A37 st37
  have lne38 : a1 < b37 := Nat.lt_of_lt_of_le f23.lt (Nat.le_of_eq g37.symm)
  have ne38 : a1 ≠ b37 := Nat.ne_of_lt lne38
  have lne39 : b5 < b37 := Nat.lt_of_lt_of_le f32.lt (Nat.le_of_eq g37.symm)
  have ne39 : b5 ≠ b37 := Nat.ne_of_lt lne39
  have g_b37 : n0 ≤ b37 := Nat.le_trans f22 (Nat.le_of_eq g37.symm)
  have f40 := Nat.le_trans f22 E37.1
  have f41 := f23.ext E37
  have f42 := f24.ext E37
  have f43 := f25.ext E37
  have f44 := f26.ext E37
  have f45 := f27.ext E37
  have f46 := f28.ext E37
  have f47 := f29.ext E37
  have f48 := f30.ext E37
  have f49 := f31.ext E37
  have f50 := f32.ext E37
  have f51 := f33.ext E37
  have f52 := f34.ext E37
  have V53 : Arv Z h37 b37 k37 .long (8 : Int32) [(.long 0), (.long 0), (.long 0), (.long 0), (.long 0), (.long 0), (.long 0), (.long 0)] (.long 0) := (Arv.new A37 (by decide)).pad (pad_rep [] (.long 0) 8)
  have pre54 : ∀ t, own_S p e below T37 m 18 #[sR a1, sN] [(.ref b37), (.ref a1)] t → R0 t := fun t k => pre36 t (by
    refine st37 _ ?_
    exact k)
  obtain ⟨T55, h55, X55, e55, W55, st55⟩ := putF X37 hx hZ hown (host := "") (Or.inl hw35) Via.refl e37 f42 f41 (Or.inl hw36) hw24 (ty := (.array .long)) (by decide) rfl rfl (g := (mkF m 18 #[sR a1, sN] [(.ref b37), (.ref a1)])) rfl rfl (hb hby own_d4_18)
  have f56 := Nat.le_trans f40 (Keep.of_wr W55).1
  have f57 := f41.wr W55
  have f58 := f43.other W55 (Or.inr (slot_ne (Or.inl hw39) (Or.inl hw36) (by decide) (t := (.array .boolean)) (t' := (.array .long)) (by decide) (by decide)))
  have f59 := f44.other W55 (Or.inr (slot_ne (Or.inl hw42) (Or.inl hw36) (by decide) (t := (.array .int)) (t' := (.array .long)) (by decide) (by decide)))
  have f60 := f45.other W55 (Or.inr (slot_ne (Or.inr hw44) (Or.inl hw36) (by decide) (t := (.object "com/example/adlim/adlim/client/CeilingQueue")) (t' := (.array .long)) (by decide) (by decide)))
  have f61 := f46.other W55 (Or.inr (slot_ne (Or.inl hw75) (Or.inl hw36) (by decide) (t := .int) (t' := (.array .long)) (by decide) (by decide)))
  have f62 := f47.other W55 (Or.inr (slot_ne (Or.inl hw67) (Or.inl hw36) (by decide) (t := .int) (t' := (.array .long)) (by decide) (by decide)))
  have f63 := f48.other W55 (Or.inr (slot_ne (Or.inl hw55) (Or.inl hw36) (by decide) (t := .int) (t' := (.array .long)) (by decide) (by decide)))
  have f64 := f49.other W55 (Or.inr (slot_ne (Or.inl hw81) (Or.inl hw36) (by decide) (t := .int) (t' := (.array .long)) (by decide) (by decide)))
  have f65 := f50.other W55 (Ne.symm ne6)
  have f66 := f52.other W55 (Or.inr (slot_ne (Or.inl hw33) (Or.inl hw36) (by decide) (t := (.array (.object "com/example/adlim/adlim/client/Waiter"))) (t' := (.array .long)) (by decide) (by decide)))
  have f67 := V53.other W55 (Ne.symm ne38)
  have f68 : own_Low a1 h0 h55 := f51.wr W55 (Nat.le_refl _)
  have f69 := f42.same W55
  have N70 := Fr.snoc X55 N35 g_a1
  have pre71 : ∀ t, own_S p e below T55 m 24 #[sR a1, sN] [(.int 8), (.ref a1)] t → R0 t := fun t k => pre54 t (by
    refine st55 _ ?_
    refine XS.aloadN X55.here hx rfl (hb hby own_d4_21) rfl rfl ?_
    refine XS.bipush X55.here hx rfl (hb hby own_d4_22) ?_
    exact k)
  obtain ⟨T72, h72, k72, X72, e72, E72, A72, st72⟩ := newP (aty := .boolean) X55 hx hZ hw37 e55 (g := (mkF m 24 #[sR a1, sN] [(.int 8), (.ref a1)])) rfl (hb hby own_d4_24) rfl (by decide) (cap := 8) (by decide) (by decide) (by decide) (by decide)
  obtain ⟨b72, g72⟩ : ∃ z, z = h55.size := ⟨_, rfl⟩
  rw [← g72] at A72 st72
  have lne73 : a1 < b72 := Nat.lt_of_lt_of_le f57.lt (Nat.le_of_eq g72.symm)
  have ne73 : a1 ≠ b72 := Nat.ne_of_lt lne73
  have lne74 : b5 < b72 := Nat.lt_of_lt_of_le f65.lt (Nat.le_of_eq g72.symm)
  have ne74 : b5 ≠ b72 := Nat.ne_of_lt lne74
  have lne75 : b37 < b72 := Nat.lt_of_lt_of_le f67.lt (Nat.le_of_eq g72.symm)
  have ne75 : b37 ≠ b72 := Nat.ne_of_lt lne75
  have g_b72 : n0 ≤ b72 := Nat.le_trans f56 (Nat.le_of_eq g72.symm)
  have f76 := Nat.le_trans f56 E72.1
  have f77 := f57.ext E72
  have f78 := f58.ext E72
  have f79 := f59.ext E72
  have f80 := f60.ext E72
  have f81 := f61.ext E72
  have f82 := f62.ext E72
  have f83 := f63.ext E72
  have f84 := f64.ext E72
  have f85 := f65.ext E72
  have f86 := f66.ext E72
  have f87 := f67.ext E72
  have f88 := f68.ext E72
  have f89 := f69.ext E72
  have V90 : Arv Z h72 b72 k72 .boolean (8 : Int32) [(.int 0), (.int 0), (.int 0), (.int 0), (.int 0), (.int 0), (.int 0), (.int 0)] (.int 0) := (Arv.new A72 (by decide)).pad (pad_rep [] (.int 0) 8)
  have pre91 : ∀ t, own_S p e below T72 m 26 #[sR a1, sN] [(.ref b72), (.ref a1)] t → R0 t := fun t k => pre71 t (by
    refine st72 _ ?_
    exact k)
  obtain ⟨T92, h92, X92, e92, W92, st92⟩ := putF X72 hx hZ hown (host := "") (Or.inl hw38) Via.refl e72 f78 f77 (Or.inl hw39) hw24 (ty := (.array .boolean)) (by decide) rfl rfl (g := (mkF m 26 #[sR a1, sN] [(.ref b72), (.ref a1)])) rfl rfl (hb hby own_d4_26)
  have f93 := Nat.le_trans f76 (Keep.of_wr W92).1
  have f94 := f77.wr W92
  have f95 := f79.other W92 (Or.inr (slot_ne (Or.inl hw42) (Or.inl hw39) (by decide) (t := (.array .int)) (t' := (.array .boolean)) (by decide) (by decide)))
  have f96 := f80.other W92 (Or.inr (slot_ne (Or.inr hw44) (Or.inl hw39) (by decide) (t := (.object "com/example/adlim/adlim/client/CeilingQueue")) (t' := (.array .boolean)) (by decide) (by decide)))
  have f97 := f81.other W92 (Or.inr (slot_ne (Or.inl hw75) (Or.inl hw39) (by decide) (t := .int) (t' := (.array .boolean)) (by decide) (by decide)))
  have f98 := f82.other W92 (Or.inr (slot_ne (Or.inl hw67) (Or.inl hw39) (by decide) (t := .int) (t' := (.array .boolean)) (by decide) (by decide)))
  have f99 := f83.other W92 (Or.inr (slot_ne (Or.inl hw55) (Or.inl hw39) (by decide) (t := .int) (t' := (.array .boolean)) (by decide) (by decide)))
  have f100 := f84.other W92 (Or.inr (slot_ne (Or.inl hw81) (Or.inl hw39) (by decide) (t := .int) (t' := (.array .boolean)) (by decide) (by decide)))
  have f101 := f85.other W92 (Ne.symm ne6)
  have f102 := f86.other W92 (Or.inr (slot_ne (Or.inl hw33) (Or.inl hw39) (by decide) (t := (.array (.object "com/example/adlim/adlim/client/Waiter"))) (t' := (.array .boolean)) (by decide) (by decide)))
  have f103 := f87.other W92 (Ne.symm ne38)
  have f104 := f89.other W92 (Or.inr (slot_ne (Or.inl hw36) (Or.inl hw39) (by decide) (t := (.array .long)) (t' := (.array .boolean)) (by decide) (by decide)))
  have f105 := V90.other W92 (Ne.symm ne73)
  have f106 : own_Low a1 h0 h92 := f88.wr W92 (Nat.le_refl _)
  have f107 := f78.same W92
  have N108 := Fr.snoc X92 N70 g_a1
  have pre109 : ∀ t, own_S p e below T92 m 32 #[sR a1, sN] [(.int 8), (.ref a1)] t → R0 t := fun t k => pre91 t (by
    refine st92 _ ?_
    refine XS.aloadN X92.here hx rfl (hb hby own_d4_29) rfl rfl ?_
    refine XS.bipush X92.here hx rfl (hb hby own_d4_30) ?_
    exact k)
  obtain ⟨T110, h110, k110, X110, e110, E110, A110, st110⟩ := newP (aty := .int) X92 hx hZ hw40 e92 (g := (mkF m 32 #[sR a1, sN] [(.int 8), (.ref a1)])) rfl (hb hby own_d4_32) rfl (by decide) (cap := 8) (by decide) (by decide) (by decide) (by decide)
  obtain ⟨b110, g110⟩ : ∃ z, z = h92.size := ⟨_, rfl⟩
  rw [← g110] at A110 st110
  have lne111 : a1 < b110 := Nat.lt_of_lt_of_le f94.lt (Nat.le_of_eq g110.symm)
  have ne111 : a1 ≠ b110 := Nat.ne_of_lt lne111
  have lne112 : b5 < b110 := Nat.lt_of_lt_of_le f101.lt (Nat.le_of_eq g110.symm)
  have ne112 : b5 ≠ b110 := Nat.ne_of_lt lne112
  have lne113 : b37 < b110 := Nat.lt_of_lt_of_le f103.lt (Nat.le_of_eq g110.symm)
  have ne113 : b37 ≠ b110 := Nat.ne_of_lt lne113
  have lne114 : b72 < b110 := Nat.lt_of_lt_of_le f105.lt (Nat.le_of_eq g110.symm)
  have ne114 : b72 ≠ b110 := Nat.ne_of_lt lne114
  have g_b110 : n0 ≤ b110 := Nat.le_trans f93 (Nat.le_of_eq g110.symm)
  have f115 := Nat.le_trans f93 E110.1
  have f116 := f94.ext E110
  have f117 := f95.ext E110
  have f118 := f96.ext E110
  have f119 := f97.ext E110
  have f120 := f98.ext E110
  have f121 := f99.ext E110
  have f122 := f100.ext E110
  have f123 := f101.ext E110
  have f124 := f102.ext E110
  have f125 := f103.ext E110
  have f126 := f104.ext E110
  have f127 := f105.ext E110
  have f128 := f106.ext E110
  have f129 := f107.ext E110
  have V130 : Arv Z h110 b110 k110 .int (8 : Int32) [(.int 0), (.int 0), (.int 0), (.int 0), (.int 0), (.int 0), (.int 0), (.int 0)] (.int 0) := (Arv.new A110 (by decide)).pad (pad_rep [] (.int 0) 8)
  have pre131 : ∀ t, own_S p e below T110 m 34 #[sR a1, sN] [(.ref b110), (.ref a1)] t → R0 t := fun t k => pre109 t (by
    refine st110 _ ?_
    exact k)
  obtain ⟨T132, h132, X132, e132, W132, st132⟩ := putF X110 hx hZ hown (host := "") (Or.inl hw41) Via.refl e110 f117 f116 (Or.inl hw42) hw24 (ty := (.array .int)) (by decide) rfl rfl (g := (mkF m 34 #[sR a1, sN] [(.ref b110), (.ref a1)])) rfl rfl (hb hby own_d4_34)
  have f133 := Nat.le_trans f115 (Keep.of_wr W132).1
  have f134 := f116.wr W132
  have f135 := f118.other W132 (Or.inr (slot_ne (Or.inr hw44) (Or.inl hw42) (by decide) (t := (.object "com/example/adlim/adlim/client/CeilingQueue")) (t' := (.array .int)) (by decide) (by decide)))
  have f136 := f119.other W132 (Or.inr (slot_ne (Or.inl hw75) (Or.inl hw42) (by decide) (t := .int) (t' := (.array .int)) (by decide) (by decide)))
  have f137 := f120.other W132 (Or.inr (slot_ne (Or.inl hw67) (Or.inl hw42) (by decide) (t := .int) (t' := (.array .int)) (by decide) (by decide)))
  have f138 := f121.other W132 (Or.inr (slot_ne (Or.inl hw55) (Or.inl hw42) (by decide) (t := .int) (t' := (.array .int)) (by decide) (by decide)))
  have f139 := f122.other W132 (Or.inr (slot_ne (Or.inl hw81) (Or.inl hw42) (by decide) (t := .int) (t' := (.array .int)) (by decide) (by decide)))
  have f140 := f123.other W132 (Ne.symm ne6)
  have f141 := f124.other W132 (Or.inr (slot_ne (Or.inl hw33) (Or.inl hw42) (by decide) (t := (.array (.object "com/example/adlim/adlim/client/Waiter"))) (t' := (.array .int)) (by decide) (by decide)))
  have f142 := f125.other W132 (Ne.symm ne38)
  have f143 := f126.other W132 (Or.inr (slot_ne (Or.inl hw36) (Or.inl hw42) (by decide) (t := (.array .long)) (t' := (.array .int)) (by decide) (by decide)))
  have f144 := f127.other W132 (Ne.symm ne73)
  have f145 := f129.other W132 (Or.inr (slot_ne (Or.inl hw39) (Or.inl hw42) (by decide) (t := (.array .boolean)) (t' := (.array .int)) (by decide) (by decide)))
  have f146 := V130.other W132 (Ne.symm ne111)
  have f147 : own_Low a1 h0 h132 := f128.wr W132 (Nat.le_refl _)
  have f148 := f117.same W132
  have N149 := Fr.snoc X132 N108 g_a1
  have pre150 : ∀ t, own_S p e below T132 m 39 #[sR a1, sN] [.null, (.ref a1)] t → R0 t := fun t k => pre131 t (by
    refine st132 _ ?_
    refine XS.aloadN X132.here hx rfl (hb hby own_d4_37) rfl rfl ?_
    refine XS.aloadN X132.here hx rfl (hb hby own_d4_38) rfl rfl ?_
    exact k)
  obtain ⟨T151, h151, X151, e151, W151, st151⟩ := putF X132 hx hZ hown (host := "") (Or.inl hw43) Via.refl e132 f135 f134 (Or.inr ⟨hw44, rfl, hnm⟩) hw24 (ty := (.object "com/example/adlim/adlim/client/CeilingQueue")) (by decide) rfl rfl (g := (mkF m 39 #[sR a1, sN] [.null, (.ref a1)])) rfl rfl (hb hby own_d4_39)
  have f152 := Nat.le_trans f133 (Keep.of_wr W151).1
  have f153 := f134.wr W151
  have f154 := f136.other W151 (Or.inr (slot_ne (Or.inl hw75) (Or.inr hw44) (by decide) (t := .int) (t' := (.object "com/example/adlim/adlim/client/CeilingQueue")) (by decide) (by decide)))
  have f155 := f137.other W151 (Or.inr (slot_ne (Or.inl hw67) (Or.inr hw44) (by decide) (t := .int) (t' := (.object "com/example/adlim/adlim/client/CeilingQueue")) (by decide) (by decide)))
  have f156 := f138.other W151 (Or.inr (slot_ne (Or.inl hw55) (Or.inr hw44) (by decide) (t := .int) (t' := (.object "com/example/adlim/adlim/client/CeilingQueue")) (by decide) (by decide)))
  have f157 := f139.other W151 (Or.inr (slot_ne (Or.inl hw81) (Or.inr hw44) (by decide) (t := .int) (t' := (.object "com/example/adlim/adlim/client/CeilingQueue")) (by decide) (by decide)))
  have f158 := f140.other W151 (Ne.symm ne6)
  have f159 := f141.other W151 (Or.inr (slot_ne (Or.inl hw33) (Or.inr hw44) (by decide) (t := (.array (.object "com/example/adlim/adlim/client/Waiter"))) (t' := (.object "com/example/adlim/adlim/client/CeilingQueue")) (by decide) (by decide)))
  have f160 := f142.other W151 (Ne.symm ne38)
  have f161 := f143.other W151 (Or.inr (slot_ne (Or.inl hw36) (Or.inr hw44) (by decide) (t := (.array .long)) (t' := (.object "com/example/adlim/adlim/client/CeilingQueue")) (by decide) (by decide)))
  have f162 := f144.other W151 (Ne.symm ne73)
  have f163 := f145.other W151 (Or.inr (slot_ne (Or.inl hw39) (Or.inr hw44) (by decide) (t := (.array .boolean)) (t' := (.object "com/example/adlim/adlim/client/CeilingQueue")) (by decide) (by decide)))
  have f164 := f146.other W151 (Ne.symm ne111)
  have f165 := f148.other W151 (Or.inr (slot_ne (Or.inl hw42) (Or.inr hw44) (by decide) (t := (.array .int)) (t' := (.object "com/example/adlim/adlim/client/CeilingQueue")) (by decide) (by decide)))
  have f166 : own_Low a1 h0 h151 := f147.wr W151 (Nat.le_refl _)
  have f167 := f135.same W151
  have N168 := Fr.snoc X151 N149 g_a1
  have pre169 : ∀ t, own_S p e below T151 m 42 #[sR a1, sN] [] t → R0 t := fun t k => pre150 t (by
    refine st151 _ ?_
    exact k)
  obtain ⟨fs, hr, hrun, hended, hW, hsame⟩ := X151.leave (v := none) (fun _ => rfl)
  refine ⟨_, _, cast (congrFun hR0 _) (pre169 _ (X151.returnOut hx Bd.returns (hb hby own_d4_42) hr)), hrun, hended, _, _, rfl, ?_, ⟨_, rfl⟩, hW, hsame.mono (by decide) (by decide)⟩
  show own_Q4 Z _ h0 n0 _ T151.heap _
  rw [e151]
  have Q170 : own_QI Z h151 n0 a1 .null .null .null (0 : Int64) (0 : Int64) (0 : Int64) (0 : Int32) (0 : Int32) (0 : Int32) := ⟨b5, b37, b72, b110, k5, k37, (0 : Int32), f153, f159, f161, f163, f165, f167, f154, f155, f156, f157, f158, O5, f160, (own_Any_of f162 rfl), (own_Any_of f164 rfl), lne6, lne39, lne75, lne114, g_a1⟩
  exact ⟨rfl, N168, f166, Q170⟩
theorem own_d7_0 : decode prog_63_method_6_code 0 = .ok (.aload_n 0, 1) := by decide +kernel
theorem own_d7_1 : decode prog_63_method_6_code 1 = .ok (.getfield 53, 3) := by decide +kernel
theorem own_d7_4 : decode prog_63_method_6_code 4 = .ok (.ireturn, 1) := by decide +kernel
theorem own_ef_7 (m : MethodId) (x0 : Addr) : entryFrame m #[(.ref x0)] 1 = mkF m 0 #[sR x0] [] := by first | (simp [entryFrame, mkF, argsToLocals, Value.category]; done) | rfl
def own_Q7 (Z : State) (a1 : Addr) (x0 : Value) (x1 : Value) (x2 : Value) (o0 : Int64) (o1 : Int64) (o2 : Int64) (hd : Int32) (tl : Int32) (sz : Int32) (h0 : Heap) (n0 : Nat) (v : Option Value) (h : Heap) (L : List Loc) : Prop := v = some (.int sz) ∧ Fr n0 L ∧ h = h0
abbrev own_y4 : MethodName := ⟨"com/example/adlim/adlim/client/WaiterQueue", "size", "()I"⟩
set_option maxRecDepth 65536 in
set_option maxHeartbeats 40000000 in
theorem own_rm7 (l : Launch) (Z : State) (a0 : Array Value) (hw : ∀ d ∈ tables_1, d.before a0 Z = true) (ws : List Jvm.Cond) (a1 : Addr) (x0 : Value) (x1 : Value) (x2 : Value) (o0 : Int64) (o1 : Int64) (o2 : Int64) (hd : Int32) (tl : Int32) (sz : Int32) (h0 : Heap) (n0 : Nat) (Z0 : n0 ≤ h0.size) (hQ : own_QI Z h0 n0 a1 x0 x1 x2 o0 o1 o2 hd tl sz) :
    MetFree l own_y4 (head1 (Jvm.Cond.code own_y4 prog_63_method_6_code 1 (some .int) :: ws) ({ frames := 0, cells := 0, slots := 0, locals := 0 } : Room)) (fun a U => a = #[(.ref a1)] ∧ Z.Warmed39 U.vm ∧ U.heap = h0) (fun _ _ _ _ _ => True) (fun _ U o U' => ∃ v L, o = .returned v ∧ own_Q7 Z a1 x0 x1 x2 o0 o1 o2 hd tl sz h0 n0 v U'.heap L ∧ FrameEnd U o U' L ({ frames := 0, cells := 0, slots := 0, locals := 0 } : Room).cells ({ frames := 0, cells := 0, slots := 0, locals := 0 } : Room).slots) := by
  refine MetFree.of_bodySF (plainFor_of_name own_pn_2) hisR ?_
  intro p e s m args below meth c s₁ Bd hml0 hP hK
  obtain ⟨rfl, hZ, hh⟩ := hP
  have hw54 := hw _ (List.mem_of_getElem? (i := 54) rfl)
  have hx := Bd.exec
  have hby := Bd.bytes
  have hml : c.maxLocals = 1 := hml0
  have hown : s.vm.findClass "com/example/adlim/adlim/client/WaiterQueue" = some m.cls := findClass_of_methodNamed Bd.named
  have hnm := (name_of_methodNamed Bd.named Bd.method).1
  have X0 : Stand p l e ({ frames := 0, cells := 0, slots := 0, locals := 0 } : Room) s m #[(.ref a1)] below meth c s₁ [] 0 0 := Stand.of_body Bd
  have e0 : s₁.heap = h0 := by rw [← hh, Bd.state]; rfl
  have N0 := Fr.nil n0
  obtain ⟨R0, hR0⟩ : ∃ R : State → Prop, R = fun t => Steps p.tables e below (s₁.setTop (entryFrame m #[(.ref a1)] 1)) t := ⟨_, rfl⟩
  have pre0 : ∀ t, Steps p.tables e below (s₁.setTop (mkF m 0 #[sR a1] [])) t → R0 t := fun t k => by rw [hR0]; exact castTop (own_ef_7 m a1) k
  obtain ⟨aw1, ao1, au1, ac1, kw1, ko1, cn1, Ex1, Fw1, Fo1, Fu1, Fc1, Fe1, Fh1, Ft1, Fs1, Fn1, Vw1, Ow1, Vo1, Uu1, Uc1, la1, lb1, lc1, ld1, gq1⟩ := id hQ
  have ne2 : a1 ≠ aw1 := Nat.ne_of_lt la1
  have lt3 : a1 < ao1 := (Nat.lt_trans la1 lb1)
  have ne4 : a1 ≠ ao1 := Nat.ne_of_lt lt3
  have lt5 : a1 < au1 := (Nat.lt_trans (Nat.lt_trans la1 lb1) lc1)
  have ne6 : a1 ≠ au1 := Nat.ne_of_lt lt5
  have lt7 : a1 < ac1 := (Nat.lt_trans (Nat.lt_trans (Nat.lt_trans la1 lb1) lc1) ld1)
  have ne8 : a1 ≠ ac1 := Nat.ne_of_lt lt7
  have ne9 : aw1 ≠ ao1 := Nat.ne_of_lt lb1
  have lt10 : aw1 < au1 := (Nat.lt_trans lb1 lc1)
  have ne11 : aw1 ≠ au1 := Nat.ne_of_lt lt10
  have lt12 : aw1 < ac1 := (Nat.lt_trans (Nat.lt_trans lb1 lc1) ld1)
  have ne13 : aw1 ≠ ac1 := Nat.ne_of_lt lt12
  have ne14 : ao1 ≠ au1 := Nat.ne_of_lt lc1
  have lt15 : ao1 < ac1 := (Nat.lt_trans lc1 ld1)
  have ne16 : ao1 ≠ ac1 := Nat.ne_of_lt lt15
  have ne17 : au1 ≠ ac1 := Nat.ne_of_lt ld1
  have g18 : n0 ≤ aw1 := Nat.le_trans gq1 (Nat.le_of_lt la1)
  have g19 : n0 ≤ ao1 := Nat.le_trans gq1 (Nat.le_of_lt lt3)
  have g20 : n0 ≤ au1 := Nat.le_trans gq1 (Nat.le_of_lt lt5)
  have g21 : n0 ≤ ac1 := Nat.le_trans gq1 (Nat.le_of_lt lt7)
  have pre22 : ∀ t, own_S p e below s₁ m 1 #[sR a1] [(.ref a1)] t → R0 t := fun t k => pre0 t (by
    refine XS.aloadN X0.here hx rfl (hb hby own_d7_0) rfl rfl ?_
    exact k)
  obtain ⟨T23, X23, e23, st23⟩ := getF X0 hx hZ hown (host := "") (Or.inl hw54) Via.refl e0 Fs1 (g := (mkF m 1 #[sR a1] [(.ref a1)])) rfl rfl (hb hby own_d7_1)
  have pre24 : ∀ t, own_S p e below T23 m 4 #[sR a1] [(.int sz)] t → R0 t := fun t k => pre22 t (by
    refine st23 _ ?_
    exact k)
  obtain ⟨fs, hr, hrun, hended, hW, hsame⟩ := X23.leave (v := some (.int sz)) (fun h => by rw [Bd.returns] at h; cases h)
  refine ⟨_, _, cast (congrFun hR0 _) (pre24 _ (retOut X23 hx Bd.returns rfl (Or.inl ⟨rfl, Or.inl rfl, _, rfl⟩) (hb hby own_d7_4) hr)), hrun, hended, _, _, rfl, ?_, ⟨_, rfl⟩, hW, hsame.mono (by decide) (by decide)⟩
  show own_Q7 Z _ _ _ _ _ _ _ _ _ _ h0 n0 _ T23.heap _
  rw [e23]
  exact ⟨rfl, N0, rfl⟩
theorem own_d10_0 : decode prog_63_method_17_code 0 = .ok (.iload_n 1, 1) := by decide +kernel
theorem own_d10_1 : decode prog_63_method_17_code 1 = .ok (.istore_n 3, 1) := by decide +kernel
theorem own_d10_2 : decode prog_63_method_17_code 2 = .ok (.iload_n 3, 1) := by decide +kernel
theorem own_d10_3 : decode prog_63_method_17_code 3 = .ok (.aload_n 0, 1) := by decide +kernel
theorem own_d10_4 : decode prog_63_method_17_code 4 = .ok (.getfield 26, 3) := by decide +kernel
theorem own_d10_7 : decode prog_63_method_17_code 7 = .ok (.arraylength, 1) := by decide +kernel
theorem own_d10_8 : decode prog_63_method_17_code 8 = .ok (.if_icmp .ge 22, 3) := by decide +kernel
theorem own_d10_11 : decode prog_63_method_17_code 11 = .ok (.aload_n 0, 1) := by decide +kernel
theorem own_d10_12 : decode prog_63_method_17_code 12 = .ok (.getfield 26, 3) := by decide +kernel
theorem own_d10_15 : decode prog_63_method_17_code 15 = .ok (.iload_n 3, 1) := by decide +kernel
theorem own_d10_16 : decode prog_63_method_17_code 16 = .ok (.dup2, 1) := by decide +kernel
theorem own_d10_17 : decode prog_63_method_17_code 17 = .ok (.iaload, 1) := by decide +kernel
theorem own_d10_18 : decode prog_63_method_17_code 18 = .ok (.iload_n 2, 1) := by decide +kernel
theorem own_d10_19 : decode prog_63_method_17_code 19 = .ok (.iadd, 1) := by decide +kernel
theorem own_d10_20 : decode prog_63_method_17_code 20 = .ok (.iastore, 1) := by decide +kernel
theorem own_d10_21 : decode prog_63_method_17_code 21 = .ok (.iload_n 3, 1) := by decide +kernel
theorem own_d10_22 : decode prog_63_method_17_code 22 = .ok (.iload_n 3, 1) := by decide +kernel
theorem own_d10_23 : decode prog_63_method_17_code 23 = .ok (.iconst 1, 1) := by decide +kernel
theorem own_d10_24 : decode prog_63_method_17_code 24 = .ok (.iadd, 1) := by decide +kernel
theorem own_d10_25 : decode prog_63_method_17_code 25 = .ok (.ior, 1) := by decide +kernel
theorem own_d10_26 : decode prog_63_method_17_code 26 = .ok (.istore_n 3, 1) := by decide +kernel
theorem own_d10_27 : decode prog_63_method_17_code 27 = .ok (.goto (-25), 3) := by decide +kernel
theorem own_d10_30 : decode prog_63_method_17_code 30 = .ok (.aload_n 0, 1) := by decide +kernel
theorem own_d10_31 : decode prog_63_method_17_code 31 = .ok (.dup, 1) := by decide +kernel
theorem own_d10_32 : decode prog_63_method_17_code 32 = .ok (.getfield 84, 3) := by decide +kernel
theorem own_d10_35 : decode prog_63_method_17_code 35 = .ok (.iload_n 2, 1) := by decide +kernel
theorem own_d10_36 : decode prog_63_method_17_code 36 = .ok (.iadd, 1) := by decide +kernel
theorem own_d10_37 : decode prog_63_method_17_code 37 = .ok (.putfield 84, 3) := by decide +kernel
theorem own_d10_40 : decode prog_63_method_17_code 40 = .ok (.return_, 1) := by decide +kernel
theorem own_ef_10s0 (m : MethodId) (x0 : Addr) (x1 : Int32) (x2 : Int32) : entryFrame m #[(.ref x0), (.int x1), (.int x2)] 4 = mkF m 0 #[sR x0, sI x1, sI x2, .unset] [] := by first | (simp [entryFrame, mkF, argsToLocals, Value.category]; done) | rfl
def own_Q10s0 (Z : State) (a1 : Addr) (p3 : Int32) (x0 : Value) (x1 : Value) (x2 : Value) (o0 : Int64) (o1 : Int64) (o2 : Int64) (hd : Int32) (tl : Int32) (sz : Int32) (h0 : Heap) (n0 : Nat) (v : Option Value) (h : Heap) (L : List Loc) : Prop := v = none ∧ Fr n0 L ∧ own_Low a1 h0 h ∧ own_QI Z h n0 a1 x0 x1 x2 o0 o1 o2 hd tl sz
abbrev own_y5 : MethodName := ⟨"com/example/adlim/adlim/client/WaiterQueue", "change", "(II)V"⟩
set_option maxRecDepth 65536 in
set_option maxHeartbeats 40000000 in
theorem own_rm10s0 (l : Launch) (Z : State) (a0 : Array Value) (hw : ∀ d ∈ tables_1, d.before a0 Z = true) (ws : List Jvm.Cond) (a1 : Addr) (p3 : Int32) (x0 : Value) (x1 : Value) (x2 : Value) (o0 : Int64) (o1 : Int64) (o2 : Int64) (hd : Int32) (tl : Int32) (sz : Int32) (h0 : Heap) (n0 : Nat) (Z0 : n0 ≤ h0.size) (hQ : own_QI Z h0 n0 a1 x0 x1 x2 o0 o1 o2 hd tl sz) :
    MetFree l own_y5 (head1 (Jvm.Cond.code own_y5 prog_63_method_17_code 4 none :: ws) ({ frames := 0, cells := 0, slots := 0, locals := 0 } : Room)) (fun a U => a = #[(.ref a1), (.int 0), (.int p3)] ∧ Z.Warmed39 U.vm ∧ U.heap = h0) (fun _ _ _ _ _ => True) (fun _ U o U' => ∃ v L, o = .returned v ∧ own_Q10s0 Z a1 p3 x0 x1 x2 o0 o1 o2 hd tl sz h0 n0 v U'.heap L ∧ FrameEnd U o U' L ({ frames := 0, cells := 0, slots := 0, locals := 0 } : Room).cells ({ frames := 0, cells := 0, slots := 0, locals := 0 } : Room).slots) := by
  refine MetFree.of_bodySF (plainFor_of_name own_pn_2) hisR ?_
  intro p e s m args below meth c s₁ Bd hml0 hP hK
  obtain ⟨rfl, hZ, hh⟩ := hP
  have hw24 := hw _ (List.mem_of_getElem? (i := 24) rfl)
  have hw33 := hw _ (List.mem_of_getElem? (i := 33) rfl)
  have hw36 := hw _ (List.mem_of_getElem? (i := 36) rfl)
  have hw39 := hw _ (List.mem_of_getElem? (i := 39) rfl)
  have hw41 := hw _ (List.mem_of_getElem? (i := 41) rfl)
  have hw42 := hw _ (List.mem_of_getElem? (i := 42) rfl)
  have hw44 := hw _ (List.mem_of_getElem? (i := 44) rfl)
  have hw55 := hw _ (List.mem_of_getElem? (i := 55) rfl)
  have hw67 := hw _ (List.mem_of_getElem? (i := 67) rfl)
  have hw75 := hw _ (List.mem_of_getElem? (i := 75) rfl)
  have hw80 := hw _ (List.mem_of_getElem? (i := 80) rfl)
  have hw81 := hw _ (List.mem_of_getElem? (i := 81) rfl)
  have hx := Bd.exec
  have hby := Bd.bytes
  have hml : c.maxLocals = 4 := hml0
  have hown : s.vm.findClass "com/example/adlim/adlim/client/WaiterQueue" = some m.cls := findClass_of_methodNamed Bd.named
  have hnm := (name_of_methodNamed Bd.named Bd.method).1
  have X0 : Stand p l e ({ frames := 0, cells := 0, slots := 0, locals := 0 } : Room) s m #[(.ref a1), (.int 0), (.int p3)] below meth c s₁ [] 0 0 := Stand.of_body Bd
  have e0 : s₁.heap = h0 := by rw [← hh, Bd.state]; rfl
  have N0 := Fr.nil n0
  obtain ⟨R0, hR0⟩ : ∃ R : State → Prop, R = fun t => Steps p.tables e below (s₁.setTop (entryFrame m #[(.ref a1), (.int 0), (.int p3)] 4)) t := ⟨_, rfl⟩
  have pre0 : ∀ t, Steps p.tables e below (s₁.setTop (mkF m 0 #[sR a1, sI 0, sI p3, sU] [])) t → R0 t := fun t k => by rw [hR0]; exact castTop (own_ef_10s0 m a1 (0 : Int32) p3) k
  have f1 : own_Low a1 h0 h0 := own_Low.refl _ _
  obtain ⟨aw2, ao2, au2, ac2, kw2, ko2, cn2, Ex2, Fw2, Fo2, Fu2, Fc2, Fe2, Fh2, Ft2, Fs2, Fn2, Vw2, Ow2, Vo2, Uu2, Uc2, la2, lb2, lc2, ld2, gq2⟩ := id hQ
  have ne3 : a1 ≠ aw2 := Nat.ne_of_lt la2
  have lt4 : a1 < ao2 := (Nat.lt_trans la2 lb2)
  have ne5 : a1 ≠ ao2 := Nat.ne_of_lt lt4
  have lt6 : a1 < au2 := (Nat.lt_trans (Nat.lt_trans la2 lb2) lc2)
  have ne7 : a1 ≠ au2 := Nat.ne_of_lt lt6
  have lt8 : a1 < ac2 := (Nat.lt_trans (Nat.lt_trans (Nat.lt_trans la2 lb2) lc2) ld2)
  have ne9 : a1 ≠ ac2 := Nat.ne_of_lt lt8
  have ne10 : aw2 ≠ ao2 := Nat.ne_of_lt lb2
  have lt11 : aw2 < au2 := (Nat.lt_trans lb2 lc2)
  have ne12 : aw2 ≠ au2 := Nat.ne_of_lt lt11
  have lt13 : aw2 < ac2 := (Nat.lt_trans (Nat.lt_trans lb2 lc2) ld2)
  have ne14 : aw2 ≠ ac2 := Nat.ne_of_lt lt13
  have ne15 : ao2 ≠ au2 := Nat.ne_of_lt lc2
  have lt16 : ao2 < ac2 := (Nat.lt_trans lc2 ld2)
  have ne17 : ao2 ≠ ac2 := Nat.ne_of_lt lt16
  have ne18 : au2 ≠ ac2 := Nat.ne_of_lt ld2
  have g19 : n0 ≤ aw2 := Nat.le_trans gq2 (Nat.le_of_lt la2)
  have g20 : n0 ≤ ao2 := Nat.le_trans gq2 (Nat.le_of_lt lt4)
  have g21 : n0 ≤ au2 := Nat.le_trans gq2 (Nat.le_of_lt lt6)
  have g22 : n0 ≤ ac2 := Nat.le_trans gq2 (Nat.le_of_lt lt8)
  have pre23 : ∀ t, own_S p e below s₁ m 4 #[sR a1, sI 0, sI p3, sI 0] [(.ref a1), (.int 0)] t → R0 t := fun t k => pre0 t (by
    refine XS.iloadN X0.here hx rfl (hb hby own_d10_0) rfl ?_
    refine XS.istoreN X0.here hx rfl (hb hby own_d10_1) rfl (l' := #[sR a1, sI 0, sI p3, sI 0]) rfl ?_
    refine XS.iloadN X0.here hx rfl (hb hby own_d10_2) rfl ?_
    refine XS.aloadN X0.here hx rfl (hb hby own_d10_3) rfl rfl ?_
    exact k)
  obtain ⟨T24, X24, e24, st24⟩ := getF X0 hx hZ hown (host := "") (Or.inl hw41) Via.refl e0 Fc2 (g := (mkF m 4 #[sR a1, sI 0, sI p3, sI 0] [(.ref a1), (.int 0)])) rfl rfl (hb hby own_d10_4)
  have pre25 : ∀ t, own_S p e below T24 m 7 #[sR a1, sI 0, sI p3, sI 0] [(.ref ac2), (.int 0)] t → R0 t := fun t k => pre23 t (by
    refine st24 _ ?_
    exact k)
  obtain ⟨cl26, y26, Ar26, S26, hin26, hat26⟩ := own_Any.get Uc2 (by simp) (0 : Int32) ⟨by decide, by decide⟩
  have pre27 : ∀ t, own_S p e below T24 m 12 #[sR a1, sI 0, sI p3, sI 0] [(.ref a1)] t → R0 t := fun t k => pre25 t (by
    refine X24.arraylength hx (by rw [e24]; exact Ar26.1) (State.isArrayOf_alike hZ.alike Ar26.2.1) (g := (mkF m 7 #[sR a1, sI 0, sI p3, sI 0] [(.ref ac2), (.int 0)])) rfl rfl (hb hby own_d10_7) _ ?_
    rw [len_of (z := (8 : Int32)) S26 (by decide)]
    refine XS.icmpNo X24.here hx rfl (hb hby own_d10_8) rfl (tlt (by decide : (0 : Int32) < (8 : Int32))).2.1 ?_
    refine XS.aloadN X24.here hx rfl (hb hby own_d10_11) rfl rfl ?_
    exact k)
  obtain ⟨T28, X28, e28, st28⟩ := getF X24 hx hZ hown (host := "") (Or.inl hw41) Via.refl e24 Fc2 (g := (mkF m 12 #[sR a1, sI 0, sI p3, sI 0] [(.ref a1)])) rfl rfl (hb hby own_d10_12)
  have pre29 : ∀ t, own_S p e below T28 m 17 #[sR a1, sI 0, sI p3, sI 0] [(.int 0), (.ref ac2), (.int 0), (.ref ac2)] t → R0 t := fun t k => pre27 t (by
    refine st28 _ ?_
    refine XS.iloadN X28.here hx rfl (hb hby own_d10_15) rfl ?_
    refine Jvm.Free.XT.dup2 X28.here hx rfl (hb hby own_d10_16) rfl rfl rfl ?_
    exact k)
  obtain ⟨cl30, y30, Ar30, S30, hin30, hat30⟩ := own_Any.get Uc2 (by simp) (0 : Int32) ⟨by decide, by decide⟩
  have pre31 : ∀ t, own_S p e below T28 m 20 #[sR a1, sI 0, sI p3, sI 0] [(.int (y30 + p3)), (.int 0), (.ref ac2)] t → R0 t := fun t k => pre29 t (by
    refine X28.iaload hx (j := (0 : Int32)) (v := (.int y30)) (by rw [e28]; exact Ar30.1) (State.isArrayOf_alike hZ.alike Ar30.2.1) Ar30.2.2 hin30 hat30 (g := (mkF m 17 #[sR a1, sI 0, sI p3, sI 0] [(.int 0), (.ref ac2), (.int 0), (.ref ac2)])) rfl rfl (hb hby own_d10_17) _ ?_
    refine XS.iloadN X28.here hx rfl (hb hby own_d10_18) rfl ?_
    refine XS.iadd X28.here hx rfl (hb hby own_d10_19) rfl ?_
    exact k)
  obtain ⟨cl32, y32, Ar32, S32, hin32, hat32⟩ := own_Any.get Uc2 (by simp) (0 : Int32) ⟨by decide, by decide⟩
  obtain ⟨T33, h33, X33, e33, W33, st33⟩ := stI X28 hx hZ e28 Ar32 (j := (0 : Int32)) hin32 (g := (mkF m 20 #[sR a1, sI 0, sI p3, sI 0] [(.int (y30 + p3)), (.int 0), (.ref ac2)])) rfl rfl (hb hby own_d10_20)
  have f34 := Nat.le_trans Z0 (Keep.of_wr W33).1
  have f35 := Ex2.wr W33
  have f36 := Fw2.other W33 (Or.inl ne9)
  have f37 := Fo2.other W33 (Or.inl ne9)
  have f38 := Fu2.other W33 (Or.inl ne9)
  have f39 := Fc2.other W33 (Or.inl ne9)
  have f40 := Fe2.other W33 (Or.inl ne9)
  have f41 := Fh2.other W33 (Or.inl ne9)
  have f42 := Ft2.other W33 (Or.inl ne9)
  have f43 := Fs2.other W33 (Or.inl ne9)
  have f44 := Fn2.other W33 (Or.inl ne9)
  have f45 := Vw2.other W33 ne14
  have f46 := Vo2.other W33 ne17
  have f47 := Uu2.other W33 ne18
  have f48 : own_Low a1 h0 h33 := f1.wr W33 (Nat.le_of_lt lt8)
  have U49 : own_Any Z h33 ac2 .int := own_Any.wr Uc2 (0 : Int32) ⟨by decide, by decide⟩ W33 rfl
  have N50 := Fr.snoc X33 N0 g22
  have pre51 : ∀ t, own_S p e below T33 m 4 #[sR a1, sI 0, sI p3, sI 1] [(.ref a1), (.int 1)] t → R0 t := fun t k => pre31 t (by
    refine st33 _ ?_
    refine XS.iloadN X33.here hx rfl (hb hby own_d10_21) rfl ?_
    refine XS.iloadN X33.here hx rfl (hb hby own_d10_22) rfl ?_
    refine XS.iconst X33.here hx rfl (hb hby own_d10_23) ?_
    refine XS.iadd X33.here hx rfl (hb hby own_d10_24) rfl ?_
    refine XS.ior X33.here hx rfl (hb hby own_d10_25) rfl ?_
    refine XS.istoreN X33.here hx rfl (hb hby own_d10_26) rfl (l' := #[sR a1, sI 0, sI p3, sI 1]) rfl ?_
    refine XS.goto X33.here hx rfl (pc0 := 27) (pc' := 2) rfl (hb hby own_d10_27) (by decide) (by decide) ?_
    refine XS.iloadN X33.here hx rfl (hb hby own_d10_2) rfl ?_
    refine XS.aloadN X33.here hx rfl (hb hby own_d10_3) rfl rfl ?_
    exact k)
  obtain ⟨T52, X52, e52, st52⟩ := getF X33 hx hZ hown (host := "") (Or.inl hw41) Via.refl e33 f39 (g := (mkF m 4 #[sR a1, sI 0, sI p3, sI 1] [(.ref a1), (.int 1)])) rfl rfl (hb hby own_d10_4)
  have pre53 : ∀ t, own_S p e below T52 m 7 #[sR a1, sI 0, sI p3, sI 1] [(.ref ac2), (.int 1)] t → R0 t := fun t k => pre51 t (by
    refine st52 _ ?_
    exact k)
  obtain ⟨cl54, y54, Ar54, S54, hin54, hat54⟩ := own_Any.get U49 (by simp) (0 : Int32) ⟨by decide, by decide⟩
  have pre55 : ∀ t, own_S p e below T52 m 12 #[sR a1, sI 0, sI p3, sI 1] [(.ref a1)] t → R0 t := fun t k => pre53 t (by
    refine X52.arraylength hx (by rw [e52]; exact Ar54.1) (State.isArrayOf_alike hZ.alike Ar54.2.1) (g := (mkF m 7 #[sR a1, sI 0, sI p3, sI 1] [(.ref ac2), (.int 1)])) rfl rfl (hb hby own_d10_7) _ ?_
    rw [len_of (z := (8 : Int32)) S54 (by decide)]
    refine XS.icmpNo X52.here hx rfl (hb hby own_d10_8) rfl (tlt (by decide : (1 : Int32) < (8 : Int32))).2.1 ?_
    refine XS.aloadN X52.here hx rfl (hb hby own_d10_11) rfl rfl ?_
    exact k)
  obtain ⟨T56, X56, e56, st56⟩ := getF X52 hx hZ hown (host := "") (Or.inl hw41) Via.refl e52 f39 (g := (mkF m 12 #[sR a1, sI 0, sI p3, sI 1] [(.ref a1)])) rfl rfl (hb hby own_d10_12)
  have pre57 : ∀ t, own_S p e below T56 m 17 #[sR a1, sI 0, sI p3, sI 1] [(.int 1), (.ref ac2), (.int 1), (.ref ac2)] t → R0 t := fun t k => pre55 t (by
    refine st56 _ ?_
    refine XS.iloadN X56.here hx rfl (hb hby own_d10_15) rfl ?_
    refine Jvm.Free.XT.dup2 X56.here hx rfl (hb hby own_d10_16) rfl rfl rfl ?_
    exact k)
  obtain ⟨cl58, y58, Ar58, S58, hin58, hat58⟩ := own_Any.get U49 (by simp) (1 : Int32) ⟨by decide, by decide⟩
  have pre59 : ∀ t, own_S p e below T56 m 20 #[sR a1, sI 0, sI p3, sI 1] [(.int (y58 + p3)), (.int 1), (.ref ac2)] t → R0 t := fun t k => pre57 t (by
    refine X56.iaload hx (j := (1 : Int32)) (v := (.int y58)) (by rw [e56]; exact Ar58.1) (State.isArrayOf_alike hZ.alike Ar58.2.1) Ar58.2.2 hin58 hat58 (g := (mkF m 17 #[sR a1, sI 0, sI p3, sI 1] [(.int 1), (.ref ac2), (.int 1), (.ref ac2)])) rfl rfl (hb hby own_d10_17) _ ?_
    refine XS.iloadN X56.here hx rfl (hb hby own_d10_18) rfl ?_
    refine XS.iadd X56.here hx rfl (hb hby own_d10_19) rfl ?_
    exact k)
  obtain ⟨cl60, y60, Ar60, S60, hin60, hat60⟩ := own_Any.get U49 (by simp) (1 : Int32) ⟨by decide, by decide⟩
  obtain ⟨T61, h61, X61, e61, W61, st61⟩ := stI X56 hx hZ e56 Ar60 (j := (1 : Int32)) hin60 (g := (mkF m 20 #[sR a1, sI 0, sI p3, sI 1] [(.int (y58 + p3)), (.int 1), (.ref ac2)])) rfl rfl (hb hby own_d10_20)
  have f62 := Nat.le_trans f34 (Keep.of_wr W61).1
  have f63 := f35.wr W61
  have f64 := f36.other W61 (Or.inl ne9)
  have f65 := f37.other W61 (Or.inl ne9)
  have f66 := f38.other W61 (Or.inl ne9)
  have f67 := f39.other W61 (Or.inl ne9)
  have f68 := f40.other W61 (Or.inl ne9)
  have f69 := f41.other W61 (Or.inl ne9)
  have f70 := f42.other W61 (Or.inl ne9)
  have f71 := f43.other W61 (Or.inl ne9)
  have f72 := f44.other W61 (Or.inl ne9)
  have f73 := f45.other W61 ne14
  have f74 := f46.other W61 ne17
  have f75 := f47.other W61 ne18
  have f76 : own_Low a1 h0 h61 := f48.wr W61 (Nat.le_of_lt lt8)
  have U77 : own_Any Z h61 ac2 .int := own_Any.wr U49 (1 : Int32) ⟨by decide, by decide⟩ W61 rfl
  have N78 := Fr.snoc X61 N50 g22
  have pre79 : ∀ t, own_S p e below T61 m 4 #[sR a1, sI 0, sI p3, sI 3] [(.ref a1), (.int 3)] t → R0 t := fun t k => pre59 t (by
    refine st61 _ ?_
    refine XS.iloadN X61.here hx rfl (hb hby own_d10_21) rfl ?_
    refine XS.iloadN X61.here hx rfl (hb hby own_d10_22) rfl ?_
    refine XS.iconst X61.here hx rfl (hb hby own_d10_23) ?_
    refine XS.iadd X61.here hx rfl (hb hby own_d10_24) rfl ?_
    refine XS.ior X61.here hx rfl (hb hby own_d10_25) rfl ?_
    refine XS.istoreN X61.here hx rfl (hb hby own_d10_26) rfl (l' := #[sR a1, sI 0, sI p3, sI 3]) rfl ?_
    refine XS.goto X61.here hx rfl (pc0 := 27) (pc' := 2) rfl (hb hby own_d10_27) (by decide) (by decide) ?_
    refine XS.iloadN X61.here hx rfl (hb hby own_d10_2) rfl ?_
    refine XS.aloadN X61.here hx rfl (hb hby own_d10_3) rfl rfl ?_
    exact k)
  obtain ⟨T80, X80, e80, st80⟩ := getF X61 hx hZ hown (host := "") (Or.inl hw41) Via.refl e61 f67 (g := (mkF m 4 #[sR a1, sI 0, sI p3, sI 3] [(.ref a1), (.int 3)])) rfl rfl (hb hby own_d10_4)
  have pre81 : ∀ t, own_S p e below T80 m 7 #[sR a1, sI 0, sI p3, sI 3] [(.ref ac2), (.int 3)] t → R0 t := fun t k => pre79 t (by
    refine st80 _ ?_
    exact k)
  obtain ⟨cl82, y82, Ar82, S82, hin82, hat82⟩ := own_Any.get U77 (by simp) (0 : Int32) ⟨by decide, by decide⟩
  have pre83 : ∀ t, own_S p e below T80 m 12 #[sR a1, sI 0, sI p3, sI 3] [(.ref a1)] t → R0 t := fun t k => pre81 t (by
    refine X80.arraylength hx (by rw [e80]; exact Ar82.1) (State.isArrayOf_alike hZ.alike Ar82.2.1) (g := (mkF m 7 #[sR a1, sI 0, sI p3, sI 3] [(.ref ac2), (.int 3)])) rfl rfl (hb hby own_d10_7) _ ?_
    rw [len_of (z := (8 : Int32)) S82 (by decide)]
    refine XS.icmpNo X80.here hx rfl (hb hby own_d10_8) rfl (tlt (by decide : (3 : Int32) < (8 : Int32))).2.1 ?_
    refine XS.aloadN X80.here hx rfl (hb hby own_d10_11) rfl rfl ?_
    exact k)
  obtain ⟨T84, X84, e84, st84⟩ := getF X80 hx hZ hown (host := "") (Or.inl hw41) Via.refl e80 f67 (g := (mkF m 12 #[sR a1, sI 0, sI p3, sI 3] [(.ref a1)])) rfl rfl (hb hby own_d10_12)
  have pre85 : ∀ t, own_S p e below T84 m 17 #[sR a1, sI 0, sI p3, sI 3] [(.int 3), (.ref ac2), (.int 3), (.ref ac2)] t → R0 t := fun t k => pre83 t (by
    refine st84 _ ?_
    refine XS.iloadN X84.here hx rfl (hb hby own_d10_15) rfl ?_
    refine Jvm.Free.XT.dup2 X84.here hx rfl (hb hby own_d10_16) rfl rfl rfl ?_
    exact k)
  obtain ⟨cl86, y86, Ar86, S86, hin86, hat86⟩ := own_Any.get U77 (by simp) (3 : Int32) ⟨by decide, by decide⟩
  have pre87 : ∀ t, own_S p e below T84 m 20 #[sR a1, sI 0, sI p3, sI 3] [(.int (y86 + p3)), (.int 3), (.ref ac2)] t → R0 t := fun t k => pre85 t (by
    refine X84.iaload hx (j := (3 : Int32)) (v := (.int y86)) (by rw [e84]; exact Ar86.1) (State.isArrayOf_alike hZ.alike Ar86.2.1) Ar86.2.2 hin86 hat86 (g := (mkF m 17 #[sR a1, sI 0, sI p3, sI 3] [(.int 3), (.ref ac2), (.int 3), (.ref ac2)])) rfl rfl (hb hby own_d10_17) _ ?_
    refine XS.iloadN X84.here hx rfl (hb hby own_d10_18) rfl ?_
    refine XS.iadd X84.here hx rfl (hb hby own_d10_19) rfl ?_
    exact k)
  obtain ⟨cl88, y88, Ar88, S88, hin88, hat88⟩ := own_Any.get U77 (by simp) (3 : Int32) ⟨by decide, by decide⟩
  obtain ⟨T89, h89, X89, e89, W89, st89⟩ := stI X84 hx hZ e84 Ar88 (j := (3 : Int32)) hin88 (g := (mkF m 20 #[sR a1, sI 0, sI p3, sI 3] [(.int (y86 + p3)), (.int 3), (.ref ac2)])) rfl rfl (hb hby own_d10_20)
  have f90 := Nat.le_trans f62 (Keep.of_wr W89).1
  have f91 := f63.wr W89
  have f92 := f64.other W89 (Or.inl ne9)
  have f93 := f65.other W89 (Or.inl ne9)
  have f94 := f66.other W89 (Or.inl ne9)
  have f95 := f67.other W89 (Or.inl ne9)
  have f96 := f68.other W89 (Or.inl ne9)
  have f97 := f69.other W89 (Or.inl ne9)
  have f98 := f70.other W89 (Or.inl ne9)
  have f99 := f71.other W89 (Or.inl ne9)
  have f100 := f72.other W89 (Or.inl ne9)
  have f101 := f73.other W89 ne14
  have f102 := f74.other W89 ne17
  have f103 := f75.other W89 ne18
  have f104 : own_Low a1 h0 h89 := f76.wr W89 (Nat.le_of_lt lt8)
  have U105 : own_Any Z h89 ac2 .int := own_Any.wr U77 (3 : Int32) ⟨by decide, by decide⟩ W89 rfl
  have N106 := Fr.snoc X89 N78 g22
  have pre107 : ∀ t, own_S p e below T89 m 4 #[sR a1, sI 0, sI p3, sI 7] [(.ref a1), (.int 7)] t → R0 t := fun t k => pre87 t (by
    refine st89 _ ?_
    refine XS.iloadN X89.here hx rfl (hb hby own_d10_21) rfl ?_
    refine XS.iloadN X89.here hx rfl (hb hby own_d10_22) rfl ?_
    refine XS.iconst X89.here hx rfl (hb hby own_d10_23) ?_
    refine XS.iadd X89.here hx rfl (hb hby own_d10_24) rfl ?_
    refine XS.ior X89.here hx rfl (hb hby own_d10_25) rfl ?_
    refine XS.istoreN X89.here hx rfl (hb hby own_d10_26) rfl (l' := #[sR a1, sI 0, sI p3, sI 7]) rfl ?_
    refine XS.goto X89.here hx rfl (pc0 := 27) (pc' := 2) rfl (hb hby own_d10_27) (by decide) (by decide) ?_
    refine XS.iloadN X89.here hx rfl (hb hby own_d10_2) rfl ?_
    refine XS.aloadN X89.here hx rfl (hb hby own_d10_3) rfl rfl ?_
    exact k)
  obtain ⟨T108, X108, e108, st108⟩ := getF X89 hx hZ hown (host := "") (Or.inl hw41) Via.refl e89 f95 (g := (mkF m 4 #[sR a1, sI 0, sI p3, sI 7] [(.ref a1), (.int 7)])) rfl rfl (hb hby own_d10_4)
  have pre109 : ∀ t, own_S p e below T108 m 7 #[sR a1, sI 0, sI p3, sI 7] [(.ref ac2), (.int 7)] t → R0 t := fun t k => pre107 t (by
    refine st108 _ ?_
    exact k)
  obtain ⟨cl110, y110, Ar110, S110, hin110, hat110⟩ := own_Any.get U105 (by simp) (0 : Int32) ⟨by decide, by decide⟩
  have pre111 : ∀ t, own_S p e below T108 m 12 #[sR a1, sI 0, sI p3, sI 7] [(.ref a1)] t → R0 t := fun t k => pre109 t (by
    refine X108.arraylength hx (by rw [e108]; exact Ar110.1) (State.isArrayOf_alike hZ.alike Ar110.2.1) (g := (mkF m 7 #[sR a1, sI 0, sI p3, sI 7] [(.ref ac2), (.int 7)])) rfl rfl (hb hby own_d10_7) _ ?_
    rw [len_of (z := (8 : Int32)) S110 (by decide)]
    refine XS.icmpNo X108.here hx rfl (hb hby own_d10_8) rfl (tlt (by decide : (7 : Int32) < (8 : Int32))).2.1 ?_
    refine XS.aloadN X108.here hx rfl (hb hby own_d10_11) rfl rfl ?_
    exact k)
  obtain ⟨T112, X112, e112, st112⟩ := getF X108 hx hZ hown (host := "") (Or.inl hw41) Via.refl e108 f95 (g := (mkF m 12 #[sR a1, sI 0, sI p3, sI 7] [(.ref a1)])) rfl rfl (hb hby own_d10_12)
  have pre113 : ∀ t, own_S p e below T112 m 17 #[sR a1, sI 0, sI p3, sI 7] [(.int 7), (.ref ac2), (.int 7), (.ref ac2)] t → R0 t := fun t k => pre111 t (by
    refine st112 _ ?_
    refine XS.iloadN X112.here hx rfl (hb hby own_d10_15) rfl ?_
    refine Jvm.Free.XT.dup2 X112.here hx rfl (hb hby own_d10_16) rfl rfl rfl ?_
    exact k)
  obtain ⟨cl114, y114, Ar114, S114, hin114, hat114⟩ := own_Any.get U105 (by simp) (7 : Int32) ⟨by decide, by decide⟩
  have pre115 : ∀ t, own_S p e below T112 m 20 #[sR a1, sI 0, sI p3, sI 7] [(.int (y114 + p3)), (.int 7), (.ref ac2)] t → R0 t := fun t k => pre113 t (by
    refine X112.iaload hx (j := (7 : Int32)) (v := (.int y114)) (by rw [e112]; exact Ar114.1) (State.isArrayOf_alike hZ.alike Ar114.2.1) Ar114.2.2 hin114 hat114 (g := (mkF m 17 #[sR a1, sI 0, sI p3, sI 7] [(.int 7), (.ref ac2), (.int 7), (.ref ac2)])) rfl rfl (hb hby own_d10_17) _ ?_
    refine XS.iloadN X112.here hx rfl (hb hby own_d10_18) rfl ?_
    refine XS.iadd X112.here hx rfl (hb hby own_d10_19) rfl ?_
    exact k)
  obtain ⟨cl116, y116, Ar116, S116, hin116, hat116⟩ := own_Any.get U105 (by simp) (7 : Int32) ⟨by decide, by decide⟩
  obtain ⟨T117, h117, X117, e117, W117, st117⟩ := stI X112 hx hZ e112 Ar116 (j := (7 : Int32)) hin116 (g := (mkF m 20 #[sR a1, sI 0, sI p3, sI 7] [(.int (y114 + p3)), (.int 7), (.ref ac2)])) rfl rfl (hb hby own_d10_20)
  have f118 := Nat.le_trans f90 (Keep.of_wr W117).1
  have f119 := f91.wr W117
  have f120 := f92.other W117 (Or.inl ne9)
  have f121 := f93.other W117 (Or.inl ne9)
  have f122 := f94.other W117 (Or.inl ne9)
  have f123 := f95.other W117 (Or.inl ne9)
  have f124 := f96.other W117 (Or.inl ne9)
  have f125 := f97.other W117 (Or.inl ne9)
  have f126 := f98.other W117 (Or.inl ne9)
  have f127 := f99.other W117 (Or.inl ne9)
  have f128 := f100.other W117 (Or.inl ne9)
  have f129 := f101.other W117 ne14
  have f130 := f102.other W117 ne17
  have f131 := f103.other W117 ne18
  have f132 : own_Low a1 h0 h117 := f104.wr W117 (Nat.le_of_lt lt8)
  have U133 : own_Any Z h117 ac2 .int := own_Any.wr U105 (7 : Int32) ⟨by decide, by decide⟩ W117 rfl
  have N134 := Fr.snoc X117 N106 g22
  have pre135 : ∀ t, own_S p e below T117 m 4 #[sR a1, sI 0, sI p3, sI 15] [(.ref a1), (.int 15)] t → R0 t := fun t k => pre115 t (by
    refine st117 _ ?_
    refine XS.iloadN X117.here hx rfl (hb hby own_d10_21) rfl ?_
    refine XS.iloadN X117.here hx rfl (hb hby own_d10_22) rfl ?_
    refine XS.iconst X117.here hx rfl (hb hby own_d10_23) ?_
    refine XS.iadd X117.here hx rfl (hb hby own_d10_24) rfl ?_
    refine XS.ior X117.here hx rfl (hb hby own_d10_25) rfl ?_
    refine XS.istoreN X117.here hx rfl (hb hby own_d10_26) rfl (l' := #[sR a1, sI 0, sI p3, sI 15]) rfl ?_
    refine XS.goto X117.here hx rfl (pc0 := 27) (pc' := 2) rfl (hb hby own_d10_27) (by decide) (by decide) ?_
    refine XS.iloadN X117.here hx rfl (hb hby own_d10_2) rfl ?_
    refine XS.aloadN X117.here hx rfl (hb hby own_d10_3) rfl rfl ?_
    exact k)
  obtain ⟨T136, X136, e136, st136⟩ := getF X117 hx hZ hown (host := "") (Or.inl hw41) Via.refl e117 f123 (g := (mkF m 4 #[sR a1, sI 0, sI p3, sI 15] [(.ref a1), (.int 15)])) rfl rfl (hb hby own_d10_4)
  have pre137 : ∀ t, own_S p e below T136 m 7 #[sR a1, sI 0, sI p3, sI 15] [(.ref ac2), (.int 15)] t → R0 t := fun t k => pre135 t (by
    refine st136 _ ?_
    exact k)
  obtain ⟨cl138, y138, Ar138, S138, hin138, hat138⟩ := own_Any.get U133 (by simp) (0 : Int32) ⟨by decide, by decide⟩
  have pre139 : ∀ t, own_S p e below T136 m 32 #[sR a1, sI 0, sI p3, sI 15] [(.ref a1), (.ref a1)] t → R0 t := fun t k => pre137 t (by
    refine X136.arraylength hx (by rw [e136]; exact Ar138.1) (State.isArrayOf_alike hZ.alike Ar138.2.1) (g := (mkF m 7 #[sR a1, sI 0, sI p3, sI 15] [(.ref ac2), (.int 15)])) rfl rfl (hb hby own_d10_7) _ ?_
    rw [len_of (z := (8 : Int32)) S138 (by decide)]
    refine XS.icmpYes X136.here hx rfl (pc0 := 8) (pc' := 30) rfl (hb hby own_d10_8) rfl (flt (by decide : ¬ ((15 : Int32) < (8 : Int32)))).2.1 (by decide) (by decide) ?_
    refine XS.aloadN X136.here hx rfl (hb hby own_d10_30) rfl rfl ?_
    refine XS.dup X136.here hx rfl (hb hby own_d10_31) rfl rfl ?_
    exact k)
  obtain ⟨T140, X140, e140, st140⟩ := getF X136 hx hZ hown (host := "") (Or.inl hw80) Via.refl e136 f128 (g := (mkF m 32 #[sR a1, sI 0, sI p3, sI 15] [(.ref a1), (.ref a1)])) rfl rfl (hb hby own_d10_32)
  have pre141 : ∀ t, own_S p e below T140 m 37 #[sR a1, sI 0, sI p3, sI 15] [(.int (cn2 + p3)), (.ref a1)] t → R0 t := fun t k => pre139 t (by
    refine st140 _ ?_
    refine XS.iloadN X140.here hx rfl (hb hby own_d10_35) rfl ?_
    refine XS.iadd X140.here hx rfl (hb hby own_d10_36) rfl ?_
    exact k)
  obtain ⟨T142, h142, X142, e142, W142, st142⟩ := putF X140 hx hZ hown (host := "") (Or.inl hw80) Via.refl e140 f128 f119 (Or.inl hw81) hw24 (ty := .int) (by decide) rfl rfl (g := (mkF m 37 #[sR a1, sI 0, sI p3, sI 15] [(.int (cn2 + p3)), (.ref a1)])) rfl rfl (hb hby own_d10_37)
  have f143 := Nat.le_trans f118 (Keep.of_wr W142).1
  have f144 := f119.wr W142
  have f145 := f120.other W142 (Or.inr (slot_ne (Or.inl hw33) (Or.inl hw81) (by decide) (t := (.array (.object "com/example/adlim/adlim/client/Waiter"))) (t' := .int) (by decide) (by decide)))
  have f146 := f121.other W142 (Or.inr (slot_ne (Or.inl hw36) (Or.inl hw81) (by decide) (t := (.array .long)) (t' := .int) (by decide) (by decide)))
  have f147 := f122.other W142 (Or.inr (slot_ne (Or.inl hw39) (Or.inl hw81) (by decide) (t := (.array .boolean)) (t' := .int) (by decide) (by decide)))
  have f148 := f123.other W142 (Or.inr (slot_ne (Or.inl hw42) (Or.inl hw81) (by decide) (t := (.array .int)) (t' := .int) (by decide) (by decide)))
  have f149 := f124.other W142 (Or.inr (slot_ne (Or.inr hw44) (Or.inl hw81) (by decide) (t := (.object "com/example/adlim/adlim/client/CeilingQueue")) (t' := .int) (by decide) (by decide)))
  have f150 := f125.other W142 (Or.inr (slot_ne (Or.inl hw75) (Or.inl hw81) (by decide) (t := .int) (t' := .int) (by decide) (by decide)))
  have f151 := f126.other W142 (Or.inr (slot_ne (Or.inl hw67) (Or.inl hw81) (by decide) (t := .int) (t' := .int) (by decide) (by decide)))
  have f152 := f127.other W142 (Or.inr (slot_ne (Or.inl hw55) (Or.inl hw81) (by decide) (t := .int) (t' := .int) (by decide) (by decide)))
  have f153 := f129.other W142 (Ne.symm ne3)
  have f154 := f130.other W142 (Ne.symm ne5)
  have f155 := f131.other W142 (Ne.symm ne7)
  have f156 := U133.other W142 (Ne.symm ne9)
  have f157 : own_Low a1 h0 h142 := f132.wr W142 (Nat.le_refl _)
  have f158 := f128.same W142
  have N159 := Fr.snoc X142 N134 gq2
  have pre160 : ∀ t, own_S p e below T142 m 40 #[sR a1, sI 0, sI p3, sI 15] [] t → R0 t := fun t k => pre141 t (by
    refine st142 _ ?_
    exact k)
  obtain ⟨fs, hr, hrun, hended, hW, hsame⟩ := X142.leave (v := none) (fun _ => rfl)
  refine ⟨_, _, cast (congrFun hR0 _) (pre160 _ (X142.returnOut hx Bd.returns (hb hby own_d10_40) hr)), hrun, hended, _, _, rfl, ?_, ⟨_, rfl⟩, hW, hsame.mono (by decide) (by decide)⟩
  show own_Q10s0 Z _ _ _ _ _ _ _ _ _ _ _ h0 n0 _ T142.heap _
  rw [e142]
  have Q161 : own_QI Z h142 n0 a1 x0 x1 x2 o0 o1 o2 hd tl sz := ⟨aw2, ao2, au2, ac2, kw2, ko2, (cn2 + p3), f144, f145, f146, f147, f148, f149, f150, f151, f152, f158, f153, Ow2, f154, f155, f156, la2, lb2, lc2, ld2, gq2⟩
  exact ⟨rfl, N159, f157, Q161⟩
theorem own_ef_10s1 (m : MethodId) (x0 : Addr) (x1 : Int32) (x2 : Int32) : entryFrame m #[(.ref x0), (.int x1), (.int x2)] 4 = mkF m 0 #[sR x0, sI x1, sI x2, .unset] [] := by first | (simp [entryFrame, mkF, argsToLocals, Value.category]; done) | rfl
def own_Q10s1 (Z : State) (a1 : Addr) (p3 : Int32) (x0 : Value) (x1 : Value) (x2 : Value) (o0 : Int64) (o1 : Int64) (o2 : Int64) (hd : Int32) (tl : Int32) (sz : Int32) (h0 : Heap) (n0 : Nat) (v : Option Value) (h : Heap) (L : List Loc) : Prop := v = none ∧ Fr n0 L ∧ own_Low a1 h0 h ∧ own_QI Z h n0 a1 x0 x1 x2 o0 o1 o2 hd tl sz
set_option maxRecDepth 65536 in
set_option maxHeartbeats 40000000 in
theorem own_rm10s1 (l : Launch) (Z : State) (a0 : Array Value) (hw : ∀ d ∈ tables_1, d.before a0 Z = true) (ws : List Jvm.Cond) (a1 : Addr) (p3 : Int32) (x0 : Value) (x1 : Value) (x2 : Value) (o0 : Int64) (o1 : Int64) (o2 : Int64) (hd : Int32) (tl : Int32) (sz : Int32) (h0 : Heap) (n0 : Nat) (Z0 : n0 ≤ h0.size) (hQ : own_QI Z h0 n0 a1 x0 x1 x2 o0 o1 o2 hd tl sz) :
    MetFree l own_y5 (head1 (Jvm.Cond.code own_y5 prog_63_method_17_code 4 none :: ws) ({ frames := 0, cells := 0, slots := 0, locals := 0 } : Room)) (fun a U => a = #[(.ref a1), (.int 1), (.int p3)] ∧ Z.Warmed39 U.vm ∧ U.heap = h0) (fun _ _ _ _ _ => True) (fun _ U o U' => ∃ v L, o = .returned v ∧ own_Q10s1 Z a1 p3 x0 x1 x2 o0 o1 o2 hd tl sz h0 n0 v U'.heap L ∧ FrameEnd U o U' L ({ frames := 0, cells := 0, slots := 0, locals := 0 } : Room).cells ({ frames := 0, cells := 0, slots := 0, locals := 0 } : Room).slots) := by
  refine MetFree.of_bodySF (plainFor_of_name own_pn_2) hisR ?_
  intro p e s m args below meth c s₁ Bd hml0 hP hK
  obtain ⟨rfl, hZ, hh⟩ := hP
  have hw24 := hw _ (List.mem_of_getElem? (i := 24) rfl)
  have hw33 := hw _ (List.mem_of_getElem? (i := 33) rfl)
  have hw36 := hw _ (List.mem_of_getElem? (i := 36) rfl)
  have hw39 := hw _ (List.mem_of_getElem? (i := 39) rfl)
  have hw41 := hw _ (List.mem_of_getElem? (i := 41) rfl)
  have hw42 := hw _ (List.mem_of_getElem? (i := 42) rfl)
  have hw44 := hw _ (List.mem_of_getElem? (i := 44) rfl)
  have hw55 := hw _ (List.mem_of_getElem? (i := 55) rfl)
  have hw67 := hw _ (List.mem_of_getElem? (i := 67) rfl)
  have hw75 := hw _ (List.mem_of_getElem? (i := 75) rfl)
  have hw80 := hw _ (List.mem_of_getElem? (i := 80) rfl)
  have hw81 := hw _ (List.mem_of_getElem? (i := 81) rfl)
  have hx := Bd.exec
  have hby := Bd.bytes
  have hml : c.maxLocals = 4 := hml0
  have hown : s.vm.findClass "com/example/adlim/adlim/client/WaiterQueue" = some m.cls := findClass_of_methodNamed Bd.named
  have hnm := (name_of_methodNamed Bd.named Bd.method).1
  have X0 : Stand p l e ({ frames := 0, cells := 0, slots := 0, locals := 0 } : Room) s m #[(.ref a1), (.int 1), (.int p3)] below meth c s₁ [] 0 0 := Stand.of_body Bd
  have e0 : s₁.heap = h0 := by rw [← hh, Bd.state]; rfl
  have N0 := Fr.nil n0
  obtain ⟨R0, hR0⟩ : ∃ R : State → Prop, R = fun t => Steps p.tables e below (s₁.setTop (entryFrame m #[(.ref a1), (.int 1), (.int p3)] 4)) t := ⟨_, rfl⟩
  have pre0 : ∀ t, Steps p.tables e below (s₁.setTop (mkF m 0 #[sR a1, sI 1, sI p3, sU] [])) t → R0 t := fun t k => by rw [hR0]; exact castTop (own_ef_10s1 m a1 (1 : Int32) p3) k
  have f1 : own_Low a1 h0 h0 := own_Low.refl _ _
  obtain ⟨aw2, ao2, au2, ac2, kw2, ko2, cn2, Ex2, Fw2, Fo2, Fu2, Fc2, Fe2, Fh2, Ft2, Fs2, Fn2, Vw2, Ow2, Vo2, Uu2, Uc2, la2, lb2, lc2, ld2, gq2⟩ := id hQ
  have ne3 : a1 ≠ aw2 := Nat.ne_of_lt la2
  have lt4 : a1 < ao2 := (Nat.lt_trans la2 lb2)
  have ne5 : a1 ≠ ao2 := Nat.ne_of_lt lt4
  have lt6 : a1 < au2 := (Nat.lt_trans (Nat.lt_trans la2 lb2) lc2)
  have ne7 : a1 ≠ au2 := Nat.ne_of_lt lt6
  have lt8 : a1 < ac2 := (Nat.lt_trans (Nat.lt_trans (Nat.lt_trans la2 lb2) lc2) ld2)
  have ne9 : a1 ≠ ac2 := Nat.ne_of_lt lt8
  have ne10 : aw2 ≠ ao2 := Nat.ne_of_lt lb2
  have lt11 : aw2 < au2 := (Nat.lt_trans lb2 lc2)
  have ne12 : aw2 ≠ au2 := Nat.ne_of_lt lt11
  have lt13 : aw2 < ac2 := (Nat.lt_trans (Nat.lt_trans lb2 lc2) ld2)
  have ne14 : aw2 ≠ ac2 := Nat.ne_of_lt lt13
  have ne15 : ao2 ≠ au2 := Nat.ne_of_lt lc2
  have lt16 : ao2 < ac2 := (Nat.lt_trans lc2 ld2)
  have ne17 : ao2 ≠ ac2 := Nat.ne_of_lt lt16
  have ne18 : au2 ≠ ac2 := Nat.ne_of_lt ld2
  have g19 : n0 ≤ aw2 := Nat.le_trans gq2 (Nat.le_of_lt la2)
  have g20 : n0 ≤ ao2 := Nat.le_trans gq2 (Nat.le_of_lt lt4)
  have g21 : n0 ≤ au2 := Nat.le_trans gq2 (Nat.le_of_lt lt6)
  have g22 : n0 ≤ ac2 := Nat.le_trans gq2 (Nat.le_of_lt lt8)
  have pre23 : ∀ t, own_S p e below s₁ m 4 #[sR a1, sI 1, sI p3, sI 1] [(.ref a1), (.int 1)] t → R0 t := fun t k => pre0 t (by
    refine XS.iloadN X0.here hx rfl (hb hby own_d10_0) rfl ?_
    refine XS.istoreN X0.here hx rfl (hb hby own_d10_1) rfl (l' := #[sR a1, sI 1, sI p3, sI 1]) rfl ?_
    refine XS.iloadN X0.here hx rfl (hb hby own_d10_2) rfl ?_
    refine XS.aloadN X0.here hx rfl (hb hby own_d10_3) rfl rfl ?_
    exact k)
  obtain ⟨T24, X24, e24, st24⟩ := getF X0 hx hZ hown (host := "") (Or.inl hw41) Via.refl e0 Fc2 (g := (mkF m 4 #[sR a1, sI 1, sI p3, sI 1] [(.ref a1), (.int 1)])) rfl rfl (hb hby own_d10_4)
  have pre25 : ∀ t, own_S p e below T24 m 7 #[sR a1, sI 1, sI p3, sI 1] [(.ref ac2), (.int 1)] t → R0 t := fun t k => pre23 t (by
    refine st24 _ ?_
    exact k)
  obtain ⟨cl26, y26, Ar26, S26, hin26, hat26⟩ := own_Any.get Uc2 (by simp) (0 : Int32) ⟨by decide, by decide⟩
  have pre27 : ∀ t, own_S p e below T24 m 12 #[sR a1, sI 1, sI p3, sI 1] [(.ref a1)] t → R0 t := fun t k => pre25 t (by
    refine X24.arraylength hx (by rw [e24]; exact Ar26.1) (State.isArrayOf_alike hZ.alike Ar26.2.1) (g := (mkF m 7 #[sR a1, sI 1, sI p3, sI 1] [(.ref ac2), (.int 1)])) rfl rfl (hb hby own_d10_7) _ ?_
    rw [len_of (z := (8 : Int32)) S26 (by decide)]
    refine XS.icmpNo X24.here hx rfl (hb hby own_d10_8) rfl (tlt (by decide : (1 : Int32) < (8 : Int32))).2.1 ?_
    refine XS.aloadN X24.here hx rfl (hb hby own_d10_11) rfl rfl ?_
    exact k)
  obtain ⟨T28, X28, e28, st28⟩ := getF X24 hx hZ hown (host := "") (Or.inl hw41) Via.refl e24 Fc2 (g := (mkF m 12 #[sR a1, sI 1, sI p3, sI 1] [(.ref a1)])) rfl rfl (hb hby own_d10_12)
  have pre29 : ∀ t, own_S p e below T28 m 17 #[sR a1, sI 1, sI p3, sI 1] [(.int 1), (.ref ac2), (.int 1), (.ref ac2)] t → R0 t := fun t k => pre27 t (by
    refine st28 _ ?_
    refine XS.iloadN X28.here hx rfl (hb hby own_d10_15) rfl ?_
    refine Jvm.Free.XT.dup2 X28.here hx rfl (hb hby own_d10_16) rfl rfl rfl ?_
    exact k)
  obtain ⟨cl30, y30, Ar30, S30, hin30, hat30⟩ := own_Any.get Uc2 (by simp) (1 : Int32) ⟨by decide, by decide⟩
  have pre31 : ∀ t, own_S p e below T28 m 20 #[sR a1, sI 1, sI p3, sI 1] [(.int (y30 + p3)), (.int 1), (.ref ac2)] t → R0 t := fun t k => pre29 t (by
    refine X28.iaload hx (j := (1 : Int32)) (v := (.int y30)) (by rw [e28]; exact Ar30.1) (State.isArrayOf_alike hZ.alike Ar30.2.1) Ar30.2.2 hin30 hat30 (g := (mkF m 17 #[sR a1, sI 1, sI p3, sI 1] [(.int 1), (.ref ac2), (.int 1), (.ref ac2)])) rfl rfl (hb hby own_d10_17) _ ?_
    refine XS.iloadN X28.here hx rfl (hb hby own_d10_18) rfl ?_
    refine XS.iadd X28.here hx rfl (hb hby own_d10_19) rfl ?_
    exact k)
  obtain ⟨cl32, y32, Ar32, S32, hin32, hat32⟩ := own_Any.get Uc2 (by simp) (1 : Int32) ⟨by decide, by decide⟩
  obtain ⟨T33, h33, X33, e33, W33, st33⟩ := stI X28 hx hZ e28 Ar32 (j := (1 : Int32)) hin32 (g := (mkF m 20 #[sR a1, sI 1, sI p3, sI 1] [(.int (y30 + p3)), (.int 1), (.ref ac2)])) rfl rfl (hb hby own_d10_20)
  have f34 := Nat.le_trans Z0 (Keep.of_wr W33).1
  have f35 := Ex2.wr W33
  have f36 := Fw2.other W33 (Or.inl ne9)
  have f37 := Fo2.other W33 (Or.inl ne9)
  have f38 := Fu2.other W33 (Or.inl ne9)
  have f39 := Fc2.other W33 (Or.inl ne9)
  have f40 := Fe2.other W33 (Or.inl ne9)
  have f41 := Fh2.other W33 (Or.inl ne9)
  have f42 := Ft2.other W33 (Or.inl ne9)
  have f43 := Fs2.other W33 (Or.inl ne9)
  have f44 := Fn2.other W33 (Or.inl ne9)
  have f45 := Vw2.other W33 ne14
  have f46 := Vo2.other W33 ne17
  have f47 := Uu2.other W33 ne18
  have f48 : own_Low a1 h0 h33 := f1.wr W33 (Nat.le_of_lt lt8)
  have U49 : own_Any Z h33 ac2 .int := own_Any.wr Uc2 (1 : Int32) ⟨by decide, by decide⟩ W33 rfl
  have N50 := Fr.snoc X33 N0 g22
  have pre51 : ∀ t, own_S p e below T33 m 4 #[sR a1, sI 1, sI p3, sI 3] [(.ref a1), (.int 3)] t → R0 t := fun t k => pre31 t (by
    refine st33 _ ?_
    refine XS.iloadN X33.here hx rfl (hb hby own_d10_21) rfl ?_
    refine XS.iloadN X33.here hx rfl (hb hby own_d10_22) rfl ?_
    refine XS.iconst X33.here hx rfl (hb hby own_d10_23) ?_
    refine XS.iadd X33.here hx rfl (hb hby own_d10_24) rfl ?_
    refine XS.ior X33.here hx rfl (hb hby own_d10_25) rfl ?_
    refine XS.istoreN X33.here hx rfl (hb hby own_d10_26) rfl (l' := #[sR a1, sI 1, sI p3, sI 3]) rfl ?_
    refine XS.goto X33.here hx rfl (pc0 := 27) (pc' := 2) rfl (hb hby own_d10_27) (by decide) (by decide) ?_
    refine XS.iloadN X33.here hx rfl (hb hby own_d10_2) rfl ?_
    refine XS.aloadN X33.here hx rfl (hb hby own_d10_3) rfl rfl ?_
    exact k)
  obtain ⟨T52, X52, e52, st52⟩ := getF X33 hx hZ hown (host := "") (Or.inl hw41) Via.refl e33 f39 (g := (mkF m 4 #[sR a1, sI 1, sI p3, sI 3] [(.ref a1), (.int 3)])) rfl rfl (hb hby own_d10_4)
  have pre53 : ∀ t, own_S p e below T52 m 7 #[sR a1, sI 1, sI p3, sI 3] [(.ref ac2), (.int 3)] t → R0 t := fun t k => pre51 t (by
    refine st52 _ ?_
    exact k)
  obtain ⟨cl54, y54, Ar54, S54, hin54, hat54⟩ := own_Any.get U49 (by simp) (0 : Int32) ⟨by decide, by decide⟩
  have pre55 : ∀ t, own_S p e below T52 m 12 #[sR a1, sI 1, sI p3, sI 3] [(.ref a1)] t → R0 t := fun t k => pre53 t (by
    refine X52.arraylength hx (by rw [e52]; exact Ar54.1) (State.isArrayOf_alike hZ.alike Ar54.2.1) (g := (mkF m 7 #[sR a1, sI 1, sI p3, sI 3] [(.ref ac2), (.int 3)])) rfl rfl (hb hby own_d10_7) _ ?_
    rw [len_of (z := (8 : Int32)) S54 (by decide)]
    refine XS.icmpNo X52.here hx rfl (hb hby own_d10_8) rfl (tlt (by decide : (3 : Int32) < (8 : Int32))).2.1 ?_
    refine XS.aloadN X52.here hx rfl (hb hby own_d10_11) rfl rfl ?_
    exact k)
  obtain ⟨T56, X56, e56, st56⟩ := getF X52 hx hZ hown (host := "") (Or.inl hw41) Via.refl e52 f39 (g := (mkF m 12 #[sR a1, sI 1, sI p3, sI 3] [(.ref a1)])) rfl rfl (hb hby own_d10_12)
  have pre57 : ∀ t, own_S p e below T56 m 17 #[sR a1, sI 1, sI p3, sI 3] [(.int 3), (.ref ac2), (.int 3), (.ref ac2)] t → R0 t := fun t k => pre55 t (by
    refine st56 _ ?_
    refine XS.iloadN X56.here hx rfl (hb hby own_d10_15) rfl ?_
    refine Jvm.Free.XT.dup2 X56.here hx rfl (hb hby own_d10_16) rfl rfl rfl ?_
    exact k)
  obtain ⟨cl58, y58, Ar58, S58, hin58, hat58⟩ := own_Any.get U49 (by simp) (3 : Int32) ⟨by decide, by decide⟩
  have pre59 : ∀ t, own_S p e below T56 m 20 #[sR a1, sI 1, sI p3, sI 3] [(.int (y58 + p3)), (.int 3), (.ref ac2)] t → R0 t := fun t k => pre57 t (by
    refine X56.iaload hx (j := (3 : Int32)) (v := (.int y58)) (by rw [e56]; exact Ar58.1) (State.isArrayOf_alike hZ.alike Ar58.2.1) Ar58.2.2 hin58 hat58 (g := (mkF m 17 #[sR a1, sI 1, sI p3, sI 3] [(.int 3), (.ref ac2), (.int 3), (.ref ac2)])) rfl rfl (hb hby own_d10_17) _ ?_
    refine XS.iloadN X56.here hx rfl (hb hby own_d10_18) rfl ?_
    refine XS.iadd X56.here hx rfl (hb hby own_d10_19) rfl ?_
    exact k)
  obtain ⟨cl60, y60, Ar60, S60, hin60, hat60⟩ := own_Any.get U49 (by simp) (3 : Int32) ⟨by decide, by decide⟩
  obtain ⟨T61, h61, X61, e61, W61, st61⟩ := stI X56 hx hZ e56 Ar60 (j := (3 : Int32)) hin60 (g := (mkF m 20 #[sR a1, sI 1, sI p3, sI 3] [(.int (y58 + p3)), (.int 3), (.ref ac2)])) rfl rfl (hb hby own_d10_20)
  have f62 := Nat.le_trans f34 (Keep.of_wr W61).1
  have f63 := f35.wr W61
  have f64 := f36.other W61 (Or.inl ne9)
  have f65 := f37.other W61 (Or.inl ne9)
  have f66 := f38.other W61 (Or.inl ne9)
  have f67 := f39.other W61 (Or.inl ne9)
  have f68 := f40.other W61 (Or.inl ne9)
  have f69 := f41.other W61 (Or.inl ne9)
  have f70 := f42.other W61 (Or.inl ne9)
  have f71 := f43.other W61 (Or.inl ne9)
  have f72 := f44.other W61 (Or.inl ne9)
  have f73 := f45.other W61 ne14
  have f74 := f46.other W61 ne17
  have f75 := f47.other W61 ne18
  have f76 : own_Low a1 h0 h61 := f48.wr W61 (Nat.le_of_lt lt8)
  have U77 : own_Any Z h61 ac2 .int := own_Any.wr U49 (3 : Int32) ⟨by decide, by decide⟩ W61 rfl
  have N78 := Fr.snoc X61 N50 g22
  have pre79 : ∀ t, own_S p e below T61 m 4 #[sR a1, sI 1, sI p3, sI 7] [(.ref a1), (.int 7)] t → R0 t := fun t k => pre59 t (by
    refine st61 _ ?_
    refine XS.iloadN X61.here hx rfl (hb hby own_d10_21) rfl ?_
    refine XS.iloadN X61.here hx rfl (hb hby own_d10_22) rfl ?_
    refine XS.iconst X61.here hx rfl (hb hby own_d10_23) ?_
    refine XS.iadd X61.here hx rfl (hb hby own_d10_24) rfl ?_
    refine XS.ior X61.here hx rfl (hb hby own_d10_25) rfl ?_
    refine XS.istoreN X61.here hx rfl (hb hby own_d10_26) rfl (l' := #[sR a1, sI 1, sI p3, sI 7]) rfl ?_
    refine XS.goto X61.here hx rfl (pc0 := 27) (pc' := 2) rfl (hb hby own_d10_27) (by decide) (by decide) ?_
    refine XS.iloadN X61.here hx rfl (hb hby own_d10_2) rfl ?_
    refine XS.aloadN X61.here hx rfl (hb hby own_d10_3) rfl rfl ?_
    exact k)
  obtain ⟨T80, X80, e80, st80⟩ := getF X61 hx hZ hown (host := "") (Or.inl hw41) Via.refl e61 f67 (g := (mkF m 4 #[sR a1, sI 1, sI p3, sI 7] [(.ref a1), (.int 7)])) rfl rfl (hb hby own_d10_4)
  have pre81 : ∀ t, own_S p e below T80 m 7 #[sR a1, sI 1, sI p3, sI 7] [(.ref ac2), (.int 7)] t → R0 t := fun t k => pre79 t (by
    refine st80 _ ?_
    exact k)
  obtain ⟨cl82, y82, Ar82, S82, hin82, hat82⟩ := own_Any.get U77 (by simp) (0 : Int32) ⟨by decide, by decide⟩
  have pre83 : ∀ t, own_S p e below T80 m 12 #[sR a1, sI 1, sI p3, sI 7] [(.ref a1)] t → R0 t := fun t k => pre81 t (by
    refine X80.arraylength hx (by rw [e80]; exact Ar82.1) (State.isArrayOf_alike hZ.alike Ar82.2.1) (g := (mkF m 7 #[sR a1, sI 1, sI p3, sI 7] [(.ref ac2), (.int 7)])) rfl rfl (hb hby own_d10_7) _ ?_
    rw [len_of (z := (8 : Int32)) S82 (by decide)]
    refine XS.icmpNo X80.here hx rfl (hb hby own_d10_8) rfl (tlt (by decide : (7 : Int32) < (8 : Int32))).2.1 ?_
    refine XS.aloadN X80.here hx rfl (hb hby own_d10_11) rfl rfl ?_
    exact k)
  obtain ⟨T84, X84, e84, st84⟩ := getF X80 hx hZ hown (host := "") (Or.inl hw41) Via.refl e80 f67 (g := (mkF m 12 #[sR a1, sI 1, sI p3, sI 7] [(.ref a1)])) rfl rfl (hb hby own_d10_12)
  have pre85 : ∀ t, own_S p e below T84 m 17 #[sR a1, sI 1, sI p3, sI 7] [(.int 7), (.ref ac2), (.int 7), (.ref ac2)] t → R0 t := fun t k => pre83 t (by
    refine st84 _ ?_
    refine XS.iloadN X84.here hx rfl (hb hby own_d10_15) rfl ?_
    refine Jvm.Free.XT.dup2 X84.here hx rfl (hb hby own_d10_16) rfl rfl rfl ?_
    exact k)
  obtain ⟨cl86, y86, Ar86, S86, hin86, hat86⟩ := own_Any.get U77 (by simp) (7 : Int32) ⟨by decide, by decide⟩
  have pre87 : ∀ t, own_S p e below T84 m 20 #[sR a1, sI 1, sI p3, sI 7] [(.int (y86 + p3)), (.int 7), (.ref ac2)] t → R0 t := fun t k => pre85 t (by
    refine X84.iaload hx (j := (7 : Int32)) (v := (.int y86)) (by rw [e84]; exact Ar86.1) (State.isArrayOf_alike hZ.alike Ar86.2.1) Ar86.2.2 hin86 hat86 (g := (mkF m 17 #[sR a1, sI 1, sI p3, sI 7] [(.int 7), (.ref ac2), (.int 7), (.ref ac2)])) rfl rfl (hb hby own_d10_17) _ ?_
    refine XS.iloadN X84.here hx rfl (hb hby own_d10_18) rfl ?_
    refine XS.iadd X84.here hx rfl (hb hby own_d10_19) rfl ?_
    exact k)
  obtain ⟨cl88, y88, Ar88, S88, hin88, hat88⟩ := own_Any.get U77 (by simp) (7 : Int32) ⟨by decide, by decide⟩
  obtain ⟨T89, h89, X89, e89, W89, st89⟩ := stI X84 hx hZ e84 Ar88 (j := (7 : Int32)) hin88 (g := (mkF m 20 #[sR a1, sI 1, sI p3, sI 7] [(.int (y86 + p3)), (.int 7), (.ref ac2)])) rfl rfl (hb hby own_d10_20)
  have f90 := Nat.le_trans f62 (Keep.of_wr W89).1
  have f91 := f63.wr W89
  have f92 := f64.other W89 (Or.inl ne9)
  have f93 := f65.other W89 (Or.inl ne9)
  have f94 := f66.other W89 (Or.inl ne9)
  have f95 := f67.other W89 (Or.inl ne9)
  have f96 := f68.other W89 (Or.inl ne9)
  have f97 := f69.other W89 (Or.inl ne9)
  have f98 := f70.other W89 (Or.inl ne9)
  have f99 := f71.other W89 (Or.inl ne9)
  have f100 := f72.other W89 (Or.inl ne9)
  have f101 := f73.other W89 ne14
  have f102 := f74.other W89 ne17
  have f103 := f75.other W89 ne18
  have f104 : own_Low a1 h0 h89 := f76.wr W89 (Nat.le_of_lt lt8)
  have U105 : own_Any Z h89 ac2 .int := own_Any.wr U77 (7 : Int32) ⟨by decide, by decide⟩ W89 rfl
  have N106 := Fr.snoc X89 N78 g22
  have pre107 : ∀ t, own_S p e below T89 m 4 #[sR a1, sI 1, sI p3, sI 15] [(.ref a1), (.int 15)] t → R0 t := fun t k => pre87 t (by
    refine st89 _ ?_
    refine XS.iloadN X89.here hx rfl (hb hby own_d10_21) rfl ?_
    refine XS.iloadN X89.here hx rfl (hb hby own_d10_22) rfl ?_
    refine XS.iconst X89.here hx rfl (hb hby own_d10_23) ?_
    refine XS.iadd X89.here hx rfl (hb hby own_d10_24) rfl ?_
    refine XS.ior X89.here hx rfl (hb hby own_d10_25) rfl ?_
    refine XS.istoreN X89.here hx rfl (hb hby own_d10_26) rfl (l' := #[sR a1, sI 1, sI p3, sI 15]) rfl ?_
    refine XS.goto X89.here hx rfl (pc0 := 27) (pc' := 2) rfl (hb hby own_d10_27) (by decide) (by decide) ?_
    refine XS.iloadN X89.here hx rfl (hb hby own_d10_2) rfl ?_
    refine XS.aloadN X89.here hx rfl (hb hby own_d10_3) rfl rfl ?_
    exact k)
  obtain ⟨T108, X108, e108, st108⟩ := getF X89 hx hZ hown (host := "") (Or.inl hw41) Via.refl e89 f95 (g := (mkF m 4 #[sR a1, sI 1, sI p3, sI 15] [(.ref a1), (.int 15)])) rfl rfl (hb hby own_d10_4)
  have pre109 : ∀ t, own_S p e below T108 m 7 #[sR a1, sI 1, sI p3, sI 15] [(.ref ac2), (.int 15)] t → R0 t := fun t k => pre107 t (by
    refine st108 _ ?_
    exact k)
  obtain ⟨cl110, y110, Ar110, S110, hin110, hat110⟩ := own_Any.get U105 (by simp) (0 : Int32) ⟨by decide, by decide⟩
  have pre111 : ∀ t, own_S p e below T108 m 32 #[sR a1, sI 1, sI p3, sI 15] [(.ref a1), (.ref a1)] t → R0 t := fun t k => pre109 t (by
    refine X108.arraylength hx (by rw [e108]; exact Ar110.1) (State.isArrayOf_alike hZ.alike Ar110.2.1) (g := (mkF m 7 #[sR a1, sI 1, sI p3, sI 15] [(.ref ac2), (.int 15)])) rfl rfl (hb hby own_d10_7) _ ?_
    rw [len_of (z := (8 : Int32)) S110 (by decide)]
    refine XS.icmpYes X108.here hx rfl (pc0 := 8) (pc' := 30) rfl (hb hby own_d10_8) rfl (flt (by decide : ¬ ((15 : Int32) < (8 : Int32)))).2.1 (by decide) (by decide) ?_
    refine XS.aloadN X108.here hx rfl (hb hby own_d10_30) rfl rfl ?_
    refine XS.dup X108.here hx rfl (hb hby own_d10_31) rfl rfl ?_
    exact k)
  obtain ⟨T112, X112, e112, st112⟩ := getF X108 hx hZ hown (host := "") (Or.inl hw80) Via.refl e108 f100 (g := (mkF m 32 #[sR a1, sI 1, sI p3, sI 15] [(.ref a1), (.ref a1)])) rfl rfl (hb hby own_d10_32)
  have pre113 : ∀ t, own_S p e below T112 m 37 #[sR a1, sI 1, sI p3, sI 15] [(.int (cn2 + p3)), (.ref a1)] t → R0 t := fun t k => pre111 t (by
    refine st112 _ ?_
    refine XS.iloadN X112.here hx rfl (hb hby own_d10_35) rfl ?_
    refine XS.iadd X112.here hx rfl (hb hby own_d10_36) rfl ?_
    exact k)
  obtain ⟨T114, h114, X114, e114, W114, st114⟩ := putF X112 hx hZ hown (host := "") (Or.inl hw80) Via.refl e112 f100 f91 (Or.inl hw81) hw24 (ty := .int) (by decide) rfl rfl (g := (mkF m 37 #[sR a1, sI 1, sI p3, sI 15] [(.int (cn2 + p3)), (.ref a1)])) rfl rfl (hb hby own_d10_37)
  have f115 := Nat.le_trans f90 (Keep.of_wr W114).1
  have f116 := f91.wr W114
  have f117 := f92.other W114 (Or.inr (slot_ne (Or.inl hw33) (Or.inl hw81) (by decide) (t := (.array (.object "com/example/adlim/adlim/client/Waiter"))) (t' := .int) (by decide) (by decide)))
  have f118 := f93.other W114 (Or.inr (slot_ne (Or.inl hw36) (Or.inl hw81) (by decide) (t := (.array .long)) (t' := .int) (by decide) (by decide)))
  have f119 := f94.other W114 (Or.inr (slot_ne (Or.inl hw39) (Or.inl hw81) (by decide) (t := (.array .boolean)) (t' := .int) (by decide) (by decide)))
  have f120 := f95.other W114 (Or.inr (slot_ne (Or.inl hw42) (Or.inl hw81) (by decide) (t := (.array .int)) (t' := .int) (by decide) (by decide)))
  have f121 := f96.other W114 (Or.inr (slot_ne (Or.inr hw44) (Or.inl hw81) (by decide) (t := (.object "com/example/adlim/adlim/client/CeilingQueue")) (t' := .int) (by decide) (by decide)))
  have f122 := f97.other W114 (Or.inr (slot_ne (Or.inl hw75) (Or.inl hw81) (by decide) (t := .int) (t' := .int) (by decide) (by decide)))
  have f123 := f98.other W114 (Or.inr (slot_ne (Or.inl hw67) (Or.inl hw81) (by decide) (t := .int) (t' := .int) (by decide) (by decide)))
  have f124 := f99.other W114 (Or.inr (slot_ne (Or.inl hw55) (Or.inl hw81) (by decide) (t := .int) (t' := .int) (by decide) (by decide)))
  have f125 := f101.other W114 (Ne.symm ne3)
  have f126 := f102.other W114 (Ne.symm ne5)
  have f127 := f103.other W114 (Ne.symm ne7)
  have f128 := U105.other W114 (Ne.symm ne9)
  have f129 : own_Low a1 h0 h114 := f104.wr W114 (Nat.le_refl _)
  have f130 := f100.same W114
  have N131 := Fr.snoc X114 N106 gq2
  have pre132 : ∀ t, own_S p e below T114 m 40 #[sR a1, sI 1, sI p3, sI 15] [] t → R0 t := fun t k => pre113 t (by
    refine st114 _ ?_
    exact k)
  obtain ⟨fs, hr, hrun, hended, hW, hsame⟩ := X114.leave (v := none) (fun _ => rfl)
  refine ⟨_, _, cast (congrFun hR0 _) (pre132 _ (X114.returnOut hx Bd.returns (hb hby own_d10_40) hr)), hrun, hended, _, _, rfl, ?_, ⟨_, rfl⟩, hW, hsame.mono (by decide) (by decide)⟩
  show own_Q10s1 Z _ _ _ _ _ _ _ _ _ _ _ h0 n0 _ T114.heap _
  rw [e114]
  have Q133 : own_QI Z h114 n0 a1 x0 x1 x2 o0 o1 o2 hd tl sz := ⟨aw2, ao2, au2, ac2, kw2, ko2, (cn2 + p3), f116, f117, f118, f119, f120, f121, f122, f123, f124, f130, f125, Ow2, f126, f127, f128, la2, lb2, lc2, ld2, gq2⟩
  exact ⟨rfl, N131, f129, Q133⟩
theorem own_ef_10s2 (m : MethodId) (x0 : Addr) (x1 : Int32) (x2 : Int32) : entryFrame m #[(.ref x0), (.int x1), (.int x2)] 4 = mkF m 0 #[sR x0, sI x1, sI x2, .unset] [] := by first | (simp [entryFrame, mkF, argsToLocals, Value.category]; done) | rfl
def own_Q10s2 (Z : State) (a1 : Addr) (p3 : Int32) (x0 : Value) (x1 : Value) (x2 : Value) (o0 : Int64) (o1 : Int64) (o2 : Int64) (hd : Int32) (tl : Int32) (sz : Int32) (h0 : Heap) (n0 : Nat) (v : Option Value) (h : Heap) (L : List Loc) : Prop := v = none ∧ Fr n0 L ∧ own_Low a1 h0 h ∧ own_QI Z h n0 a1 x0 x1 x2 o0 o1 o2 hd tl sz
set_option maxRecDepth 65536 in
set_option maxHeartbeats 40000000 in
theorem own_rm10s2 (l : Launch) (Z : State) (a0 : Array Value) (hw : ∀ d ∈ tables_1, d.before a0 Z = true) (ws : List Jvm.Cond) (a1 : Addr) (p3 : Int32) (x0 : Value) (x1 : Value) (x2 : Value) (o0 : Int64) (o1 : Int64) (o2 : Int64) (hd : Int32) (tl : Int32) (sz : Int32) (h0 : Heap) (n0 : Nat) (Z0 : n0 ≤ h0.size) (hQ : own_QI Z h0 n0 a1 x0 x1 x2 o0 o1 o2 hd tl sz) :
    MetFree l own_y5 (head1 (Jvm.Cond.code own_y5 prog_63_method_17_code 4 none :: ws) ({ frames := 0, cells := 0, slots := 0, locals := 0 } : Room)) (fun a U => a = #[(.ref a1), (.int 2), (.int p3)] ∧ Z.Warmed39 U.vm ∧ U.heap = h0) (fun _ _ _ _ _ => True) (fun _ U o U' => ∃ v L, o = .returned v ∧ own_Q10s2 Z a1 p3 x0 x1 x2 o0 o1 o2 hd tl sz h0 n0 v U'.heap L ∧ FrameEnd U o U' L ({ frames := 0, cells := 0, slots := 0, locals := 0 } : Room).cells ({ frames := 0, cells := 0, slots := 0, locals := 0 } : Room).slots) := by
  refine MetFree.of_bodySF (plainFor_of_name own_pn_2) hisR ?_
  intro p e s m args below meth c s₁ Bd hml0 hP hK
  obtain ⟨rfl, hZ, hh⟩ := hP
  have hw24 := hw _ (List.mem_of_getElem? (i := 24) rfl)
  have hw33 := hw _ (List.mem_of_getElem? (i := 33) rfl)
  have hw36 := hw _ (List.mem_of_getElem? (i := 36) rfl)
  have hw39 := hw _ (List.mem_of_getElem? (i := 39) rfl)
  have hw41 := hw _ (List.mem_of_getElem? (i := 41) rfl)
  have hw42 := hw _ (List.mem_of_getElem? (i := 42) rfl)
  have hw44 := hw _ (List.mem_of_getElem? (i := 44) rfl)
  have hw55 := hw _ (List.mem_of_getElem? (i := 55) rfl)
  have hw67 := hw _ (List.mem_of_getElem? (i := 67) rfl)
  have hw75 := hw _ (List.mem_of_getElem? (i := 75) rfl)
  have hw80 := hw _ (List.mem_of_getElem? (i := 80) rfl)
  have hw81 := hw _ (List.mem_of_getElem? (i := 81) rfl)
  have hx := Bd.exec
  have hby := Bd.bytes
  have hml : c.maxLocals = 4 := hml0
  have hown : s.vm.findClass "com/example/adlim/adlim/client/WaiterQueue" = some m.cls := findClass_of_methodNamed Bd.named
  have hnm := (name_of_methodNamed Bd.named Bd.method).1
  have X0 : Stand p l e ({ frames := 0, cells := 0, slots := 0, locals := 0 } : Room) s m #[(.ref a1), (.int 2), (.int p3)] below meth c s₁ [] 0 0 := Stand.of_body Bd
  have e0 : s₁.heap = h0 := by rw [← hh, Bd.state]; rfl
  have N0 := Fr.nil n0
  obtain ⟨R0, hR0⟩ : ∃ R : State → Prop, R = fun t => Steps p.tables e below (s₁.setTop (entryFrame m #[(.ref a1), (.int 2), (.int p3)] 4)) t := ⟨_, rfl⟩
  have pre0 : ∀ t, Steps p.tables e below (s₁.setTop (mkF m 0 #[sR a1, sI 2, sI p3, sU] [])) t → R0 t := fun t k => by rw [hR0]; exact castTop (own_ef_10s2 m a1 (2 : Int32) p3) k
  have f1 : own_Low a1 h0 h0 := own_Low.refl _ _
  obtain ⟨aw2, ao2, au2, ac2, kw2, ko2, cn2, Ex2, Fw2, Fo2, Fu2, Fc2, Fe2, Fh2, Ft2, Fs2, Fn2, Vw2, Ow2, Vo2, Uu2, Uc2, la2, lb2, lc2, ld2, gq2⟩ := id hQ
  have ne3 : a1 ≠ aw2 := Nat.ne_of_lt la2
  have lt4 : a1 < ao2 := (Nat.lt_trans la2 lb2)
  have ne5 : a1 ≠ ao2 := Nat.ne_of_lt lt4
  have lt6 : a1 < au2 := (Nat.lt_trans (Nat.lt_trans la2 lb2) lc2)
  have ne7 : a1 ≠ au2 := Nat.ne_of_lt lt6
  have lt8 : a1 < ac2 := (Nat.lt_trans (Nat.lt_trans (Nat.lt_trans la2 lb2) lc2) ld2)
  have ne9 : a1 ≠ ac2 := Nat.ne_of_lt lt8
  have ne10 : aw2 ≠ ao2 := Nat.ne_of_lt lb2
  have lt11 : aw2 < au2 := (Nat.lt_trans lb2 lc2)
  have ne12 : aw2 ≠ au2 := Nat.ne_of_lt lt11
  have lt13 : aw2 < ac2 := (Nat.lt_trans (Nat.lt_trans lb2 lc2) ld2)
  have ne14 : aw2 ≠ ac2 := Nat.ne_of_lt lt13
  have ne15 : ao2 ≠ au2 := Nat.ne_of_lt lc2
  have lt16 : ao2 < ac2 := (Nat.lt_trans lc2 ld2)
  have ne17 : ao2 ≠ ac2 := Nat.ne_of_lt lt16
  have ne18 : au2 ≠ ac2 := Nat.ne_of_lt ld2
  have g19 : n0 ≤ aw2 := Nat.le_trans gq2 (Nat.le_of_lt la2)
  have g20 : n0 ≤ ao2 := Nat.le_trans gq2 (Nat.le_of_lt lt4)
  have g21 : n0 ≤ au2 := Nat.le_trans gq2 (Nat.le_of_lt lt6)
  have g22 : n0 ≤ ac2 := Nat.le_trans gq2 (Nat.le_of_lt lt8)
  have pre23 : ∀ t, own_S p e below s₁ m 4 #[sR a1, sI 2, sI p3, sI 2] [(.ref a1), (.int 2)] t → R0 t := fun t k => pre0 t (by
    refine XS.iloadN X0.here hx rfl (hb hby own_d10_0) rfl ?_
    refine XS.istoreN X0.here hx rfl (hb hby own_d10_1) rfl (l' := #[sR a1, sI 2, sI p3, sI 2]) rfl ?_
    refine XS.iloadN X0.here hx rfl (hb hby own_d10_2) rfl ?_
    refine XS.aloadN X0.here hx rfl (hb hby own_d10_3) rfl rfl ?_
    exact k)
  obtain ⟨T24, X24, e24, st24⟩ := getF X0 hx hZ hown (host := "") (Or.inl hw41) Via.refl e0 Fc2 (g := (mkF m 4 #[sR a1, sI 2, sI p3, sI 2] [(.ref a1), (.int 2)])) rfl rfl (hb hby own_d10_4)
  have pre25 : ∀ t, own_S p e below T24 m 7 #[sR a1, sI 2, sI p3, sI 2] [(.ref ac2), (.int 2)] t → R0 t := fun t k => pre23 t (by
    refine st24 _ ?_
    exact k)
  obtain ⟨cl26, y26, Ar26, S26, hin26, hat26⟩ := own_Any.get Uc2 (by simp) (0 : Int32) ⟨by decide, by decide⟩
  have pre27 : ∀ t, own_S p e below T24 m 12 #[sR a1, sI 2, sI p3, sI 2] [(.ref a1)] t → R0 t := fun t k => pre25 t (by
    refine X24.arraylength hx (by rw [e24]; exact Ar26.1) (State.isArrayOf_alike hZ.alike Ar26.2.1) (g := (mkF m 7 #[sR a1, sI 2, sI p3, sI 2] [(.ref ac2), (.int 2)])) rfl rfl (hb hby own_d10_7) _ ?_
    rw [len_of (z := (8 : Int32)) S26 (by decide)]
    refine XS.icmpNo X24.here hx rfl (hb hby own_d10_8) rfl (tlt (by decide : (2 : Int32) < (8 : Int32))).2.1 ?_
    refine XS.aloadN X24.here hx rfl (hb hby own_d10_11) rfl rfl ?_
    exact k)
  obtain ⟨T28, X28, e28, st28⟩ := getF X24 hx hZ hown (host := "") (Or.inl hw41) Via.refl e24 Fc2 (g := (mkF m 12 #[sR a1, sI 2, sI p3, sI 2] [(.ref a1)])) rfl rfl (hb hby own_d10_12)
  have pre29 : ∀ t, own_S p e below T28 m 17 #[sR a1, sI 2, sI p3, sI 2] [(.int 2), (.ref ac2), (.int 2), (.ref ac2)] t → R0 t := fun t k => pre27 t (by
    refine st28 _ ?_
    refine XS.iloadN X28.here hx rfl (hb hby own_d10_15) rfl ?_
    refine Jvm.Free.XT.dup2 X28.here hx rfl (hb hby own_d10_16) rfl rfl rfl ?_
    exact k)
  obtain ⟨cl30, y30, Ar30, S30, hin30, hat30⟩ := own_Any.get Uc2 (by simp) (2 : Int32) ⟨by decide, by decide⟩
  have pre31 : ∀ t, own_S p e below T28 m 20 #[sR a1, sI 2, sI p3, sI 2] [(.int (y30 + p3)), (.int 2), (.ref ac2)] t → R0 t := fun t k => pre29 t (by
    refine X28.iaload hx (j := (2 : Int32)) (v := (.int y30)) (by rw [e28]; exact Ar30.1) (State.isArrayOf_alike hZ.alike Ar30.2.1) Ar30.2.2 hin30 hat30 (g := (mkF m 17 #[sR a1, sI 2, sI p3, sI 2] [(.int 2), (.ref ac2), (.int 2), (.ref ac2)])) rfl rfl (hb hby own_d10_17) _ ?_
    refine XS.iloadN X28.here hx rfl (hb hby own_d10_18) rfl ?_
    refine XS.iadd X28.here hx rfl (hb hby own_d10_19) rfl ?_
    exact k)
  obtain ⟨cl32, y32, Ar32, S32, hin32, hat32⟩ := own_Any.get Uc2 (by simp) (2 : Int32) ⟨by decide, by decide⟩
  obtain ⟨T33, h33, X33, e33, W33, st33⟩ := stI X28 hx hZ e28 Ar32 (j := (2 : Int32)) hin32 (g := (mkF m 20 #[sR a1, sI 2, sI p3, sI 2] [(.int (y30 + p3)), (.int 2), (.ref ac2)])) rfl rfl (hb hby own_d10_20)
  have f34 := Nat.le_trans Z0 (Keep.of_wr W33).1
  have f35 := Ex2.wr W33
  have f36 := Fw2.other W33 (Or.inl ne9)
  have f37 := Fo2.other W33 (Or.inl ne9)
  have f38 := Fu2.other W33 (Or.inl ne9)
  have f39 := Fc2.other W33 (Or.inl ne9)
  have f40 := Fe2.other W33 (Or.inl ne9)
  have f41 := Fh2.other W33 (Or.inl ne9)
  have f42 := Ft2.other W33 (Or.inl ne9)
  have f43 := Fs2.other W33 (Or.inl ne9)
  have f44 := Fn2.other W33 (Or.inl ne9)
  have f45 := Vw2.other W33 ne14
  have f46 := Vo2.other W33 ne17
  have f47 := Uu2.other W33 ne18
  have f48 : own_Low a1 h0 h33 := f1.wr W33 (Nat.le_of_lt lt8)
  have U49 : own_Any Z h33 ac2 .int := own_Any.wr Uc2 (2 : Int32) ⟨by decide, by decide⟩ W33 rfl
  have N50 := Fr.snoc X33 N0 g22
  have pre51 : ∀ t, own_S p e below T33 m 4 #[sR a1, sI 2, sI p3, sI 3] [(.ref a1), (.int 3)] t → R0 t := fun t k => pre31 t (by
    refine st33 _ ?_
    refine XS.iloadN X33.here hx rfl (hb hby own_d10_21) rfl ?_
    refine XS.iloadN X33.here hx rfl (hb hby own_d10_22) rfl ?_
    refine XS.iconst X33.here hx rfl (hb hby own_d10_23) ?_
    refine XS.iadd X33.here hx rfl (hb hby own_d10_24) rfl ?_
    refine XS.ior X33.here hx rfl (hb hby own_d10_25) rfl ?_
    refine XS.istoreN X33.here hx rfl (hb hby own_d10_26) rfl (l' := #[sR a1, sI 2, sI p3, sI 3]) rfl ?_
    refine XS.goto X33.here hx rfl (pc0 := 27) (pc' := 2) rfl (hb hby own_d10_27) (by decide) (by decide) ?_
    refine XS.iloadN X33.here hx rfl (hb hby own_d10_2) rfl ?_
    refine XS.aloadN X33.here hx rfl (hb hby own_d10_3) rfl rfl ?_
    exact k)
  obtain ⟨T52, X52, e52, st52⟩ := getF X33 hx hZ hown (host := "") (Or.inl hw41) Via.refl e33 f39 (g := (mkF m 4 #[sR a1, sI 2, sI p3, sI 3] [(.ref a1), (.int 3)])) rfl rfl (hb hby own_d10_4)
  have pre53 : ∀ t, own_S p e below T52 m 7 #[sR a1, sI 2, sI p3, sI 3] [(.ref ac2), (.int 3)] t → R0 t := fun t k => pre51 t (by
    refine st52 _ ?_
    exact k)
  obtain ⟨cl54, y54, Ar54, S54, hin54, hat54⟩ := own_Any.get U49 (by simp) (0 : Int32) ⟨by decide, by decide⟩
  have pre55 : ∀ t, own_S p e below T52 m 12 #[sR a1, sI 2, sI p3, sI 3] [(.ref a1)] t → R0 t := fun t k => pre53 t (by
    refine X52.arraylength hx (by rw [e52]; exact Ar54.1) (State.isArrayOf_alike hZ.alike Ar54.2.1) (g := (mkF m 7 #[sR a1, sI 2, sI p3, sI 3] [(.ref ac2), (.int 3)])) rfl rfl (hb hby own_d10_7) _ ?_
    rw [len_of (z := (8 : Int32)) S54 (by decide)]
    refine XS.icmpNo X52.here hx rfl (hb hby own_d10_8) rfl (tlt (by decide : (3 : Int32) < (8 : Int32))).2.1 ?_
    refine XS.aloadN X52.here hx rfl (hb hby own_d10_11) rfl rfl ?_
    exact k)
  obtain ⟨T56, X56, e56, st56⟩ := getF X52 hx hZ hown (host := "") (Or.inl hw41) Via.refl e52 f39 (g := (mkF m 12 #[sR a1, sI 2, sI p3, sI 3] [(.ref a1)])) rfl rfl (hb hby own_d10_12)
  have pre57 : ∀ t, own_S p e below T56 m 17 #[sR a1, sI 2, sI p3, sI 3] [(.int 3), (.ref ac2), (.int 3), (.ref ac2)] t → R0 t := fun t k => pre55 t (by
    refine st56 _ ?_
    refine XS.iloadN X56.here hx rfl (hb hby own_d10_15) rfl ?_
    refine Jvm.Free.XT.dup2 X56.here hx rfl (hb hby own_d10_16) rfl rfl rfl ?_
    exact k)
  obtain ⟨cl58, y58, Ar58, S58, hin58, hat58⟩ := own_Any.get U49 (by simp) (3 : Int32) ⟨by decide, by decide⟩
  have pre59 : ∀ t, own_S p e below T56 m 20 #[sR a1, sI 2, sI p3, sI 3] [(.int (y58 + p3)), (.int 3), (.ref ac2)] t → R0 t := fun t k => pre57 t (by
    refine X56.iaload hx (j := (3 : Int32)) (v := (.int y58)) (by rw [e56]; exact Ar58.1) (State.isArrayOf_alike hZ.alike Ar58.2.1) Ar58.2.2 hin58 hat58 (g := (mkF m 17 #[sR a1, sI 2, sI p3, sI 3] [(.int 3), (.ref ac2), (.int 3), (.ref ac2)])) rfl rfl (hb hby own_d10_17) _ ?_
    refine XS.iloadN X56.here hx rfl (hb hby own_d10_18) rfl ?_
    refine XS.iadd X56.here hx rfl (hb hby own_d10_19) rfl ?_
    exact k)
  obtain ⟨cl60, y60, Ar60, S60, hin60, hat60⟩ := own_Any.get U49 (by simp) (3 : Int32) ⟨by decide, by decide⟩
  obtain ⟨T61, h61, X61, e61, W61, st61⟩ := stI X56 hx hZ e56 Ar60 (j := (3 : Int32)) hin60 (g := (mkF m 20 #[sR a1, sI 2, sI p3, sI 3] [(.int (y58 + p3)), (.int 3), (.ref ac2)])) rfl rfl (hb hby own_d10_20)
  have f62 := Nat.le_trans f34 (Keep.of_wr W61).1
  have f63 := f35.wr W61
  have f64 := f36.other W61 (Or.inl ne9)
  have f65 := f37.other W61 (Or.inl ne9)
  have f66 := f38.other W61 (Or.inl ne9)
  have f67 := f39.other W61 (Or.inl ne9)
  have f68 := f40.other W61 (Or.inl ne9)
  have f69 := f41.other W61 (Or.inl ne9)
  have f70 := f42.other W61 (Or.inl ne9)
  have f71 := f43.other W61 (Or.inl ne9)
  have f72 := f44.other W61 (Or.inl ne9)
  have f73 := f45.other W61 ne14
  have f74 := f46.other W61 ne17
  have f75 := f47.other W61 ne18
  have f76 : own_Low a1 h0 h61 := f48.wr W61 (Nat.le_of_lt lt8)
  have U77 : own_Any Z h61 ac2 .int := own_Any.wr U49 (3 : Int32) ⟨by decide, by decide⟩ W61 rfl
  have N78 := Fr.snoc X61 N50 g22
  have pre79 : ∀ t, own_S p e below T61 m 4 #[sR a1, sI 2, sI p3, sI 7] [(.ref a1), (.int 7)] t → R0 t := fun t k => pre59 t (by
    refine st61 _ ?_
    refine XS.iloadN X61.here hx rfl (hb hby own_d10_21) rfl ?_
    refine XS.iloadN X61.here hx rfl (hb hby own_d10_22) rfl ?_
    refine XS.iconst X61.here hx rfl (hb hby own_d10_23) ?_
    refine XS.iadd X61.here hx rfl (hb hby own_d10_24) rfl ?_
    refine XS.ior X61.here hx rfl (hb hby own_d10_25) rfl ?_
    refine XS.istoreN X61.here hx rfl (hb hby own_d10_26) rfl (l' := #[sR a1, sI 2, sI p3, sI 7]) rfl ?_
    refine XS.goto X61.here hx rfl (pc0 := 27) (pc' := 2) rfl (hb hby own_d10_27) (by decide) (by decide) ?_
    refine XS.iloadN X61.here hx rfl (hb hby own_d10_2) rfl ?_
    refine XS.aloadN X61.here hx rfl (hb hby own_d10_3) rfl rfl ?_
    exact k)
  obtain ⟨T80, X80, e80, st80⟩ := getF X61 hx hZ hown (host := "") (Or.inl hw41) Via.refl e61 f67 (g := (mkF m 4 #[sR a1, sI 2, sI p3, sI 7] [(.ref a1), (.int 7)])) rfl rfl (hb hby own_d10_4)
  have pre81 : ∀ t, own_S p e below T80 m 7 #[sR a1, sI 2, sI p3, sI 7] [(.ref ac2), (.int 7)] t → R0 t := fun t k => pre79 t (by
    refine st80 _ ?_
    exact k)
  obtain ⟨cl82, y82, Ar82, S82, hin82, hat82⟩ := own_Any.get U77 (by simp) (0 : Int32) ⟨by decide, by decide⟩
  have pre83 : ∀ t, own_S p e below T80 m 12 #[sR a1, sI 2, sI p3, sI 7] [(.ref a1)] t → R0 t := fun t k => pre81 t (by
    refine X80.arraylength hx (by rw [e80]; exact Ar82.1) (State.isArrayOf_alike hZ.alike Ar82.2.1) (g := (mkF m 7 #[sR a1, sI 2, sI p3, sI 7] [(.ref ac2), (.int 7)])) rfl rfl (hb hby own_d10_7) _ ?_
    rw [len_of (z := (8 : Int32)) S82 (by decide)]
    refine XS.icmpNo X80.here hx rfl (hb hby own_d10_8) rfl (tlt (by decide : (7 : Int32) < (8 : Int32))).2.1 ?_
    refine XS.aloadN X80.here hx rfl (hb hby own_d10_11) rfl rfl ?_
    exact k)
  obtain ⟨T84, X84, e84, st84⟩ := getF X80 hx hZ hown (host := "") (Or.inl hw41) Via.refl e80 f67 (g := (mkF m 12 #[sR a1, sI 2, sI p3, sI 7] [(.ref a1)])) rfl rfl (hb hby own_d10_12)
  have pre85 : ∀ t, own_S p e below T84 m 17 #[sR a1, sI 2, sI p3, sI 7] [(.int 7), (.ref ac2), (.int 7), (.ref ac2)] t → R0 t := fun t k => pre83 t (by
    refine st84 _ ?_
    refine XS.iloadN X84.here hx rfl (hb hby own_d10_15) rfl ?_
    refine Jvm.Free.XT.dup2 X84.here hx rfl (hb hby own_d10_16) rfl rfl rfl ?_
    exact k)
  obtain ⟨cl86, y86, Ar86, S86, hin86, hat86⟩ := own_Any.get U77 (by simp) (7 : Int32) ⟨by decide, by decide⟩
  have pre87 : ∀ t, own_S p e below T84 m 20 #[sR a1, sI 2, sI p3, sI 7] [(.int (y86 + p3)), (.int 7), (.ref ac2)] t → R0 t := fun t k => pre85 t (by
    refine X84.iaload hx (j := (7 : Int32)) (v := (.int y86)) (by rw [e84]; exact Ar86.1) (State.isArrayOf_alike hZ.alike Ar86.2.1) Ar86.2.2 hin86 hat86 (g := (mkF m 17 #[sR a1, sI 2, sI p3, sI 7] [(.int 7), (.ref ac2), (.int 7), (.ref ac2)])) rfl rfl (hb hby own_d10_17) _ ?_
    refine XS.iloadN X84.here hx rfl (hb hby own_d10_18) rfl ?_
    refine XS.iadd X84.here hx rfl (hb hby own_d10_19) rfl ?_
    exact k)
  obtain ⟨cl88, y88, Ar88, S88, hin88, hat88⟩ := own_Any.get U77 (by simp) (7 : Int32) ⟨by decide, by decide⟩
  obtain ⟨T89, h89, X89, e89, W89, st89⟩ := stI X84 hx hZ e84 Ar88 (j := (7 : Int32)) hin88 (g := (mkF m 20 #[sR a1, sI 2, sI p3, sI 7] [(.int (y86 + p3)), (.int 7), (.ref ac2)])) rfl rfl (hb hby own_d10_20)
  have f90 := Nat.le_trans f62 (Keep.of_wr W89).1
  have f91 := f63.wr W89
  have f92 := f64.other W89 (Or.inl ne9)
  have f93 := f65.other W89 (Or.inl ne9)
  have f94 := f66.other W89 (Or.inl ne9)
  have f95 := f67.other W89 (Or.inl ne9)
  have f96 := f68.other W89 (Or.inl ne9)
  have f97 := f69.other W89 (Or.inl ne9)
  have f98 := f70.other W89 (Or.inl ne9)
  have f99 := f71.other W89 (Or.inl ne9)
  have f100 := f72.other W89 (Or.inl ne9)
  have f101 := f73.other W89 ne14
  have f102 := f74.other W89 ne17
  have f103 := f75.other W89 ne18
  have f104 : own_Low a1 h0 h89 := f76.wr W89 (Nat.le_of_lt lt8)
  have U105 : own_Any Z h89 ac2 .int := own_Any.wr U77 (7 : Int32) ⟨by decide, by decide⟩ W89 rfl
  have N106 := Fr.snoc X89 N78 g22
  have pre107 : ∀ t, own_S p e below T89 m 4 #[sR a1, sI 2, sI p3, sI 15] [(.ref a1), (.int 15)] t → R0 t := fun t k => pre87 t (by
    refine st89 _ ?_
    refine XS.iloadN X89.here hx rfl (hb hby own_d10_21) rfl ?_
    refine XS.iloadN X89.here hx rfl (hb hby own_d10_22) rfl ?_
    refine XS.iconst X89.here hx rfl (hb hby own_d10_23) ?_
    refine XS.iadd X89.here hx rfl (hb hby own_d10_24) rfl ?_
    refine XS.ior X89.here hx rfl (hb hby own_d10_25) rfl ?_
    refine XS.istoreN X89.here hx rfl (hb hby own_d10_26) rfl (l' := #[sR a1, sI 2, sI p3, sI 15]) rfl ?_
    refine XS.goto X89.here hx rfl (pc0 := 27) (pc' := 2) rfl (hb hby own_d10_27) (by decide) (by decide) ?_
    refine XS.iloadN X89.here hx rfl (hb hby own_d10_2) rfl ?_
    refine XS.aloadN X89.here hx rfl (hb hby own_d10_3) rfl rfl ?_
    exact k)
  obtain ⟨T108, X108, e108, st108⟩ := getF X89 hx hZ hown (host := "") (Or.inl hw41) Via.refl e89 f95 (g := (mkF m 4 #[sR a1, sI 2, sI p3, sI 15] [(.ref a1), (.int 15)])) rfl rfl (hb hby own_d10_4)
  have pre109 : ∀ t, own_S p e below T108 m 7 #[sR a1, sI 2, sI p3, sI 15] [(.ref ac2), (.int 15)] t → R0 t := fun t k => pre107 t (by
    refine st108 _ ?_
    exact k)
  obtain ⟨cl110, y110, Ar110, S110, hin110, hat110⟩ := own_Any.get U105 (by simp) (0 : Int32) ⟨by decide, by decide⟩
  have pre111 : ∀ t, own_S p e below T108 m 32 #[sR a1, sI 2, sI p3, sI 15] [(.ref a1), (.ref a1)] t → R0 t := fun t k => pre109 t (by
    refine X108.arraylength hx (by rw [e108]; exact Ar110.1) (State.isArrayOf_alike hZ.alike Ar110.2.1) (g := (mkF m 7 #[sR a1, sI 2, sI p3, sI 15] [(.ref ac2), (.int 15)])) rfl rfl (hb hby own_d10_7) _ ?_
    rw [len_of (z := (8 : Int32)) S110 (by decide)]
    refine XS.icmpYes X108.here hx rfl (pc0 := 8) (pc' := 30) rfl (hb hby own_d10_8) rfl (flt (by decide : ¬ ((15 : Int32) < (8 : Int32)))).2.1 (by decide) (by decide) ?_
    refine XS.aloadN X108.here hx rfl (hb hby own_d10_30) rfl rfl ?_
    refine XS.dup X108.here hx rfl (hb hby own_d10_31) rfl rfl ?_
    exact k)
  obtain ⟨T112, X112, e112, st112⟩ := getF X108 hx hZ hown (host := "") (Or.inl hw80) Via.refl e108 f100 (g := (mkF m 32 #[sR a1, sI 2, sI p3, sI 15] [(.ref a1), (.ref a1)])) rfl rfl (hb hby own_d10_32)
  have pre113 : ∀ t, own_S p e below T112 m 37 #[sR a1, sI 2, sI p3, sI 15] [(.int (cn2 + p3)), (.ref a1)] t → R0 t := fun t k => pre111 t (by
    refine st112 _ ?_
    refine XS.iloadN X112.here hx rfl (hb hby own_d10_35) rfl ?_
    refine XS.iadd X112.here hx rfl (hb hby own_d10_36) rfl ?_
    exact k)
  obtain ⟨T114, h114, X114, e114, W114, st114⟩ := putF X112 hx hZ hown (host := "") (Or.inl hw80) Via.refl e112 f100 f91 (Or.inl hw81) hw24 (ty := .int) (by decide) rfl rfl (g := (mkF m 37 #[sR a1, sI 2, sI p3, sI 15] [(.int (cn2 + p3)), (.ref a1)])) rfl rfl (hb hby own_d10_37)
  have f115 := Nat.le_trans f90 (Keep.of_wr W114).1
  have f116 := f91.wr W114
  have f117 := f92.other W114 (Or.inr (slot_ne (Or.inl hw33) (Or.inl hw81) (by decide) (t := (.array (.object "com/example/adlim/adlim/client/Waiter"))) (t' := .int) (by decide) (by decide)))
  have f118 := f93.other W114 (Or.inr (slot_ne (Or.inl hw36) (Or.inl hw81) (by decide) (t := (.array .long)) (t' := .int) (by decide) (by decide)))
  have f119 := f94.other W114 (Or.inr (slot_ne (Or.inl hw39) (Or.inl hw81) (by decide) (t := (.array .boolean)) (t' := .int) (by decide) (by decide)))
  have f120 := f95.other W114 (Or.inr (slot_ne (Or.inl hw42) (Or.inl hw81) (by decide) (t := (.array .int)) (t' := .int) (by decide) (by decide)))
  have f121 := f96.other W114 (Or.inr (slot_ne (Or.inr hw44) (Or.inl hw81) (by decide) (t := (.object "com/example/adlim/adlim/client/CeilingQueue")) (t' := .int) (by decide) (by decide)))
  have f122 := f97.other W114 (Or.inr (slot_ne (Or.inl hw75) (Or.inl hw81) (by decide) (t := .int) (t' := .int) (by decide) (by decide)))
  have f123 := f98.other W114 (Or.inr (slot_ne (Or.inl hw67) (Or.inl hw81) (by decide) (t := .int) (t' := .int) (by decide) (by decide)))
  have f124 := f99.other W114 (Or.inr (slot_ne (Or.inl hw55) (Or.inl hw81) (by decide) (t := .int) (t' := .int) (by decide) (by decide)))
  have f125 := f101.other W114 (Ne.symm ne3)
  have f126 := f102.other W114 (Ne.symm ne5)
  have f127 := f103.other W114 (Ne.symm ne7)
  have f128 := U105.other W114 (Ne.symm ne9)
  have f129 : own_Low a1 h0 h114 := f104.wr W114 (Nat.le_refl _)
  have f130 := f100.same W114
  have N131 := Fr.snoc X114 N106 gq2
  have pre132 : ∀ t, own_S p e below T114 m 40 #[sR a1, sI 2, sI p3, sI 15] [] t → R0 t := fun t k => pre113 t (by
    refine st114 _ ?_
    exact k)
  obtain ⟨fs, hr, hrun, hended, hW, hsame⟩ := X114.leave (v := none) (fun _ => rfl)
  refine ⟨_, _, cast (congrFun hR0 _) (pre132 _ (X114.returnOut hx Bd.returns (hb hby own_d10_40) hr)), hrun, hended, _, _, rfl, ?_, ⟨_, rfl⟩, hW, hsame.mono (by decide) (by decide)⟩
  show own_Q10s2 Z _ _ _ _ _ _ _ _ _ _ _ h0 n0 _ T114.heap _
  rw [e114]
  have Q133 : own_QI Z h114 n0 a1 x0 x1 x2 o0 o1 o2 hd tl sz := ⟨aw2, ao2, au2, ac2, kw2, ko2, (cn2 + p3), f116, f117, f118, f119, f120, f121, f122, f123, f124, f130, f125, Ow2, f126, f127, f128, la2, lb2, lc2, ld2, gq2⟩
  exact ⟨rfl, N131, f129, Q133⟩
theorem own_pd_1 : parseMethodDescriptor "()J" = some ⟨[], some .long⟩ := by decide +kernel
theorem own_pd_2 : parseMethodDescriptor "(II)V" = some ⟨[.int, .int], none⟩ := by decide +kernel
theorem own_d8_0 : decode prog_63_method_4_code 0 = .ok (.aload_n 0, 1) := by decide +kernel
theorem own_d8_1 : decode prog_63_method_4_code 1 = .ok (.getfield 38, 3) := by decide +kernel
theorem own_d8_4 : decode prog_63_method_4_code 4 = .ok (.aload_n 0, 1) := by decide +kernel
theorem own_d8_5 : decode prog_63_method_4_code 5 = .ok (.getfield 14, 3) := by decide +kernel
theorem own_d8_8 : decode prog_63_method_4_code 8 = .ok (.arraylength, 1) := by decide +kernel
theorem own_d8_9 : decode prog_63_method_4_code 9 = .ok (.if_icmp .ne 7, 3) := by decide +kernel
theorem own_d8_16 : decode prog_63_method_4_code 16 = .ok (.aload_n 0, 1) := by decide +kernel
theorem own_d8_17 : decode prog_63_method_4_code 17 = .ok (.getfield 14, 3) := by decide +kernel
theorem own_d8_20 : decode prog_63_method_4_code 20 = .ok (.aload_n 0, 1) := by decide +kernel
theorem own_d8_21 : decode prog_63_method_4_code 21 = .ok (.getfield 38, 3) := by decide +kernel
theorem own_d8_24 : decode prog_63_method_4_code 24 = .ok (.aload_n 1, 1) := by decide +kernel
theorem own_d8_25 : decode prog_63_method_4_code 25 = .ok (.aastore, 1) := by decide +kernel
theorem own_d8_26 : decode prog_63_method_4_code 26 = .ok (.aload_n 0, 1) := by decide +kernel
theorem own_d8_27 : decode prog_63_method_4_code 27 = .ok (.getfield 18, 3) := by decide +kernel
theorem own_d8_30 : decode prog_63_method_4_code 30 = .ok (.aload_n 0, 1) := by decide +kernel
theorem own_d8_31 : decode prog_63_method_4_code 31 = .ok (.getfield 38, 3) := by decide +kernel
theorem own_d8_34 : decode prog_63_method_4_code 34 = .ok (.aload_n 1, 1) := by decide +kernel
theorem own_d8_35 : decode prog_63_method_4_code 35 = .ok (.invokevirtual 45, 3) := by decide +kernel
theorem own_d8_38 : decode prog_63_method_4_code 38 = .ok (.lastore, 1) := by decide +kernel
theorem own_d8_39 : decode prog_63_method_4_code 39 = .ok (.aload_n 0, 1) := by decide +kernel
theorem own_d8_40 : decode prog_63_method_4_code 40 = .ok (.getfield 22, 3) := by decide +kernel
theorem own_d8_43 : decode prog_63_method_4_code 43 = .ok (.aload_n 0, 1) := by decide +kernel
theorem own_d8_44 : decode prog_63_method_4_code 44 = .ok (.getfield 38, 3) := by decide +kernel
theorem own_d8_47 : decode prog_63_method_4_code 47 = .ok (.iload_n 2, 1) := by decide +kernel
theorem own_d8_48 : decode prog_63_method_4_code 48 = .ok (.ifCond .ne 7, 3) := by decide +kernel
theorem own_d8_51 : decode prog_63_method_4_code 51 = .ok (.iconst 1, 1) := by decide +kernel
theorem own_d8_52 : decode prog_63_method_4_code 52 = .ok (.goto 4, 3) := by decide +kernel
theorem own_d8_55 : decode prog_63_method_4_code 55 = .ok (.iconst 0, 1) := by decide +kernel
theorem own_d8_56 : decode prog_63_method_4_code 56 = .ok (.bastore, 1) := by decide +kernel
theorem own_d8_57 : decode prog_63_method_4_code 57 = .ok (.iload_n 2, 1) := by decide +kernel
theorem own_d8_58 : decode prog_63_method_4_code 58 = .ok (.ifCond .eq 12, 3) := by decide +kernel
theorem own_d8_61 : decode prog_63_method_4_code 61 = .ok (.aload_n 0, 1) := by decide +kernel
theorem own_d8_62 : decode prog_63_method_4_code 62 = .ok (.aload_n 0, 1) := by decide +kernel
theorem own_d8_63 : decode prog_63_method_4_code 63 = .ok (.getfield 38, 3) := by decide +kernel
theorem own_d8_66 : decode prog_63_method_4_code 66 = .ok (.iconst 1, 1) := by decide +kernel
theorem own_d8_67 : decode prog_63_method_4_code 67 = .ok (.invokevirtual 49, 3) := by decide +kernel
theorem own_d8_70 : decode prog_63_method_4_code 70 = .ok (.aload_n 0, 1) := by decide +kernel
theorem own_d8_71 : decode prog_63_method_4_code 71 = .ok (.dup, 1) := by decide +kernel
theorem own_d8_72 : decode prog_63_method_4_code 72 = .ok (.getfield 38, 3) := by decide +kernel
theorem own_d8_75 : decode prog_63_method_4_code 75 = .ok (.iconst 1, 1) := by decide +kernel
theorem own_d8_76 : decode prog_63_method_4_code 76 = .ok (.iadd, 1) := by decide +kernel
theorem own_d8_77 : decode prog_63_method_4_code 77 = .ok (.putfield 38, 3) := by decide +kernel
theorem own_d8_80 : decode prog_63_method_4_code 80 = .ok (.aload_n 0, 1) := by decide +kernel
theorem own_d8_81 : decode prog_63_method_4_code 81 = .ok (.dup, 1) := by decide +kernel
theorem own_d8_82 : decode prog_63_method_4_code 82 = .ok (.getfield 53, 3) := by decide +kernel
theorem own_d8_85 : decode prog_63_method_4_code 85 = .ok (.iconst 1, 1) := by decide +kernel
theorem own_d8_86 : decode prog_63_method_4_code 86 = .ok (.iadd, 1) := by decide +kernel
theorem own_d8_87 : decode prog_63_method_4_code 87 = .ok (.putfield 53, 3) := by decide +kernel
theorem own_d8_90 : decode prog_63_method_4_code 90 = .ok (.aload_n 0, 1) := by decide +kernel
theorem own_d8_91 : decode prog_63_method_4_code 91 = .ok (.getfield 30, 3) := by decide +kernel
theorem own_d8_94 : decode prog_63_method_4_code 94 = .ok (.ifnull 12, 3) := by decide +kernel
theorem own_d8_106 : decode prog_63_method_4_code 106 = .ok (.return_, 1) := by decide +kernel
theorem own_ef_8t0 (m : MethodId) (x0 : Addr) (x1 : Addr) (x2 : Int32) : entryFrame m #[(.ref x0), (.ref x1), (.int x2)] 3 = mkF m 0 #[sR x0, sR x1, sI x2] [] := by first | (simp [entryFrame, mkF, argsToLocals, Value.category]; done) | rfl
def own_Q8t0 (Z : State) (a1 : Addr) (a2 : Addr) (p3 : Int32) (x0 : Value) (x1 : Value) (x2 : Value) (o0 : Int64) (o1 : Int64) (o2 : Int64) (hd : Int32) (sz : Int32) (ow : Int64) (h0 : Heap) (n0 : Nat) (v : Option Value) (h : Heap) (L : List Loc) : Prop := v = none ∧ Fr n0 L ∧ own_Low a1 h0 h ∧ own_QI Z h n0 a1 (.ref a2) x1 x2 ow o1 o2 hd (1 : Int32) (sz + (1 : Int32))
abbrev own_y6 : MethodName := ⟨"com/example/adlim/adlim/client/WaiterQueue", "add", "(Lcom/example/adlim/adlim/client/Waiter;Z)V"⟩
set_option maxRecDepth 65536 in
set_option maxHeartbeats 40000000 in
theorem own_rm8t0 (l : Launch) (Z : State) (a0 : Array Value) (hw : ∀ d ∈ tables_1, d.before a0 Z = true) (ws : List Jvm.Cond) (a1 : Addr) (a2 : Addr) (p3 : Int32) (x0 : Value) (x1 : Value) (x2 : Value) (o0 : Int64) (o1 : Int64) (o2 : Int64) (hd : Int32) (sz : Int32) (ow : Int64) (h0 : Heap) (n0 : Nat) (Z0 : n0 ≤ h0.size) (hQ : own_QI Z h0 n0 a1 x0 x1 x2 o0 o1 o2 hd (0 : Int32) sz) (E_a2 : Exa Z h0 a2 "com/example/adlim/adlim/client/Waiter") (F_order_a2 : Fld Z h0 a2 "com/example/adlim/adlim/client/Waiter" "order" "J" (.long ow)) (hlt : a2 < a1) :
    MetFree l own_y6 (head1 (Jvm.Cond.code own_y6 prog_63_method_4_code 3 none :: ws) ({ frames := 1, cells := 0, slots := 0, locals := 15 } : Room)) (fun a U => a = #[(.ref a1), (.ref a2), (.int p3)] ∧ Z.Warmed39 U.vm ∧ U.heap = h0) (fun _ _ _ _ _ => True) (fun _ U o U' => ∃ v L, o = .returned v ∧ own_Q8t0 Z a1 a2 p3 x0 x1 x2 o0 o1 o2 hd sz ow h0 n0 v U'.heap L ∧ FrameEnd U o U' L ({ frames := 1, cells := 0, slots := 0, locals := 15 } : Room).cells ({ frames := 1, cells := 0, slots := 0, locals := 15 } : Room).slots) := by
  refine MetFree.of_bodySF (plainFor_of_name own_pn_2) hisR ?_
  intro p e s m args below meth c s₁ Bd hml0 hP hK
  obtain ⟨rfl, hZ, hh⟩ := hP
  have hw2 := hw _ (List.mem_of_getElem? (i := 2) rfl)
  have hw24 := hw _ (List.mem_of_getElem? (i := 24) rfl)
  have hw25 := hw _ (List.mem_of_getElem? (i := 25) rfl)
  have hw32 := hw _ (List.mem_of_getElem? (i := 32) rfl)
  have hw33 := hw _ (List.mem_of_getElem? (i := 33) rfl)
  have hw35 := hw _ (List.mem_of_getElem? (i := 35) rfl)
  have hw36 := hw _ (List.mem_of_getElem? (i := 36) rfl)
  have hw38 := hw _ (List.mem_of_getElem? (i := 38) rfl)
  have hw39 := hw _ (List.mem_of_getElem? (i := 39) rfl)
  have hw42 := hw _ (List.mem_of_getElem? (i := 42) rfl)
  have hw43 := hw _ (List.mem_of_getElem? (i := 43) rfl)
  have hw44 := hw _ (List.mem_of_getElem? (i := 44) rfl)
  have hw54 := hw _ (List.mem_of_getElem? (i := 54) rfl)
  have hw55 := hw _ (List.mem_of_getElem? (i := 55) rfl)
  have hw66 := hw _ (List.mem_of_getElem? (i := 66) rfl)
  have hw67 := hw _ (List.mem_of_getElem? (i := 67) rfl)
  have hw69 := hw _ (List.mem_of_getElem? (i := 69) rfl)
  have hw70 := hw _ (List.mem_of_getElem? (i := 70) rfl)
  have hw71 := hw _ (List.mem_of_getElem? (i := 71) rfl)
  have hw72 := hw _ (List.mem_of_getElem? (i := 72) rfl)
  have hw73 := hw _ (List.mem_of_getElem? (i := 73) rfl)
  have hw75 := hw _ (List.mem_of_getElem? (i := 75) rfl)
  have hw76 := hw _ (List.mem_of_getElem? (i := 76) rfl)
  have hw77 := hw _ (List.mem_of_getElem? (i := 77) rfl)
  have hw78 := hw _ (List.mem_of_getElem? (i := 78) rfl)
  have hw79 := hw _ (List.mem_of_getElem? (i := 79) rfl)
  have hw81 := hw _ (List.mem_of_getElem? (i := 81) rfl)
  have hx := Bd.exec
  have hby := Bd.bytes
  have hml : c.maxLocals = 3 := hml0
  have hown : s.vm.findClass "com/example/adlim/adlim/client/WaiterQueue" = some m.cls := findClass_of_methodNamed Bd.named
  have hnm := (name_of_methodNamed Bd.named Bd.method).1
  have X0 : Stand p l e ({ frames := 1, cells := 0, slots := 0, locals := 15 } : Room) s m #[(.ref a1), (.ref a2), (.int p3)] below meth c s₁ [] 0 0 := Stand.of_body Bd
  have e0 : s₁.heap = h0 := by rw [← hh, Bd.state]; rfl
  have N0 := Fr.nil n0
  obtain ⟨R0, hR0⟩ : ∃ R : State → Prop, R = fun t => Steps p.tables e below (s₁.setTop (entryFrame m #[(.ref a1), (.ref a2), (.int p3)] 3)) t := ⟨_, rfl⟩
  have pre0 : ∀ t, Steps p.tables e below (s₁.setTop (mkF m 0 #[sR a1, sR a2, sI p3] [])) t → R0 t := fun t k => by rw [hR0]; exact castTop (own_ef_8t0 m a1 a2 p3) k
  have f1 : own_Low a1 h0 h0 := own_Low.refl _ _
  obtain ⟨aw2, ao2, au2, ac2, kw2, ko2, cn2, Ex2, Fw2, Fo2, Fu2, Fc2, Fe2, Fh2, Ft2, Fs2, Fn2, Vw2, Ow2, Vo2, Uu2, Uc2, la2, lb2, lc2, ld2, gq2⟩ := id hQ
  have ne3 : a1 ≠ aw2 := Nat.ne_of_lt la2
  have lt4 : a1 < ao2 := (Nat.lt_trans la2 lb2)
  have ne5 : a1 ≠ ao2 := Nat.ne_of_lt lt4
  have lt6 : a1 < au2 := (Nat.lt_trans (Nat.lt_trans la2 lb2) lc2)
  have ne7 : a1 ≠ au2 := Nat.ne_of_lt lt6
  have lt8 : a1 < ac2 := (Nat.lt_trans (Nat.lt_trans (Nat.lt_trans la2 lb2) lc2) ld2)
  have ne9 : a1 ≠ ac2 := Nat.ne_of_lt lt8
  have ne10 : aw2 ≠ ao2 := Nat.ne_of_lt lb2
  have lt11 : aw2 < au2 := (Nat.lt_trans lb2 lc2)
  have ne12 : aw2 ≠ au2 := Nat.ne_of_lt lt11
  have lt13 : aw2 < ac2 := (Nat.lt_trans (Nat.lt_trans lb2 lc2) ld2)
  have ne14 : aw2 ≠ ac2 := Nat.ne_of_lt lt13
  have ne15 : ao2 ≠ au2 := Nat.ne_of_lt lc2
  have lt16 : ao2 < ac2 := (Nat.lt_trans lc2 ld2)
  have ne17 : ao2 ≠ ac2 := Nat.ne_of_lt lt16
  have ne18 : au2 ≠ ac2 := Nat.ne_of_lt ld2
  have g19 : n0 ≤ aw2 := Nat.le_trans gq2 (Nat.le_of_lt la2)
  have g20 : n0 ≤ ao2 := Nat.le_trans gq2 (Nat.le_of_lt lt4)
  have g21 : n0 ≤ au2 := Nat.le_trans gq2 (Nat.le_of_lt lt6)
  have g22 : n0 ≤ ac2 := Nat.le_trans gq2 (Nat.le_of_lt lt8)
  have ne23 : a2 ≠ a1 := Nat.ne_of_lt hlt
  have ne24 : a2 ≠ aw2 := Nat.ne_of_lt (Nat.lt_trans hlt la2)
  have ne25 : a2 ≠ ao2 := Nat.ne_of_lt (Nat.lt_trans hlt lt4)
  have ne26 : a2 ≠ au2 := Nat.ne_of_lt (Nat.lt_trans hlt lt6)
  have ne27 : a2 ≠ ac2 := Nat.ne_of_lt (Nat.lt_trans hlt lt8)
  have pre28 : ∀ t, own_S p e below s₁ m 1 #[sR a1, sR a2, sI p3] [(.ref a1)] t → R0 t := fun t k => pre0 t (by
    refine XS.aloadN X0.here hx rfl (hb hby own_d8_0) rfl rfl ?_
    exact k)
  obtain ⟨T29, X29, e29, st29⟩ := getF X0 hx hZ hown (host := "") (Or.inl hw66) Via.refl e0 Ft2 (g := (mkF m 1 #[sR a1, sR a2, sI p3] [(.ref a1)])) rfl rfl (hb hby own_d8_1)
  have pre30 : ∀ t, own_S p e below T29 m 5 #[sR a1, sR a2, sI p3] [(.ref a1), (.int 0)] t → R0 t := fun t k => pre28 t (by
    refine st29 _ ?_
    refine XS.aloadN X29.here hx rfl (hb hby own_d8_4) rfl rfl ?_
    exact k)
  obtain ⟨T31, X31, e31, st31⟩ := getF X29 hx hZ hown (host := "") (Or.inl hw32) Via.refl e29 Fw2 (g := (mkF m 5 #[sR a1, sR a2, sI p3] [(.ref a1), (.int 0)])) rfl rfl (hb hby own_d8_5)
  have pre32 : ∀ t, own_S p e below T31 m 8 #[sR a1, sR a2, sI p3] [(.ref aw2), (.int 0)] t → R0 t := fun t k => pre30 t (by
    refine st31 _ ?_
    exact k)
  obtain ⟨cl33, Ar33, q33, S33, N33, H33, G33⟩ := id Vw2
  have pre34 : ∀ t, own_S p e below T31 m 17 #[sR a1, sR a2, sI p3] [(.ref a1)] t → R0 t := fun t k => pre32 t (by
    refine X31.arraylength hx (by rw [e31]; exact Ar33.1) (State.isArrayOf_alike hZ.alike Ar33.2.1) (g := (mkF m 8 #[sR a1, sR a2, sI p3] [(.ref aw2), (.int 0)])) rfl rfl (hb hby own_d8_8) _ ?_
    rw [len_of S33 N33]
    refine XS.icmpYes X31.here hx rfl (pc0 := 9) (pc' := 16) rfl (hb hby own_d8_9) rfl (feq (by decide : ¬ ((0 : Int32) = (8 : Int32)))).2 (by decide) (by decide) ?_
    refine XS.aloadN X31.here hx rfl (hb hby own_d8_16) rfl rfl ?_
    exact k)
  obtain ⟨T35, X35, e35, st35⟩ := getF X31 hx hZ hown (host := "") (Or.inl hw32) Via.refl e31 Fw2 (g := (mkF m 17 #[sR a1, sR a2, sI p3] [(.ref a1)])) rfl rfl (hb hby own_d8_17)
  have pre36 : ∀ t, own_S p e below T35 m 21 #[sR a1, sR a2, sI p3] [(.ref a1), (.ref aw2)] t → R0 t := fun t k => pre34 t (by
    refine st35 _ ?_
    refine XS.aloadN X35.here hx rfl (hb hby own_d8_20) rfl rfl ?_
    exact k)
  obtain ⟨T37, X37, e37, st37⟩ := getF X35 hx hZ hown (host := "") (Or.inl hw66) Via.refl e35 Ft2 (g := (mkF m 21 #[sR a1, sR a2, sI p3] [(.ref a1), (.ref aw2)])) rfl rfl (hb hby own_d8_21)
  have pre38 : ∀ t, own_S p e below T37 m 25 #[sR a1, sR a2, sI p3] [(.ref a2), (.int 0), (.ref aw2)] t → R0 t := fun t k => pre36 t (by
    refine st37 _ ?_
    refine XS.aloadN X37.here hx rfl (hb hby own_d8_24) rfl rfl ?_
    exact k)
  obtain ⟨cl39, Ar39, q39, S39, N39, H39, G39⟩ := id Vw2
  have hin39 := inb_of (j := (0 : Int32)) S39 ⟨by decide, by decide⟩
  obtain ⟨T40, h40, X40, e40, W40, st40⟩ := stR X37 hx hZ e37 Ar39 (j := (0 : Int32)) hin39 rfl (Sto.ofV Ar39 q39 Ow2 (Ins.self E_a2)) (g := (mkF m 25 #[sR a1, sR a2, sI p3] [(.ref a2), (.int 0), (.ref aw2)])) rfl rfl (hb hby own_d8_25)
  have f41 := Nat.le_trans Z0 (Keep.of_wr W40).1
  have f42 := E_a2.wr W40
  have f43 := F_order_a2.other W40 (Or.inl ne24)
  have f44 := Ex2.wr W40
  have f45 := Fw2.other W40 (Or.inl ne3)
  have f46 := Fo2.other W40 (Or.inl ne3)
  have f47 := Fu2.other W40 (Or.inl ne3)
  have f48 := Fc2.other W40 (Or.inl ne3)
  have f49 := Fe2.other W40 (Or.inl ne3)
  have f50 := Fh2.other W40 (Or.inl ne3)
  have f51 := Ft2.other W40 (Or.inl ne3)
  have f52 := Fs2.other W40 (Or.inl ne3)
  have f53 := Fn2.other W40 (Or.inl ne3)
  have f54 := Vo2.other W40 (Ne.symm ne10)
  have f55 := Uu2.other W40 (Ne.symm ne12)
  have f56 := Uc2.other W40 (Ne.symm ne14)
  have f57 : own_Low a1 h0 h40 := f1.wr W40 (Nat.le_of_lt la2)
  have V58 : Arv Z h40 aw2 kw2 (.object "com/example/adlim/adlim/client/Waiter") (8 : Int32) [(.ref a2), x1, x2, .null, .null, .null, .null, .null] .null := Arv.set Ar39 q39 S39 N39 H39 G39 rfl W40 0 rfl (Nat.le_of_ble_eq_true rfl)
  have N59 := Fr.snoc X40 N0 g19
  have pre60 : ∀ t, own_S p e below T40 m 27 #[sR a1, sR a2, sI p3] [(.ref a1)] t → R0 t := fun t k => pre38 t (by
    refine st40 _ ?_
    refine XS.aloadN X40.here hx rfl (hb hby own_d8_26) rfl rfl ?_
    exact k)
  obtain ⟨T61, X61, e61, st61⟩ := getF X40 hx hZ hown (host := "") (Or.inl hw35) Via.refl e40 f46 (g := (mkF m 27 #[sR a1, sR a2, sI p3] [(.ref a1)])) rfl rfl (hb hby own_d8_27)
  have pre62 : ∀ t, own_S p e below T61 m 31 #[sR a1, sR a2, sI p3] [(.ref a1), (.ref ao2)] t → R0 t := fun t k => pre60 t (by
    refine st61 _ ?_
    refine XS.aloadN X61.here hx rfl (hb hby own_d8_30) rfl rfl ?_
    exact k)
  obtain ⟨T63, X63, e63, st63⟩ := getF X61 hx hZ hown (host := "") (Or.inl hw66) Via.refl e61 f51 (g := (mkF m 31 #[sR a1, sR a2, sI p3] [(.ref a1), (.ref ao2)])) rfl rfl (hb hby own_d8_31)
  have pre64 : ∀ t, own_S p e below T63 m 35 #[sR a1, sR a2, sI p3] [(.ref a2), (.int 0), (.ref ao2)] t → R0 t := fun t k => pre62 t (by
    refine st63 _ ?_
    refine XS.aloadN X63.here hx rfl (hb hby own_d8_34) rfl rfl ?_
    exact k)
  obtain ⟨cq65, kq65, q65a, q65b, q65c⟩ := isOf hZ e63 f42
  obtain ⟨_, _, ⟨T65, L65, k65, n65⟩, -, X65, ⟨Lc65, hQ65, l65, y65, z65⟩, st65⟩ := X63.virtualBack hx (y := own_y2) (z := own_y2) hown (mvT hZ hw69) (mvT hZ hw70) (notFace_of_selects (args := #[]) (mvT hZ hw72)) (mvT hZ hw72) (mvT hZ hw71) (by decide) (backOf (W := 2) (own_rm9 l Z a0 hw [] a2 ow h40 n0 f41 f43) hZ hw73 hw2 (by decide) (by decide)) q65a q65c (g := (mkF m 35 #[sR a1, sR a2, sI p3] [(.ref a2), (.int 0), (.ref ao2)])) rfl (by rw [hml]; rfl) (Steps.refl _) (argsL := []) (rest := [(.int 0), (.ref ao2)]) (lenOf own_pd_1 rfl) rfl (by show 2 * 0 + _ ≤ _; exact Nat.le_of_eq rfl) (hb hby own_d8_35) (fun _ _ => ⟨rfl, e63, (by decide : 0 + 0 ≤ _), (by decide : 0 + 0 ≤ _)⟩)
  dsimp only [Pt.U, Pt.locs, Pt.cells, Pt.slots] at X65 l65 y65 z65 st65 hQ65
  subst l65 y65 z65
  obtain ⟨rfl, N65q, eh65⟩ := hQ65
  have N65 := Fr.app N59 N65q
  have pre66 : ∀ t, own_S p e below T65 m 38 #[sR a1, sR a2, sI p3] [(.long ow), (.int 0), (.ref ao2)] t → R0 t := fun t k => pre64 t (by
    refine st65.trans ?_
    exact k)
  obtain ⟨cl67, Ar67, q67, S67, N67, H67, G67⟩ := id f54
  have hin67 := inb_of (j := (0 : Int32)) S67 ⟨by decide, by decide⟩
  obtain ⟨T68, h68, X68, e68, W68, st68⟩ := stJ X65 hx hZ eh65 Ar67 (j := (0 : Int32)) hin67 (g := (mkF m 38 #[sR a1, sR a2, sI p3] [(.long ow), (.int 0), (.ref ao2)])) rfl rfl (hb hby own_d8_38)
  have f69 := Nat.le_trans f41 (Keep.of_wr W68).1
  have f70 := f42.wr W68
  have f71 := f43.other W68 (Or.inl ne25)
  have f72 := f44.wr W68
  have f73 := f45.other W68 (Or.inl ne5)
  have f74 := f46.other W68 (Or.inl ne5)
  have f75 := f47.other W68 (Or.inl ne5)
  have f76 := f48.other W68 (Or.inl ne5)
  have f77 := f49.other W68 (Or.inl ne5)
  have f78 := f50.other W68 (Or.inl ne5)
  have f79 := f51.other W68 (Or.inl ne5)
  have f80 := f52.other W68 (Or.inl ne5)
  have f81 := f53.other W68 (Or.inl ne5)
  have f82 := f55.other W68 (Ne.symm ne15)
  have f83 := f56.other W68 (Ne.symm ne17)
  have f84 := V58.other W68 ne10
  have f85 : own_Low a1 h0 h68 := f57.wr W68 (Nat.le_of_lt lt4)
  have V86 : Arv Z h68 ao2 ko2 .long (8 : Int32) [(.long ow), (.long o1), (.long o2), (.long 0), (.long 0), (.long 0), (.long 0), (.long 0)] (.long 0) := Arv.set Ar67 q67 S67 N67 H67 G67 rfl W68 0 rfl (Nat.le_of_ble_eq_true rfl)
  have N87 := Fr.snoc X68 N65 g20
  have pre88 : ∀ t, own_S p e below T68 m 40 #[sR a1, sR a2, sI p3] [(.ref a1)] t → R0 t := fun t k => pre66 t (by
    refine st68 _ ?_
    refine XS.aloadN X68.here hx rfl (hb hby own_d8_39) rfl rfl ?_
    exact k)
  obtain ⟨T89, X89, e89, st89⟩ := getF X68 hx hZ hown (host := "") (Or.inl hw38) Via.refl e68 f75 (g := (mkF m 40 #[sR a1, sR a2, sI p3] [(.ref a1)])) rfl rfl (hb hby own_d8_40)
  have pre90 : ∀ t, own_S p e below T89 m 44 #[sR a1, sR a2, sI p3] [(.ref a1), (.ref au2)] t → R0 t := fun t k => pre88 t (by
    refine st89 _ ?_
    refine XS.aloadN X89.here hx rfl (hb hby own_d8_43) rfl rfl ?_
    exact k)
  obtain ⟨T91, X91, e91, st91⟩ := getF X89 hx hZ hown (host := "") (Or.inl hw66) Via.refl e89 f79 (g := (mkF m 44 #[sR a1, sR a2, sI p3] [(.ref a1), (.ref au2)])) rfl rfl (hb hby own_d8_44)
  have pre92 : ∀ t, own_S p e below T91 m 48 #[sR a1, sR a2, sI p3] [(.int p3), (.int 0), (.ref au2)] t → R0 t := fun t k => pre90 t (by
    refine st91 _ ?_
    refine XS.iloadN X91.here hx rfl (hb hby own_d8_47) rfl ?_
    exact k)
  by_cases hc48 : p3 = (0 : Int32)
  · have pre93 : ∀ t, own_S p e below T91 m 56 #[sR a1, sR a2, sI p3] [(.int 1), (.int 0), (.ref au2)] t → R0 t := fun t k => pre92 t (by
      refine XS.ifNo X91.here hx rfl (hb hby own_d8_48) rfl ((if0 _ _).trans (teq hc48).2) ?_
      refine XS.iconst X91.here hx rfl (hb hby own_d8_51) ?_
      refine XS.goto X91.here hx rfl (pc0 := 52) (pc' := 56) rfl (hb hby own_d8_52) (by decide) (by decide) ?_
      exact k)
    obtain ⟨cl94, y94, Ar94, S94, hin94, hat94⟩ := own_Any.get f82 (by simp) (0 : Int32) ⟨by decide, by decide⟩
    obtain ⟨T95, h95, X95, e95, W95, st95⟩ := stZ X91 hx hZ e91 Ar94 (j := (0 : Int32)) hin94 (g := (mkF m 56 #[sR a1, sR a2, sI p3] [(.int 1), (.int 0), (.ref au2)])) rfl rfl (hb hby own_d8_56)
    have f96 := Nat.le_trans f69 (Keep.of_wr W95).1
    have f97 := f70.wr W95
    have f98 := f71.other W95 (Or.inl ne26)
    have f99 := f72.wr W95
    have f100 := f73.other W95 (Or.inl ne7)
    have f101 := f74.other W95 (Or.inl ne7)
    have f102 := f75.other W95 (Or.inl ne7)
    have f103 := f76.other W95 (Or.inl ne7)
    have f104 := f77.other W95 (Or.inl ne7)
    have f105 := f78.other W95 (Or.inl ne7)
    have f106 := f79.other W95 (Or.inl ne7)
    have f107 := f80.other W95 (Or.inl ne7)
    have f108 := f81.other W95 (Or.inl ne7)
    have f109 := f83.other W95 (Ne.symm ne18)
    have f110 := f84.other W95 ne12
    have f111 := V86.other W95 ne15
    have f112 : own_Low a1 h0 h95 := f85.wr W95 (Nat.le_of_lt lt6)
    have U113 : own_Any Z h95 au2 .boolean := own_Any.wr f82 (0 : Int32) ⟨by decide, by decide⟩ W95 (fits_nar_bool _)
    have N114 := Fr.snoc X95 N87 g21
    have pre115 : ∀ t, own_S p e below T95 m 72 #[sR a1, sR a2, sI p3] [(.ref a1), (.ref a1)] t → R0 t := fun t k => pre93 t (by
      refine st95 _ ?_
      refine XS.iloadN X95.here hx rfl (hb hby own_d8_57) rfl ?_
      refine XS.ifYes X95.here hx rfl (pc0 := 58) (pc' := 70) rfl (hb hby own_d8_58) rfl ((if0 _ _).trans (teq hc48).1) (by decide) (by decide) ?_
      refine XS.aloadN X95.here hx rfl (hb hby own_d8_70) rfl rfl ?_
      refine XS.dup X95.here hx rfl (hb hby own_d8_71) rfl rfl ?_
      exact k)
    obtain ⟨T116, X116, e116, st116⟩ := getF X95 hx hZ hown (host := "") (Or.inl hw66) Via.refl e95 f106 (g := (mkF m 72 #[sR a1, sR a2, sI p3] [(.ref a1), (.ref a1)])) rfl rfl (hb hby own_d8_72)
    have pre117 : ∀ t, own_S p e below T116 m 77 #[sR a1, sR a2, sI p3] [(.int 1), (.ref a1)] t → R0 t := fun t k => pre115 t (by
      refine st116 _ ?_
      refine XS.iconst X116.here hx rfl (hb hby own_d8_75) ?_
      refine XS.iadd X116.here hx rfl (hb hby own_d8_76) rfl ?_
      exact k)
    obtain ⟨T118, h118, X118, e118, W118, st118⟩ := putF X116 hx hZ hown (host := "") (Or.inl hw66) Via.refl e116 f106 f99 (Or.inl hw67) hw24 (ty := .int) (by decide) rfl rfl (g := (mkF m 77 #[sR a1, sR a2, sI p3] [(.int 1), (.ref a1)])) rfl rfl (hb hby own_d8_77)
    have f119 := Nat.le_trans f96 (Keep.of_wr W118).1
    have f120 := f97.wr W118
    have f121 := f98.other W118 (Or.inl ne23)
    have f122 := f99.wr W118
    have f123 := f100.other W118 (Or.inr (slot_ne (Or.inl hw33) (Or.inl hw67) (by decide) (t := (.array (.object "com/example/adlim/adlim/client/Waiter"))) (t' := .int) (by decide) (by decide)))
    have f124 := f101.other W118 (Or.inr (slot_ne (Or.inl hw36) (Or.inl hw67) (by decide) (t := (.array .long)) (t' := .int) (by decide) (by decide)))
    have f125 := f102.other W118 (Or.inr (slot_ne (Or.inl hw39) (Or.inl hw67) (by decide) (t := (.array .boolean)) (t' := .int) (by decide) (by decide)))
    have f126 := f103.other W118 (Or.inr (slot_ne (Or.inl hw42) (Or.inl hw67) (by decide) (t := (.array .int)) (t' := .int) (by decide) (by decide)))
    have f127 := f104.other W118 (Or.inr (slot_ne (Or.inr hw44) (Or.inl hw67) (by decide) (t := (.object "com/example/adlim/adlim/client/CeilingQueue")) (t' := .int) (by decide) (by decide)))
    have f128 := f105.other W118 (Or.inr (slot_ne (Or.inl hw75) (Or.inl hw67) (by decide) (t := .int) (t' := .int) (by decide) (by decide)))
    have f129 := f107.other W118 (Or.inr (slot_ne (Or.inl hw55) (Or.inl hw67) (by decide) (t := .int) (t' := .int) (by decide) (by decide)))
    have f130 := f108.other W118 (Or.inr (slot_ne (Or.inl hw81) (Or.inl hw67) (by decide) (t := .int) (t' := .int) (by decide) (by decide)))
    have f131 := f109.other W118 (Ne.symm ne9)
    have f132 := f110.other W118 (Ne.symm ne3)
    have f133 := f111.other W118 (Ne.symm ne5)
    have f134 := U113.other W118 (Ne.symm ne7)
    have f135 : own_Low a1 h0 h118 := f112.wr W118 (Nat.le_refl _)
    have f136 := f106.same W118
    have N137 := Fr.snoc X118 N114 gq2
    have pre138 : ∀ t, own_S p e below T118 m 82 #[sR a1, sR a2, sI p3] [(.ref a1), (.ref a1)] t → R0 t := fun t k => pre117 t (by
      refine st118 _ ?_
      refine XS.aloadN X118.here hx rfl (hb hby own_d8_80) rfl rfl ?_
      refine XS.dup X118.here hx rfl (hb hby own_d8_81) rfl rfl ?_
      exact k)
    obtain ⟨T139, X139, e139, st139⟩ := getF X118 hx hZ hown (host := "") (Or.inl hw54) Via.refl e118 f129 (g := (mkF m 82 #[sR a1, sR a2, sI p3] [(.ref a1), (.ref a1)])) rfl rfl (hb hby own_d8_82)
    have pre140 : ∀ t, own_S p e below T139 m 87 #[sR a1, sR a2, sI p3] [(.int (sz + (1 : Int32))), (.ref a1)] t → R0 t := fun t k => pre138 t (by
      refine st139 _ ?_
      refine XS.iconst X139.here hx rfl (hb hby own_d8_85) ?_
      refine XS.iadd X139.here hx rfl (hb hby own_d8_86) rfl ?_
      exact k)
    obtain ⟨T141, h141, X141, e141, W141, st141⟩ := putF X139 hx hZ hown (host := "") (Or.inl hw54) Via.refl e139 f129 f122 (Or.inl hw55) hw24 (ty := .int) (by decide) rfl rfl (g := (mkF m 87 #[sR a1, sR a2, sI p3] [(.int (sz + (1 : Int32))), (.ref a1)])) rfl rfl (hb hby own_d8_87)
    have f142 := Nat.le_trans f119 (Keep.of_wr W141).1
    have f143 := f120.wr W141
    have f144 := f121.other W141 (Or.inl ne23)
    have f145 := f122.wr W141
    have f146 := f123.other W141 (Or.inr (slot_ne (Or.inl hw33) (Or.inl hw55) (by decide) (t := (.array (.object "com/example/adlim/adlim/client/Waiter"))) (t' := .int) (by decide) (by decide)))
    have f147 := f124.other W141 (Or.inr (slot_ne (Or.inl hw36) (Or.inl hw55) (by decide) (t := (.array .long)) (t' := .int) (by decide) (by decide)))
    have f148 := f125.other W141 (Or.inr (slot_ne (Or.inl hw39) (Or.inl hw55) (by decide) (t := (.array .boolean)) (t' := .int) (by decide) (by decide)))
    have f149 := f126.other W141 (Or.inr (slot_ne (Or.inl hw42) (Or.inl hw55) (by decide) (t := (.array .int)) (t' := .int) (by decide) (by decide)))
    have f150 := f127.other W141 (Or.inr (slot_ne (Or.inr hw44) (Or.inl hw55) (by decide) (t := (.object "com/example/adlim/adlim/client/CeilingQueue")) (t' := .int) (by decide) (by decide)))
    have f151 := f128.other W141 (Or.inr (slot_ne (Or.inl hw75) (Or.inl hw55) (by decide) (t := .int) (t' := .int) (by decide) (by decide)))
    have f152 := f130.other W141 (Or.inr (slot_ne (Or.inl hw81) (Or.inl hw55) (by decide) (t := .int) (t' := .int) (by decide) (by decide)))
    have f153 := f131.other W141 (Ne.symm ne9)
    have f154 := f132.other W141 (Ne.symm ne3)
    have f155 := f133.other W141 (Ne.symm ne5)
    have f156 := f134.other W141 (Ne.symm ne7)
    have f157 := f136.other W141 (Or.inr (slot_ne (Or.inl hw67) (Or.inl hw55) (by decide) (t := .int) (t' := .int) (by decide) (by decide)))
    have f158 : own_Low a1 h0 h141 := f135.wr W141 (Nat.le_refl _)
    have f159 := f129.same W141
    have N160 := Fr.snoc X141 N137 gq2
    have pre161 : ∀ t, own_S p e below T141 m 91 #[sR a1, sR a2, sI p3] [(.ref a1)] t → R0 t := fun t k => pre140 t (by
      refine st141 _ ?_
      refine XS.aloadN X141.here hx rfl (hb hby own_d8_90) rfl rfl ?_
      exact k)
    obtain ⟨T162, X162, e162, st162⟩ := getF X141 hx hZ hown (host := "") (Or.inl hw43) Via.refl e141 f150 (g := (mkF m 91 #[sR a1, sR a2, sI p3] [(.ref a1)])) rfl rfl (hb hby own_d8_91)
    have pre163 : ∀ t, own_S p e below T162 m 106 #[sR a1, sR a2, sI p3] [] t → R0 t := fun t k => pre161 t (by
      refine st162 _ ?_
      refine XS.ifnullYes X162.here hx rfl (pc0 := 94) (pc' := 106) rfl (hb hby own_d8_94) rfl (by decide) (by decide) ?_
      exact k)
    obtain ⟨fs, hr, hrun, hended, hW, hsame⟩ := X162.leave (v := none) (fun _ => rfl)
    refine ⟨_, _, cast (congrFun hR0 _) (pre163 _ (X162.returnOut hx Bd.returns (hb hby own_d8_106) hr)), hrun, hended, _, _, rfl, ?_, ⟨_, rfl⟩, hW, hsame.mono (by decide) (by decide)⟩
    show own_Q8t0 Z _ _ _ _ _ _ _ _ _ _ _ _ h0 n0 _ T162.heap _
    rw [e162]
    have Q164 : own_QI Z h141 n0 a1 (.ref a2) x1 x2 ow o1 o2 hd (1 : Int32) (sz + (1 : Int32)) := ⟨aw2, ao2, au2, ac2, kw2, ko2, cn2, f145, f146, f147, f148, f149, f150, f151, f157, f159, f152, f154, Ow2, f155, f156, f153, la2, lb2, lc2, ld2, gq2⟩
    exact ⟨rfl, N160, f158, Q164⟩
  · have pre165 : ∀ t, own_S p e below T91 m 56 #[sR a1, sR a2, sI p3] [(.int 0), (.int 0), (.ref au2)] t → R0 t := fun t k => pre92 t (by
      refine XS.ifYes X91.here hx rfl (pc0 := 48) (pc' := 55) rfl (hb hby own_d8_48) rfl ((if0 _ _).trans (feq hc48).2) (by decide) (by decide) ?_
      refine XS.iconst X91.here hx rfl (hb hby own_d8_55) ?_
      exact k)
    obtain ⟨cl166, y166, Ar166, S166, hin166, hat166⟩ := own_Any.get f82 (by simp) (0 : Int32) ⟨by decide, by decide⟩
    obtain ⟨T167, h167, X167, e167, W167, st167⟩ := stZ X91 hx hZ e91 Ar166 (j := (0 : Int32)) hin166 (g := (mkF m 56 #[sR a1, sR a2, sI p3] [(.int 0), (.int 0), (.ref au2)])) rfl rfl (hb hby own_d8_56)
    have f168 := Nat.le_trans f69 (Keep.of_wr W167).1
    have f169 := f70.wr W167
    have f170 := f71.other W167 (Or.inl ne26)
    have f171 := f72.wr W167
    have f172 := f73.other W167 (Or.inl ne7)
    have f173 := f74.other W167 (Or.inl ne7)
    have f174 := f75.other W167 (Or.inl ne7)
    have f175 := f76.other W167 (Or.inl ne7)
    have f176 := f77.other W167 (Or.inl ne7)
    have f177 := f78.other W167 (Or.inl ne7)
    have f178 := f79.other W167 (Or.inl ne7)
    have f179 := f80.other W167 (Or.inl ne7)
    have f180 := f81.other W167 (Or.inl ne7)
    have f181 := f83.other W167 (Ne.symm ne18)
    have f182 := f84.other W167 ne12
    have f183 := V86.other W167 ne15
    have f184 : own_Low a1 h0 h167 := f85.wr W167 (Nat.le_of_lt lt6)
    have U185 : own_Any Z h167 au2 .boolean := own_Any.wr f82 (0 : Int32) ⟨by decide, by decide⟩ W167 (fits_nar_bool _)
    have N186 := Fr.snoc X167 N87 g21
    have pre187 : ∀ t, own_S p e below T167 m 63 #[sR a1, sR a2, sI p3] [(.ref a1), (.ref a1)] t → R0 t := fun t k => pre165 t (by
      refine st167 _ ?_
      refine XS.iloadN X167.here hx rfl (hb hby own_d8_57) rfl ?_
      refine XS.ifNo X167.here hx rfl (hb hby own_d8_58) rfl ((if0 _ _).trans (feq hc48).1) ?_
      refine XS.aloadN X167.here hx rfl (hb hby own_d8_61) rfl rfl ?_
      refine XS.aloadN X167.here hx rfl (hb hby own_d8_62) rfl rfl ?_
      exact k)
    obtain ⟨T188, X188, e188, st188⟩ := getF X167 hx hZ hown (host := "") (Or.inl hw66) Via.refl e167 f178 (g := (mkF m 63 #[sR a1, sR a2, sI p3] [(.ref a1), (.ref a1)])) rfl rfl (hb hby own_d8_63)
    have pre189 : ∀ t, own_S p e below T188 m 67 #[sR a1, sR a2, sI p3] [(.int 1), (.int 0), (.ref a1)] t → R0 t := fun t k => pre187 t (by
      refine st188 _ ?_
      refine XS.iconst X188.here hx rfl (hb hby own_d8_66) ?_
      exact k)
    have Q190 : own_QI Z h167 n0 a1 (.ref a2) x1 x2 ow o1 o2 hd (0 : Int32) sz := ⟨aw2, ao2, au2, ac2, kw2, ko2, cn2, f171, f172, f173, f174, f175, f176, f177, f178, f179, f180, f182, Ow2, f183, U185, f181, la2, lb2, lc2, ld2, gq2⟩
    obtain ⟨cq191, q191, q191'⟩ := f171.cell
    obtain ⟨_, _, ⟨T191, L191, k191, n191⟩, -, X191, ⟨Lc191, hQ191, l191, y191, z191⟩, st191⟩ := X188.privateBack hx (y := own_y5) hown (mvT hZ hw76) (mvT hZ hw77) (own_selp hZ hw24 hw78 hw77 (by decide)) (Cond.privateMethod_at (mvP hZ hw78 (args := #[]))) (mvT hZ hw79) (by decide) (backOf (W := 0) (own_rm10s0 l Z a0 hw [] a1 (1 : Int32) (.ref a2) x1 x2 ow o1 o2 hd (0 : Int32) sz h167 n0 f168 Q190) hZ hw79 hw25 (by decide) (by decide)) (g := (mkF m 67 #[sR a1, sR a2, sI p3] [(.int 1), (.int 0), (.ref a1)])) rfl (by rw [hml]; rfl) (Steps.refl _) (a := a1) (by rw [e188]; exact q191) q191' (argsL := [(.int 0), (.int 1)]) (rest := []) (lenOf own_pd_2 rfl) rfl (by show 2 * 0 + _ ≤ _; exact Nat.le_of_eq rfl) (hb hby own_d8_67) (fun _ _ => ⟨rfl, e188, (by decide : 0 + 0 ≤ _), (by decide : 0 + 0 ≤ _)⟩)
    dsimp only [Pt.U, Pt.locs, Pt.cells, Pt.slots] at X191 l191 y191 z191 st191 hQ191
    subst l191 y191 z191
    obtain ⟨rfl, N191q, Lw191, Qw191⟩ := hQ191
    have f192 := Nat.le_trans f168 Lw191.1
    have f193 := Lw191.exa f169 hlt
    have f194 := Lw191.fld f170 hlt
    have f195 := f184.trans Lw191
    have Q196 : own_QI Z T191.heap n0 a1 (.ref a2) x1 x2 ow o1 o2 hd (0 : Int32) sz := Qw191
    obtain ⟨aw197, ao197, au197, ac197, kw197, ko197, cn197, Ex197, Fw197, Fo197, Fu197, Fc197, Fe197, Fh197, Ft197, Fs197, Fn197, Vw197, Ow197, Vo197, Uu197, Uc197, la197, lb197, lc197, ld197, gq197⟩ := id Q196
    have ne198 : a1 ≠ aw197 := Nat.ne_of_lt la197
    have lt199 : a1 < ao197 := (Nat.lt_trans la197 lb197)
    have ne200 : a1 ≠ ao197 := Nat.ne_of_lt lt199
    have lt201 : a1 < au197 := (Nat.lt_trans (Nat.lt_trans la197 lb197) lc197)
    have ne202 : a1 ≠ au197 := Nat.ne_of_lt lt201
    have lt203 : a1 < ac197 := (Nat.lt_trans (Nat.lt_trans (Nat.lt_trans la197 lb197) lc197) ld197)
    have ne204 : a1 ≠ ac197 := Nat.ne_of_lt lt203
    have ne205 : aw197 ≠ ao197 := Nat.ne_of_lt lb197
    have lt206 : aw197 < au197 := (Nat.lt_trans lb197 lc197)
    have ne207 : aw197 ≠ au197 := Nat.ne_of_lt lt206
    have lt208 : aw197 < ac197 := (Nat.lt_trans (Nat.lt_trans lb197 lc197) ld197)
    have ne209 : aw197 ≠ ac197 := Nat.ne_of_lt lt208
    have ne210 : ao197 ≠ au197 := Nat.ne_of_lt lc197
    have lt211 : ao197 < ac197 := (Nat.lt_trans lc197 ld197)
    have ne212 : ao197 ≠ ac197 := Nat.ne_of_lt lt211
    have ne213 : au197 ≠ ac197 := Nat.ne_of_lt ld197
    have g214 : n0 ≤ aw197 := Nat.le_trans gq197 (Nat.le_of_lt la197)
    have g215 : n0 ≤ ao197 := Nat.le_trans gq197 (Nat.le_of_lt lt199)
    have g216 : n0 ≤ au197 := Nat.le_trans gq197 (Nat.le_of_lt lt201)
    have g217 : n0 ≤ ac197 := Nat.le_trans gq197 (Nat.le_of_lt lt203)
    have ne218 : a2 ≠ a1 := Nat.ne_of_lt hlt
    have ne219 : a2 ≠ aw197 := Nat.ne_of_lt (Nat.lt_trans hlt la197)
    have ne220 : a2 ≠ ao197 := Nat.ne_of_lt (Nat.lt_trans hlt lt199)
    have ne221 : a2 ≠ au197 := Nat.ne_of_lt (Nat.lt_trans hlt lt201)
    have ne222 : a2 ≠ ac197 := Nat.ne_of_lt (Nat.lt_trans hlt lt203)
    have N191 := Fr.app N186 N191q
    have pre223 : ∀ t, own_S p e below T191 m 72 #[sR a1, sR a2, sI p3] [(.ref a1), (.ref a1)] t → R0 t := fun t k => pre189 t (by
      refine st191.trans ?_
      refine XS.aloadN X191.here hx rfl (hb hby own_d8_70) rfl rfl ?_
      refine XS.dup X191.here hx rfl (hb hby own_d8_71) rfl rfl ?_
      exact k)
    obtain ⟨T224, X224, e224, st224⟩ := getF X191 hx hZ hown (host := "") (Or.inl hw66) Via.refl rfl Ft197 (g := (mkF m 72 #[sR a1, sR a2, sI p3] [(.ref a1), (.ref a1)])) rfl rfl (hb hby own_d8_72)
    have pre225 : ∀ t, own_S p e below T224 m 77 #[sR a1, sR a2, sI p3] [(.int 1), (.ref a1)] t → R0 t := fun t k => pre223 t (by
      refine st224 _ ?_
      refine XS.iconst X224.here hx rfl (hb hby own_d8_75) ?_
      refine XS.iadd X224.here hx rfl (hb hby own_d8_76) rfl ?_
      exact k)
    obtain ⟨T226, h226, X226, e226, W226, st226⟩ := putF X224 hx hZ hown (host := "") (Or.inl hw66) Via.refl e224 Ft197 Ex197 (Or.inl hw67) hw24 (ty := .int) (by decide) rfl rfl (g := (mkF m 77 #[sR a1, sR a2, sI p3] [(.int 1), (.ref a1)])) rfl rfl (hb hby own_d8_77)
    have f227 := Nat.le_trans f192 (Keep.of_wr W226).1
    have f228 := f193.wr W226
    have f229 := f194.other W226 (Or.inl ne218)
    have f230 := Ex197.wr W226
    have f231 := Fw197.other W226 (Or.inr (slot_ne (Or.inl hw33) (Or.inl hw67) (by decide) (t := (.array (.object "com/example/adlim/adlim/client/Waiter"))) (t' := .int) (by decide) (by decide)))
    have f232 := Fo197.other W226 (Or.inr (slot_ne (Or.inl hw36) (Or.inl hw67) (by decide) (t := (.array .long)) (t' := .int) (by decide) (by decide)))
    have f233 := Fu197.other W226 (Or.inr (slot_ne (Or.inl hw39) (Or.inl hw67) (by decide) (t := (.array .boolean)) (t' := .int) (by decide) (by decide)))
    have f234 := Fc197.other W226 (Or.inr (slot_ne (Or.inl hw42) (Or.inl hw67) (by decide) (t := (.array .int)) (t' := .int) (by decide) (by decide)))
    have f235 := Fe197.other W226 (Or.inr (slot_ne (Or.inr hw44) (Or.inl hw67) (by decide) (t := (.object "com/example/adlim/adlim/client/CeilingQueue")) (t' := .int) (by decide) (by decide)))
    have f236 := Fh197.other W226 (Or.inr (slot_ne (Or.inl hw75) (Or.inl hw67) (by decide) (t := .int) (t' := .int) (by decide) (by decide)))
    have f237 := Fs197.other W226 (Or.inr (slot_ne (Or.inl hw55) (Or.inl hw67) (by decide) (t := .int) (t' := .int) (by decide) (by decide)))
    have f238 := Fn197.other W226 (Or.inr (slot_ne (Or.inl hw81) (Or.inl hw67) (by decide) (t := .int) (t' := .int) (by decide) (by decide)))
    have f239 := Vw197.other W226 (Ne.symm ne198)
    have f240 := Vo197.other W226 (Ne.symm ne200)
    have f241 := Uu197.other W226 (Ne.symm ne202)
    have f242 := Uc197.other W226 (Ne.symm ne204)
    have f243 : own_Low a1 h0 h226 := f195.wr W226 (Nat.le_refl _)
    have f244 := Ft197.same W226
    have N245 := Fr.snoc X226 N191 gq197
    have pre246 : ∀ t, own_S p e below T226 m 82 #[sR a1, sR a2, sI p3] [(.ref a1), (.ref a1)] t → R0 t := fun t k => pre225 t (by
      refine st226 _ ?_
      refine XS.aloadN X226.here hx rfl (hb hby own_d8_80) rfl rfl ?_
      refine XS.dup X226.here hx rfl (hb hby own_d8_81) rfl rfl ?_
      exact k)
    obtain ⟨T247, X247, e247, st247⟩ := getF X226 hx hZ hown (host := "") (Or.inl hw54) Via.refl e226 f237 (g := (mkF m 82 #[sR a1, sR a2, sI p3] [(.ref a1), (.ref a1)])) rfl rfl (hb hby own_d8_82)
    have pre248 : ∀ t, own_S p e below T247 m 87 #[sR a1, sR a2, sI p3] [(.int (sz + (1 : Int32))), (.ref a1)] t → R0 t := fun t k => pre246 t (by
      refine st247 _ ?_
      refine XS.iconst X247.here hx rfl (hb hby own_d8_85) ?_
      refine XS.iadd X247.here hx rfl (hb hby own_d8_86) rfl ?_
      exact k)
    obtain ⟨T249, h249, X249, e249, W249, st249⟩ := putF X247 hx hZ hown (host := "") (Or.inl hw54) Via.refl e247 f237 f230 (Or.inl hw55) hw24 (ty := .int) (by decide) rfl rfl (g := (mkF m 87 #[sR a1, sR a2, sI p3] [(.int (sz + (1 : Int32))), (.ref a1)])) rfl rfl (hb hby own_d8_87)
    have f250 := Nat.le_trans f227 (Keep.of_wr W249).1
    have f251 := f228.wr W249
    have f252 := f229.other W249 (Or.inl ne218)
    have f253 := f230.wr W249
    have f254 := f231.other W249 (Or.inr (slot_ne (Or.inl hw33) (Or.inl hw55) (by decide) (t := (.array (.object "com/example/adlim/adlim/client/Waiter"))) (t' := .int) (by decide) (by decide)))
    have f255 := f232.other W249 (Or.inr (slot_ne (Or.inl hw36) (Or.inl hw55) (by decide) (t := (.array .long)) (t' := .int) (by decide) (by decide)))
    have f256 := f233.other W249 (Or.inr (slot_ne (Or.inl hw39) (Or.inl hw55) (by decide) (t := (.array .boolean)) (t' := .int) (by decide) (by decide)))
    have f257 := f234.other W249 (Or.inr (slot_ne (Or.inl hw42) (Or.inl hw55) (by decide) (t := (.array .int)) (t' := .int) (by decide) (by decide)))
    have f258 := f235.other W249 (Or.inr (slot_ne (Or.inr hw44) (Or.inl hw55) (by decide) (t := (.object "com/example/adlim/adlim/client/CeilingQueue")) (t' := .int) (by decide) (by decide)))
    have f259 := f236.other W249 (Or.inr (slot_ne (Or.inl hw75) (Or.inl hw55) (by decide) (t := .int) (t' := .int) (by decide) (by decide)))
    have f260 := f238.other W249 (Or.inr (slot_ne (Or.inl hw81) (Or.inl hw55) (by decide) (t := .int) (t' := .int) (by decide) (by decide)))
    have f261 := f239.other W249 (Ne.symm ne198)
    have f262 := f240.other W249 (Ne.symm ne200)
    have f263 := f241.other W249 (Ne.symm ne202)
    have f264 := f242.other W249 (Ne.symm ne204)
    have f265 := f244.other W249 (Or.inr (slot_ne (Or.inl hw67) (Or.inl hw55) (by decide) (t := .int) (t' := .int) (by decide) (by decide)))
    have f266 : own_Low a1 h0 h249 := f243.wr W249 (Nat.le_refl _)
    have f267 := f237.same W249
    have N268 := Fr.snoc X249 N245 gq197
    have pre269 : ∀ t, own_S p e below T249 m 91 #[sR a1, sR a2, sI p3] [(.ref a1)] t → R0 t := fun t k => pre248 t (by
      refine st249 _ ?_
      refine XS.aloadN X249.here hx rfl (hb hby own_d8_90) rfl rfl ?_
      exact k)
    obtain ⟨T270, X270, e270, st270⟩ := getF X249 hx hZ hown (host := "") (Or.inl hw43) Via.refl e249 f258 (g := (mkF m 91 #[sR a1, sR a2, sI p3] [(.ref a1)])) rfl rfl (hb hby own_d8_91)
    have pre271 : ∀ t, own_S p e below T270 m 106 #[sR a1, sR a2, sI p3] [] t → R0 t := fun t k => pre269 t (by
      refine st270 _ ?_
      refine XS.ifnullYes X270.here hx rfl (pc0 := 94) (pc' := 106) rfl (hb hby own_d8_94) rfl (by decide) (by decide) ?_
      exact k)
    obtain ⟨fs, hr, hrun, hended, hW, hsame⟩ := X270.leave (v := none) (fun _ => rfl)
    refine ⟨_, _, cast (congrFun hR0 _) (pre271 _ (X270.returnOut hx Bd.returns (hb hby own_d8_106) hr)), hrun, hended, _, _, rfl, ?_, ⟨_, rfl⟩, hW, hsame.mono (by decide) (by decide)⟩
    show own_Q8t0 Z _ _ _ _ _ _ _ _ _ _ _ _ h0 n0 _ T270.heap _
    rw [e270]
    have Q272 : own_QI Z h249 n0 a1 (.ref a2) x1 x2 ow o1 o2 hd (1 : Int32) (sz + (1 : Int32)) := ⟨aw197, ao197, au197, ac197, kw197, ko197, cn197, f253, f254, f255, f256, f257, f258, f259, f265, f267, f260, f261, Ow197, f262, f263, f264, la197, lb197, lc197, ld197, gq197⟩
    exact ⟨rfl, N268, f266, Q272⟩
theorem own_ef_8t1 (m : MethodId) (x0 : Addr) (x1 : Addr) (x2 : Int32) : entryFrame m #[(.ref x0), (.ref x1), (.int x2)] 3 = mkF m 0 #[sR x0, sR x1, sI x2] [] := by first | (simp [entryFrame, mkF, argsToLocals, Value.category]; done) | rfl
def own_Q8t1 (Z : State) (a1 : Addr) (a2 : Addr) (p3 : Int32) (x0 : Value) (x1 : Value) (x2 : Value) (o0 : Int64) (o1 : Int64) (o2 : Int64) (hd : Int32) (sz : Int32) (ow : Int64) (h0 : Heap) (n0 : Nat) (v : Option Value) (h : Heap) (L : List Loc) : Prop := v = none ∧ Fr n0 L ∧ own_Low a1 h0 h ∧ own_QI Z h n0 a1 x0 (.ref a2) x2 o0 ow o2 hd (2 : Int32) (sz + (1 : Int32))
set_option maxRecDepth 65536 in
set_option maxHeartbeats 40000000 in
theorem own_rm8t1 (l : Launch) (Z : State) (a0 : Array Value) (hw : ∀ d ∈ tables_1, d.before a0 Z = true) (ws : List Jvm.Cond) (a1 : Addr) (a2 : Addr) (p3 : Int32) (x0 : Value) (x1 : Value) (x2 : Value) (o0 : Int64) (o1 : Int64) (o2 : Int64) (hd : Int32) (sz : Int32) (ow : Int64) (h0 : Heap) (n0 : Nat) (Z0 : n0 ≤ h0.size) (hQ : own_QI Z h0 n0 a1 x0 x1 x2 o0 o1 o2 hd (1 : Int32) sz) (E_a2 : Exa Z h0 a2 "com/example/adlim/adlim/client/Waiter") (F_order_a2 : Fld Z h0 a2 "com/example/adlim/adlim/client/Waiter" "order" "J" (.long ow)) (hlt : a2 < a1) :
    MetFree l own_y6 (head1 (Jvm.Cond.code own_y6 prog_63_method_4_code 3 none :: ws) ({ frames := 1, cells := 0, slots := 0, locals := 15 } : Room)) (fun a U => a = #[(.ref a1), (.ref a2), (.int p3)] ∧ Z.Warmed39 U.vm ∧ U.heap = h0) (fun _ _ _ _ _ => True) (fun _ U o U' => ∃ v L, o = .returned v ∧ own_Q8t1 Z a1 a2 p3 x0 x1 x2 o0 o1 o2 hd sz ow h0 n0 v U'.heap L ∧ FrameEnd U o U' L ({ frames := 1, cells := 0, slots := 0, locals := 15 } : Room).cells ({ frames := 1, cells := 0, slots := 0, locals := 15 } : Room).slots) := by
  refine MetFree.of_bodySF (plainFor_of_name own_pn_2) hisR ?_
  intro p e s m args below meth c s₁ Bd hml0 hP hK
  obtain ⟨rfl, hZ, hh⟩ := hP
  have hw2 := hw _ (List.mem_of_getElem? (i := 2) rfl)
  have hw24 := hw _ (List.mem_of_getElem? (i := 24) rfl)
  have hw25 := hw _ (List.mem_of_getElem? (i := 25) rfl)
  have hw32 := hw _ (List.mem_of_getElem? (i := 32) rfl)
  have hw33 := hw _ (List.mem_of_getElem? (i := 33) rfl)
  have hw35 := hw _ (List.mem_of_getElem? (i := 35) rfl)
  have hw36 := hw _ (List.mem_of_getElem? (i := 36) rfl)
  have hw38 := hw _ (List.mem_of_getElem? (i := 38) rfl)
  have hw39 := hw _ (List.mem_of_getElem? (i := 39) rfl)
  have hw42 := hw _ (List.mem_of_getElem? (i := 42) rfl)
  have hw43 := hw _ (List.mem_of_getElem? (i := 43) rfl)
  have hw44 := hw _ (List.mem_of_getElem? (i := 44) rfl)
  have hw54 := hw _ (List.mem_of_getElem? (i := 54) rfl)
  have hw55 := hw _ (List.mem_of_getElem? (i := 55) rfl)
  have hw66 := hw _ (List.mem_of_getElem? (i := 66) rfl)
  have hw67 := hw _ (List.mem_of_getElem? (i := 67) rfl)
  have hw69 := hw _ (List.mem_of_getElem? (i := 69) rfl)
  have hw70 := hw _ (List.mem_of_getElem? (i := 70) rfl)
  have hw71 := hw _ (List.mem_of_getElem? (i := 71) rfl)
  have hw72 := hw _ (List.mem_of_getElem? (i := 72) rfl)
  have hw73 := hw _ (List.mem_of_getElem? (i := 73) rfl)
  have hw75 := hw _ (List.mem_of_getElem? (i := 75) rfl)
  have hw76 := hw _ (List.mem_of_getElem? (i := 76) rfl)
  have hw77 := hw _ (List.mem_of_getElem? (i := 77) rfl)
  have hw78 := hw _ (List.mem_of_getElem? (i := 78) rfl)
  have hw79 := hw _ (List.mem_of_getElem? (i := 79) rfl)
  have hw81 := hw _ (List.mem_of_getElem? (i := 81) rfl)
  have hx := Bd.exec
  have hby := Bd.bytes
  have hml : c.maxLocals = 3 := hml0
  have hown : s.vm.findClass "com/example/adlim/adlim/client/WaiterQueue" = some m.cls := findClass_of_methodNamed Bd.named
  have hnm := (name_of_methodNamed Bd.named Bd.method).1
  have X0 : Stand p l e ({ frames := 1, cells := 0, slots := 0, locals := 15 } : Room) s m #[(.ref a1), (.ref a2), (.int p3)] below meth c s₁ [] 0 0 := Stand.of_body Bd
  have e0 : s₁.heap = h0 := by rw [← hh, Bd.state]; rfl
  have N0 := Fr.nil n0
  obtain ⟨R0, hR0⟩ : ∃ R : State → Prop, R = fun t => Steps p.tables e below (s₁.setTop (entryFrame m #[(.ref a1), (.ref a2), (.int p3)] 3)) t := ⟨_, rfl⟩
  have pre0 : ∀ t, Steps p.tables e below (s₁.setTop (mkF m 0 #[sR a1, sR a2, sI p3] [])) t → R0 t := fun t k => by rw [hR0]; exact castTop (own_ef_8t1 m a1 a2 p3) k
  have f1 : own_Low a1 h0 h0 := own_Low.refl _ _
  obtain ⟨aw2, ao2, au2, ac2, kw2, ko2, cn2, Ex2, Fw2, Fo2, Fu2, Fc2, Fe2, Fh2, Ft2, Fs2, Fn2, Vw2, Ow2, Vo2, Uu2, Uc2, la2, lb2, lc2, ld2, gq2⟩ := id hQ
  have ne3 : a1 ≠ aw2 := Nat.ne_of_lt la2
  have lt4 : a1 < ao2 := (Nat.lt_trans la2 lb2)
  have ne5 : a1 ≠ ao2 := Nat.ne_of_lt lt4
  have lt6 : a1 < au2 := (Nat.lt_trans (Nat.lt_trans la2 lb2) lc2)
  have ne7 : a1 ≠ au2 := Nat.ne_of_lt lt6
  have lt8 : a1 < ac2 := (Nat.lt_trans (Nat.lt_trans (Nat.lt_trans la2 lb2) lc2) ld2)
  have ne9 : a1 ≠ ac2 := Nat.ne_of_lt lt8
  have ne10 : aw2 ≠ ao2 := Nat.ne_of_lt lb2
  have lt11 : aw2 < au2 := (Nat.lt_trans lb2 lc2)
  have ne12 : aw2 ≠ au2 := Nat.ne_of_lt lt11
  have lt13 : aw2 < ac2 := (Nat.lt_trans (Nat.lt_trans lb2 lc2) ld2)
  have ne14 : aw2 ≠ ac2 := Nat.ne_of_lt lt13
  have ne15 : ao2 ≠ au2 := Nat.ne_of_lt lc2
  have lt16 : ao2 < ac2 := (Nat.lt_trans lc2 ld2)
  have ne17 : ao2 ≠ ac2 := Nat.ne_of_lt lt16
  have ne18 : au2 ≠ ac2 := Nat.ne_of_lt ld2
  have g19 : n0 ≤ aw2 := Nat.le_trans gq2 (Nat.le_of_lt la2)
  have g20 : n0 ≤ ao2 := Nat.le_trans gq2 (Nat.le_of_lt lt4)
  have g21 : n0 ≤ au2 := Nat.le_trans gq2 (Nat.le_of_lt lt6)
  have g22 : n0 ≤ ac2 := Nat.le_trans gq2 (Nat.le_of_lt lt8)
  have ne23 : a2 ≠ a1 := Nat.ne_of_lt hlt
  have ne24 : a2 ≠ aw2 := Nat.ne_of_lt (Nat.lt_trans hlt la2)
  have ne25 : a2 ≠ ao2 := Nat.ne_of_lt (Nat.lt_trans hlt lt4)
  have ne26 : a2 ≠ au2 := Nat.ne_of_lt (Nat.lt_trans hlt lt6)
  have ne27 : a2 ≠ ac2 := Nat.ne_of_lt (Nat.lt_trans hlt lt8)
  have pre28 : ∀ t, own_S p e below s₁ m 1 #[sR a1, sR a2, sI p3] [(.ref a1)] t → R0 t := fun t k => pre0 t (by
    refine XS.aloadN X0.here hx rfl (hb hby own_d8_0) rfl rfl ?_
    exact k)
  obtain ⟨T29, X29, e29, st29⟩ := getF X0 hx hZ hown (host := "") (Or.inl hw66) Via.refl e0 Ft2 (g := (mkF m 1 #[sR a1, sR a2, sI p3] [(.ref a1)])) rfl rfl (hb hby own_d8_1)
  have pre30 : ∀ t, own_S p e below T29 m 5 #[sR a1, sR a2, sI p3] [(.ref a1), (.int 1)] t → R0 t := fun t k => pre28 t (by
    refine st29 _ ?_
    refine XS.aloadN X29.here hx rfl (hb hby own_d8_4) rfl rfl ?_
    exact k)
  obtain ⟨T31, X31, e31, st31⟩ := getF X29 hx hZ hown (host := "") (Or.inl hw32) Via.refl e29 Fw2 (g := (mkF m 5 #[sR a1, sR a2, sI p3] [(.ref a1), (.int 1)])) rfl rfl (hb hby own_d8_5)
  have pre32 : ∀ t, own_S p e below T31 m 8 #[sR a1, sR a2, sI p3] [(.ref aw2), (.int 1)] t → R0 t := fun t k => pre30 t (by
    refine st31 _ ?_
    exact k)
  obtain ⟨cl33, Ar33, q33, S33, N33, H33, G33⟩ := id Vw2
  have pre34 : ∀ t, own_S p e below T31 m 17 #[sR a1, sR a2, sI p3] [(.ref a1)] t → R0 t := fun t k => pre32 t (by
    refine X31.arraylength hx (by rw [e31]; exact Ar33.1) (State.isArrayOf_alike hZ.alike Ar33.2.1) (g := (mkF m 8 #[sR a1, sR a2, sI p3] [(.ref aw2), (.int 1)])) rfl rfl (hb hby own_d8_8) _ ?_
    rw [len_of S33 N33]
    refine XS.icmpYes X31.here hx rfl (pc0 := 9) (pc' := 16) rfl (hb hby own_d8_9) rfl (feq (by decide : ¬ ((1 : Int32) = (8 : Int32)))).2 (by decide) (by decide) ?_
    refine XS.aloadN X31.here hx rfl (hb hby own_d8_16) rfl rfl ?_
    exact k)
  obtain ⟨T35, X35, e35, st35⟩ := getF X31 hx hZ hown (host := "") (Or.inl hw32) Via.refl e31 Fw2 (g := (mkF m 17 #[sR a1, sR a2, sI p3] [(.ref a1)])) rfl rfl (hb hby own_d8_17)
  have pre36 : ∀ t, own_S p e below T35 m 21 #[sR a1, sR a2, sI p3] [(.ref a1), (.ref aw2)] t → R0 t := fun t k => pre34 t (by
    refine st35 _ ?_
    refine XS.aloadN X35.here hx rfl (hb hby own_d8_20) rfl rfl ?_
    exact k)
  obtain ⟨T37, X37, e37, st37⟩ := getF X35 hx hZ hown (host := "") (Or.inl hw66) Via.refl e35 Ft2 (g := (mkF m 21 #[sR a1, sR a2, sI p3] [(.ref a1), (.ref aw2)])) rfl rfl (hb hby own_d8_21)
  have pre38 : ∀ t, own_S p e below T37 m 25 #[sR a1, sR a2, sI p3] [(.ref a2), (.int 1), (.ref aw2)] t → R0 t := fun t k => pre36 t (by
    refine st37 _ ?_
    refine XS.aloadN X37.here hx rfl (hb hby own_d8_24) rfl rfl ?_
    exact k)
  obtain ⟨cl39, Ar39, q39, S39, N39, H39, G39⟩ := id Vw2
  have hin39 := inb_of (j := (1 : Int32)) S39 ⟨by decide, by decide⟩
  obtain ⟨T40, h40, X40, e40, W40, st40⟩ := stR X37 hx hZ e37 Ar39 (j := (1 : Int32)) hin39 rfl (Sto.ofV Ar39 q39 Ow2 (Ins.self E_a2)) (g := (mkF m 25 #[sR a1, sR a2, sI p3] [(.ref a2), (.int 1), (.ref aw2)])) rfl rfl (hb hby own_d8_25)
  have f41 := Nat.le_trans Z0 (Keep.of_wr W40).1
  have f42 := E_a2.wr W40
  have f43 := F_order_a2.other W40 (Or.inl ne24)
  have f44 := Ex2.wr W40
  have f45 := Fw2.other W40 (Or.inl ne3)
  have f46 := Fo2.other W40 (Or.inl ne3)
  have f47 := Fu2.other W40 (Or.inl ne3)
  have f48 := Fc2.other W40 (Or.inl ne3)
  have f49 := Fe2.other W40 (Or.inl ne3)
  have f50 := Fh2.other W40 (Or.inl ne3)
  have f51 := Ft2.other W40 (Or.inl ne3)
  have f52 := Fs2.other W40 (Or.inl ne3)
  have f53 := Fn2.other W40 (Or.inl ne3)
  have f54 := Vo2.other W40 (Ne.symm ne10)
  have f55 := Uu2.other W40 (Ne.symm ne12)
  have f56 := Uc2.other W40 (Ne.symm ne14)
  have f57 : own_Low a1 h0 h40 := f1.wr W40 (Nat.le_of_lt la2)
  have V58 : Arv Z h40 aw2 kw2 (.object "com/example/adlim/adlim/client/Waiter") (8 : Int32) [x0, (.ref a2), x2, .null, .null, .null, .null, .null] .null := Arv.set Ar39 q39 S39 N39 H39 G39 rfl W40 1 rfl (Nat.le_of_ble_eq_true rfl)
  have N59 := Fr.snoc X40 N0 g19
  have pre60 : ∀ t, own_S p e below T40 m 27 #[sR a1, sR a2, sI p3] [(.ref a1)] t → R0 t := fun t k => pre38 t (by
    refine st40 _ ?_
    refine XS.aloadN X40.here hx rfl (hb hby own_d8_26) rfl rfl ?_
    exact k)
  obtain ⟨T61, X61, e61, st61⟩ := getF X40 hx hZ hown (host := "") (Or.inl hw35) Via.refl e40 f46 (g := (mkF m 27 #[sR a1, sR a2, sI p3] [(.ref a1)])) rfl rfl (hb hby own_d8_27)
  have pre62 : ∀ t, own_S p e below T61 m 31 #[sR a1, sR a2, sI p3] [(.ref a1), (.ref ao2)] t → R0 t := fun t k => pre60 t (by
    refine st61 _ ?_
    refine XS.aloadN X61.here hx rfl (hb hby own_d8_30) rfl rfl ?_
    exact k)
  obtain ⟨T63, X63, e63, st63⟩ := getF X61 hx hZ hown (host := "") (Or.inl hw66) Via.refl e61 f51 (g := (mkF m 31 #[sR a1, sR a2, sI p3] [(.ref a1), (.ref ao2)])) rfl rfl (hb hby own_d8_31)
  have pre64 : ∀ t, own_S p e below T63 m 35 #[sR a1, sR a2, sI p3] [(.ref a2), (.int 1), (.ref ao2)] t → R0 t := fun t k => pre62 t (by
    refine st63 _ ?_
    refine XS.aloadN X63.here hx rfl (hb hby own_d8_34) rfl rfl ?_
    exact k)
  obtain ⟨cq65, kq65, q65a, q65b, q65c⟩ := isOf hZ e63 f42
  obtain ⟨_, _, ⟨T65, L65, k65, n65⟩, -, X65, ⟨Lc65, hQ65, l65, y65, z65⟩, st65⟩ := X63.virtualBack hx (y := own_y2) (z := own_y2) hown (mvT hZ hw69) (mvT hZ hw70) (notFace_of_selects (args := #[]) (mvT hZ hw72)) (mvT hZ hw72) (mvT hZ hw71) (by decide) (backOf (W := 2) (own_rm9 l Z a0 hw [] a2 ow h40 n0 f41 f43) hZ hw73 hw2 (by decide) (by decide)) q65a q65c (g := (mkF m 35 #[sR a1, sR a2, sI p3] [(.ref a2), (.int 1), (.ref ao2)])) rfl (by rw [hml]; rfl) (Steps.refl _) (argsL := []) (rest := [(.int 1), (.ref ao2)]) (lenOf own_pd_1 rfl) rfl (by show 2 * 0 + _ ≤ _; exact Nat.le_of_eq rfl) (hb hby own_d8_35) (fun _ _ => ⟨rfl, e63, (by decide : 0 + 0 ≤ _), (by decide : 0 + 0 ≤ _)⟩)
  dsimp only [Pt.U, Pt.locs, Pt.cells, Pt.slots] at X65 l65 y65 z65 st65 hQ65
  subst l65 y65 z65
  obtain ⟨rfl, N65q, eh65⟩ := hQ65
  have N65 := Fr.app N59 N65q
  have pre66 : ∀ t, own_S p e below T65 m 38 #[sR a1, sR a2, sI p3] [(.long ow), (.int 1), (.ref ao2)] t → R0 t := fun t k => pre64 t (by
    refine st65.trans ?_
    exact k)
  obtain ⟨cl67, Ar67, q67, S67, N67, H67, G67⟩ := id f54
  have hin67 := inb_of (j := (1 : Int32)) S67 ⟨by decide, by decide⟩
  obtain ⟨T68, h68, X68, e68, W68, st68⟩ := stJ X65 hx hZ eh65 Ar67 (j := (1 : Int32)) hin67 (g := (mkF m 38 #[sR a1, sR a2, sI p3] [(.long ow), (.int 1), (.ref ao2)])) rfl rfl (hb hby own_d8_38)
  have f69 := Nat.le_trans f41 (Keep.of_wr W68).1
  have f70 := f42.wr W68
  have f71 := f43.other W68 (Or.inl ne25)
  have f72 := f44.wr W68
  have f73 := f45.other W68 (Or.inl ne5)
  have f74 := f46.other W68 (Or.inl ne5)
  have f75 := f47.other W68 (Or.inl ne5)
  have f76 := f48.other W68 (Or.inl ne5)
  have f77 := f49.other W68 (Or.inl ne5)
  have f78 := f50.other W68 (Or.inl ne5)
  have f79 := f51.other W68 (Or.inl ne5)
  have f80 := f52.other W68 (Or.inl ne5)
  have f81 := f53.other W68 (Or.inl ne5)
  have f82 := f55.other W68 (Ne.symm ne15)
  have f83 := f56.other W68 (Ne.symm ne17)
  have f84 := V58.other W68 ne10
  have f85 : own_Low a1 h0 h68 := f57.wr W68 (Nat.le_of_lt lt4)
  have V86 : Arv Z h68 ao2 ko2 .long (8 : Int32) [(.long o0), (.long ow), (.long o2), (.long 0), (.long 0), (.long 0), (.long 0), (.long 0)] (.long 0) := Arv.set Ar67 q67 S67 N67 H67 G67 rfl W68 1 rfl (Nat.le_of_ble_eq_true rfl)
  have N87 := Fr.snoc X68 N65 g20
  have pre88 : ∀ t, own_S p e below T68 m 40 #[sR a1, sR a2, sI p3] [(.ref a1)] t → R0 t := fun t k => pre66 t (by
    refine st68 _ ?_
    refine XS.aloadN X68.here hx rfl (hb hby own_d8_39) rfl rfl ?_
    exact k)
  obtain ⟨T89, X89, e89, st89⟩ := getF X68 hx hZ hown (host := "") (Or.inl hw38) Via.refl e68 f75 (g := (mkF m 40 #[sR a1, sR a2, sI p3] [(.ref a1)])) rfl rfl (hb hby own_d8_40)
  have pre90 : ∀ t, own_S p e below T89 m 44 #[sR a1, sR a2, sI p3] [(.ref a1), (.ref au2)] t → R0 t := fun t k => pre88 t (by
    refine st89 _ ?_
    refine XS.aloadN X89.here hx rfl (hb hby own_d8_43) rfl rfl ?_
    exact k)
  obtain ⟨T91, X91, e91, st91⟩ := getF X89 hx hZ hown (host := "") (Or.inl hw66) Via.refl e89 f79 (g := (mkF m 44 #[sR a1, sR a2, sI p3] [(.ref a1), (.ref au2)])) rfl rfl (hb hby own_d8_44)
  have pre92 : ∀ t, own_S p e below T91 m 48 #[sR a1, sR a2, sI p3] [(.int p3), (.int 1), (.ref au2)] t → R0 t := fun t k => pre90 t (by
    refine st91 _ ?_
    refine XS.iloadN X91.here hx rfl (hb hby own_d8_47) rfl ?_
    exact k)
  by_cases hc48 : p3 = (0 : Int32)
  · have pre93 : ∀ t, own_S p e below T91 m 56 #[sR a1, sR a2, sI p3] [(.int 1), (.int 1), (.ref au2)] t → R0 t := fun t k => pre92 t (by
      refine XS.ifNo X91.here hx rfl (hb hby own_d8_48) rfl ((if0 _ _).trans (teq hc48).2) ?_
      refine XS.iconst X91.here hx rfl (hb hby own_d8_51) ?_
      refine XS.goto X91.here hx rfl (pc0 := 52) (pc' := 56) rfl (hb hby own_d8_52) (by decide) (by decide) ?_
      exact k)
    obtain ⟨cl94, y94, Ar94, S94, hin94, hat94⟩ := own_Any.get f82 (by simp) (1 : Int32) ⟨by decide, by decide⟩
    obtain ⟨T95, h95, X95, e95, W95, st95⟩ := stZ X91 hx hZ e91 Ar94 (j := (1 : Int32)) hin94 (g := (mkF m 56 #[sR a1, sR a2, sI p3] [(.int 1), (.int 1), (.ref au2)])) rfl rfl (hb hby own_d8_56)
    have f96 := Nat.le_trans f69 (Keep.of_wr W95).1
    have f97 := f70.wr W95
    have f98 := f71.other W95 (Or.inl ne26)
    have f99 := f72.wr W95
    have f100 := f73.other W95 (Or.inl ne7)
    have f101 := f74.other W95 (Or.inl ne7)
    have f102 := f75.other W95 (Or.inl ne7)
    have f103 := f76.other W95 (Or.inl ne7)
    have f104 := f77.other W95 (Or.inl ne7)
    have f105 := f78.other W95 (Or.inl ne7)
    have f106 := f79.other W95 (Or.inl ne7)
    have f107 := f80.other W95 (Or.inl ne7)
    have f108 := f81.other W95 (Or.inl ne7)
    have f109 := f83.other W95 (Ne.symm ne18)
    have f110 := f84.other W95 ne12
    have f111 := V86.other W95 ne15
    have f112 : own_Low a1 h0 h95 := f85.wr W95 (Nat.le_of_lt lt6)
    have U113 : own_Any Z h95 au2 .boolean := own_Any.wr f82 (1 : Int32) ⟨by decide, by decide⟩ W95 (fits_nar_bool _)
    have N114 := Fr.snoc X95 N87 g21
    have pre115 : ∀ t, own_S p e below T95 m 72 #[sR a1, sR a2, sI p3] [(.ref a1), (.ref a1)] t → R0 t := fun t k => pre93 t (by
      refine st95 _ ?_
      refine XS.iloadN X95.here hx rfl (hb hby own_d8_57) rfl ?_
      refine XS.ifYes X95.here hx rfl (pc0 := 58) (pc' := 70) rfl (hb hby own_d8_58) rfl ((if0 _ _).trans (teq hc48).1) (by decide) (by decide) ?_
      refine XS.aloadN X95.here hx rfl (hb hby own_d8_70) rfl rfl ?_
      refine XS.dup X95.here hx rfl (hb hby own_d8_71) rfl rfl ?_
      exact k)
    obtain ⟨T116, X116, e116, st116⟩ := getF X95 hx hZ hown (host := "") (Or.inl hw66) Via.refl e95 f106 (g := (mkF m 72 #[sR a1, sR a2, sI p3] [(.ref a1), (.ref a1)])) rfl rfl (hb hby own_d8_72)
    have pre117 : ∀ t, own_S p e below T116 m 77 #[sR a1, sR a2, sI p3] [(.int 2), (.ref a1)] t → R0 t := fun t k => pre115 t (by
      refine st116 _ ?_
      refine XS.iconst X116.here hx rfl (hb hby own_d8_75) ?_
      refine XS.iadd X116.here hx rfl (hb hby own_d8_76) rfl ?_
      exact k)
    obtain ⟨T118, h118, X118, e118, W118, st118⟩ := putF X116 hx hZ hown (host := "") (Or.inl hw66) Via.refl e116 f106 f99 (Or.inl hw67) hw24 (ty := .int) (by decide) rfl rfl (g := (mkF m 77 #[sR a1, sR a2, sI p3] [(.int 2), (.ref a1)])) rfl rfl (hb hby own_d8_77)
    have f119 := Nat.le_trans f96 (Keep.of_wr W118).1
    have f120 := f97.wr W118
    have f121 := f98.other W118 (Or.inl ne23)
    have f122 := f99.wr W118
    have f123 := f100.other W118 (Or.inr (slot_ne (Or.inl hw33) (Or.inl hw67) (by decide) (t := (.array (.object "com/example/adlim/adlim/client/Waiter"))) (t' := .int) (by decide) (by decide)))
    have f124 := f101.other W118 (Or.inr (slot_ne (Or.inl hw36) (Or.inl hw67) (by decide) (t := (.array .long)) (t' := .int) (by decide) (by decide)))
    have f125 := f102.other W118 (Or.inr (slot_ne (Or.inl hw39) (Or.inl hw67) (by decide) (t := (.array .boolean)) (t' := .int) (by decide) (by decide)))
    have f126 := f103.other W118 (Or.inr (slot_ne (Or.inl hw42) (Or.inl hw67) (by decide) (t := (.array .int)) (t' := .int) (by decide) (by decide)))
    have f127 := f104.other W118 (Or.inr (slot_ne (Or.inr hw44) (Or.inl hw67) (by decide) (t := (.object "com/example/adlim/adlim/client/CeilingQueue")) (t' := .int) (by decide) (by decide)))
    have f128 := f105.other W118 (Or.inr (slot_ne (Or.inl hw75) (Or.inl hw67) (by decide) (t := .int) (t' := .int) (by decide) (by decide)))
    have f129 := f107.other W118 (Or.inr (slot_ne (Or.inl hw55) (Or.inl hw67) (by decide) (t := .int) (t' := .int) (by decide) (by decide)))
    have f130 := f108.other W118 (Or.inr (slot_ne (Or.inl hw81) (Or.inl hw67) (by decide) (t := .int) (t' := .int) (by decide) (by decide)))
    have f131 := f109.other W118 (Ne.symm ne9)
    have f132 := f110.other W118 (Ne.symm ne3)
    have f133 := f111.other W118 (Ne.symm ne5)
    have f134 := U113.other W118 (Ne.symm ne7)
    have f135 : own_Low a1 h0 h118 := f112.wr W118 (Nat.le_refl _)
    have f136 := f106.same W118
    have N137 := Fr.snoc X118 N114 gq2
    have pre138 : ∀ t, own_S p e below T118 m 82 #[sR a1, sR a2, sI p3] [(.ref a1), (.ref a1)] t → R0 t := fun t k => pre117 t (by
      refine st118 _ ?_
      refine XS.aloadN X118.here hx rfl (hb hby own_d8_80) rfl rfl ?_
      refine XS.dup X118.here hx rfl (hb hby own_d8_81) rfl rfl ?_
      exact k)
    obtain ⟨T139, X139, e139, st139⟩ := getF X118 hx hZ hown (host := "") (Or.inl hw54) Via.refl e118 f129 (g := (mkF m 82 #[sR a1, sR a2, sI p3] [(.ref a1), (.ref a1)])) rfl rfl (hb hby own_d8_82)
    have pre140 : ∀ t, own_S p e below T139 m 87 #[sR a1, sR a2, sI p3] [(.int (sz + (1 : Int32))), (.ref a1)] t → R0 t := fun t k => pre138 t (by
      refine st139 _ ?_
      refine XS.iconst X139.here hx rfl (hb hby own_d8_85) ?_
      refine XS.iadd X139.here hx rfl (hb hby own_d8_86) rfl ?_
      exact k)
    obtain ⟨T141, h141, X141, e141, W141, st141⟩ := putF X139 hx hZ hown (host := "") (Or.inl hw54) Via.refl e139 f129 f122 (Or.inl hw55) hw24 (ty := .int) (by decide) rfl rfl (g := (mkF m 87 #[sR a1, sR a2, sI p3] [(.int (sz + (1 : Int32))), (.ref a1)])) rfl rfl (hb hby own_d8_87)
    have f142 := Nat.le_trans f119 (Keep.of_wr W141).1
    have f143 := f120.wr W141
    have f144 := f121.other W141 (Or.inl ne23)
    have f145 := f122.wr W141
    have f146 := f123.other W141 (Or.inr (slot_ne (Or.inl hw33) (Or.inl hw55) (by decide) (t := (.array (.object "com/example/adlim/adlim/client/Waiter"))) (t' := .int) (by decide) (by decide)))
    have f147 := f124.other W141 (Or.inr (slot_ne (Or.inl hw36) (Or.inl hw55) (by decide) (t := (.array .long)) (t' := .int) (by decide) (by decide)))
    have f148 := f125.other W141 (Or.inr (slot_ne (Or.inl hw39) (Or.inl hw55) (by decide) (t := (.array .boolean)) (t' := .int) (by decide) (by decide)))
    have f149 := f126.other W141 (Or.inr (slot_ne (Or.inl hw42) (Or.inl hw55) (by decide) (t := (.array .int)) (t' := .int) (by decide) (by decide)))
    have f150 := f127.other W141 (Or.inr (slot_ne (Or.inr hw44) (Or.inl hw55) (by decide) (t := (.object "com/example/adlim/adlim/client/CeilingQueue")) (t' := .int) (by decide) (by decide)))
    have f151 := f128.other W141 (Or.inr (slot_ne (Or.inl hw75) (Or.inl hw55) (by decide) (t := .int) (t' := .int) (by decide) (by decide)))
    have f152 := f130.other W141 (Or.inr (slot_ne (Or.inl hw81) (Or.inl hw55) (by decide) (t := .int) (t' := .int) (by decide) (by decide)))
    have f153 := f131.other W141 (Ne.symm ne9)
    have f154 := f132.other W141 (Ne.symm ne3)
    have f155 := f133.other W141 (Ne.symm ne5)
    have f156 := f134.other W141 (Ne.symm ne7)
    have f157 := f136.other W141 (Or.inr (slot_ne (Or.inl hw67) (Or.inl hw55) (by decide) (t := .int) (t' := .int) (by decide) (by decide)))
    have f158 : own_Low a1 h0 h141 := f135.wr W141 (Nat.le_refl _)
    have f159 := f129.same W141
    have N160 := Fr.snoc X141 N137 gq2
    have pre161 : ∀ t, own_S p e below T141 m 91 #[sR a1, sR a2, sI p3] [(.ref a1)] t → R0 t := fun t k => pre140 t (by
      refine st141 _ ?_
      refine XS.aloadN X141.here hx rfl (hb hby own_d8_90) rfl rfl ?_
      exact k)
    obtain ⟨T162, X162, e162, st162⟩ := getF X141 hx hZ hown (host := "") (Or.inl hw43) Via.refl e141 f150 (g := (mkF m 91 #[sR a1, sR a2, sI p3] [(.ref a1)])) rfl rfl (hb hby own_d8_91)
    have pre163 : ∀ t, own_S p e below T162 m 106 #[sR a1, sR a2, sI p3] [] t → R0 t := fun t k => pre161 t (by
      refine st162 _ ?_
      refine XS.ifnullYes X162.here hx rfl (pc0 := 94) (pc' := 106) rfl (hb hby own_d8_94) rfl (by decide) (by decide) ?_
      exact k)
    obtain ⟨fs, hr, hrun, hended, hW, hsame⟩ := X162.leave (v := none) (fun _ => rfl)
    refine ⟨_, _, cast (congrFun hR0 _) (pre163 _ (X162.returnOut hx Bd.returns (hb hby own_d8_106) hr)), hrun, hended, _, _, rfl, ?_, ⟨_, rfl⟩, hW, hsame.mono (by decide) (by decide)⟩
    show own_Q8t1 Z _ _ _ _ _ _ _ _ _ _ _ _ h0 n0 _ T162.heap _
    rw [e162]
    have Q164 : own_QI Z h141 n0 a1 x0 (.ref a2) x2 o0 ow o2 hd (2 : Int32) (sz + (1 : Int32)) := ⟨aw2, ao2, au2, ac2, kw2, ko2, cn2, f145, f146, f147, f148, f149, f150, f151, f157, f159, f152, f154, Ow2, f155, f156, f153, la2, lb2, lc2, ld2, gq2⟩
    exact ⟨rfl, N160, f158, Q164⟩
  · have pre165 : ∀ t, own_S p e below T91 m 56 #[sR a1, sR a2, sI p3] [(.int 0), (.int 1), (.ref au2)] t → R0 t := fun t k => pre92 t (by
      refine XS.ifYes X91.here hx rfl (pc0 := 48) (pc' := 55) rfl (hb hby own_d8_48) rfl ((if0 _ _).trans (feq hc48).2) (by decide) (by decide) ?_
      refine XS.iconst X91.here hx rfl (hb hby own_d8_55) ?_
      exact k)
    obtain ⟨cl166, y166, Ar166, S166, hin166, hat166⟩ := own_Any.get f82 (by simp) (1 : Int32) ⟨by decide, by decide⟩
    obtain ⟨T167, h167, X167, e167, W167, st167⟩ := stZ X91 hx hZ e91 Ar166 (j := (1 : Int32)) hin166 (g := (mkF m 56 #[sR a1, sR a2, sI p3] [(.int 0), (.int 1), (.ref au2)])) rfl rfl (hb hby own_d8_56)
    have f168 := Nat.le_trans f69 (Keep.of_wr W167).1
    have f169 := f70.wr W167
    have f170 := f71.other W167 (Or.inl ne26)
    have f171 := f72.wr W167
    have f172 := f73.other W167 (Or.inl ne7)
    have f173 := f74.other W167 (Or.inl ne7)
    have f174 := f75.other W167 (Or.inl ne7)
    have f175 := f76.other W167 (Or.inl ne7)
    have f176 := f77.other W167 (Or.inl ne7)
    have f177 := f78.other W167 (Or.inl ne7)
    have f178 := f79.other W167 (Or.inl ne7)
    have f179 := f80.other W167 (Or.inl ne7)
    have f180 := f81.other W167 (Or.inl ne7)
    have f181 := f83.other W167 (Ne.symm ne18)
    have f182 := f84.other W167 ne12
    have f183 := V86.other W167 ne15
    have f184 : own_Low a1 h0 h167 := f85.wr W167 (Nat.le_of_lt lt6)
    have U185 : own_Any Z h167 au2 .boolean := own_Any.wr f82 (1 : Int32) ⟨by decide, by decide⟩ W167 (fits_nar_bool _)
    have N186 := Fr.snoc X167 N87 g21
    have pre187 : ∀ t, own_S p e below T167 m 63 #[sR a1, sR a2, sI p3] [(.ref a1), (.ref a1)] t → R0 t := fun t k => pre165 t (by
      refine st167 _ ?_
      refine XS.iloadN X167.here hx rfl (hb hby own_d8_57) rfl ?_
      refine XS.ifNo X167.here hx rfl (hb hby own_d8_58) rfl ((if0 _ _).trans (feq hc48).1) ?_
      refine XS.aloadN X167.here hx rfl (hb hby own_d8_61) rfl rfl ?_
      refine XS.aloadN X167.here hx rfl (hb hby own_d8_62) rfl rfl ?_
      exact k)
    obtain ⟨T188, X188, e188, st188⟩ := getF X167 hx hZ hown (host := "") (Or.inl hw66) Via.refl e167 f178 (g := (mkF m 63 #[sR a1, sR a2, sI p3] [(.ref a1), (.ref a1)])) rfl rfl (hb hby own_d8_63)
    have pre189 : ∀ t, own_S p e below T188 m 67 #[sR a1, sR a2, sI p3] [(.int 1), (.int 1), (.ref a1)] t → R0 t := fun t k => pre187 t (by
      refine st188 _ ?_
      refine XS.iconst X188.here hx rfl (hb hby own_d8_66) ?_
      exact k)
    have Q190 : own_QI Z h167 n0 a1 x0 (.ref a2) x2 o0 ow o2 hd (1 : Int32) sz := ⟨aw2, ao2, au2, ac2, kw2, ko2, cn2, f171, f172, f173, f174, f175, f176, f177, f178, f179, f180, f182, Ow2, f183, U185, f181, la2, lb2, lc2, ld2, gq2⟩
    obtain ⟨cq191, q191, q191'⟩ := f171.cell
    obtain ⟨_, _, ⟨T191, L191, k191, n191⟩, -, X191, ⟨Lc191, hQ191, l191, y191, z191⟩, st191⟩ := X188.privateBack hx (y := own_y5) hown (mvT hZ hw76) (mvT hZ hw77) (own_selp hZ hw24 hw78 hw77 (by decide)) (Cond.privateMethod_at (mvP hZ hw78 (args := #[]))) (mvT hZ hw79) (by decide) (backOf (W := 0) (own_rm10s1 l Z a0 hw [] a1 (1 : Int32) x0 (.ref a2) x2 o0 ow o2 hd (1 : Int32) sz h167 n0 f168 Q190) hZ hw79 hw25 (by decide) (by decide)) (g := (mkF m 67 #[sR a1, sR a2, sI p3] [(.int 1), (.int 1), (.ref a1)])) rfl (by rw [hml]; rfl) (Steps.refl _) (a := a1) (by rw [e188]; exact q191) q191' (argsL := [(.int 1), (.int 1)]) (rest := []) (lenOf own_pd_2 rfl) rfl (by show 2 * 0 + _ ≤ _; exact Nat.le_of_eq rfl) (hb hby own_d8_67) (fun _ _ => ⟨rfl, e188, (by decide : 0 + 0 ≤ _), (by decide : 0 + 0 ≤ _)⟩)
    dsimp only [Pt.U, Pt.locs, Pt.cells, Pt.slots] at X191 l191 y191 z191 st191 hQ191
    subst l191 y191 z191
    obtain ⟨rfl, N191q, Lw191, Qw191⟩ := hQ191
    have f192 := Nat.le_trans f168 Lw191.1
    have f193 := Lw191.exa f169 hlt
    have f194 := Lw191.fld f170 hlt
    have f195 := f184.trans Lw191
    have Q196 : own_QI Z T191.heap n0 a1 x0 (.ref a2) x2 o0 ow o2 hd (1 : Int32) sz := Qw191
    obtain ⟨aw197, ao197, au197, ac197, kw197, ko197, cn197, Ex197, Fw197, Fo197, Fu197, Fc197, Fe197, Fh197, Ft197, Fs197, Fn197, Vw197, Ow197, Vo197, Uu197, Uc197, la197, lb197, lc197, ld197, gq197⟩ := id Q196
    have ne198 : a1 ≠ aw197 := Nat.ne_of_lt la197
    have lt199 : a1 < ao197 := (Nat.lt_trans la197 lb197)
    have ne200 : a1 ≠ ao197 := Nat.ne_of_lt lt199
    have lt201 : a1 < au197 := (Nat.lt_trans (Nat.lt_trans la197 lb197) lc197)
    have ne202 : a1 ≠ au197 := Nat.ne_of_lt lt201
    have lt203 : a1 < ac197 := (Nat.lt_trans (Nat.lt_trans (Nat.lt_trans la197 lb197) lc197) ld197)
    have ne204 : a1 ≠ ac197 := Nat.ne_of_lt lt203
    have ne205 : aw197 ≠ ao197 := Nat.ne_of_lt lb197
    have lt206 : aw197 < au197 := (Nat.lt_trans lb197 lc197)
    have ne207 : aw197 ≠ au197 := Nat.ne_of_lt lt206
    have lt208 : aw197 < ac197 := (Nat.lt_trans (Nat.lt_trans lb197 lc197) ld197)
    have ne209 : aw197 ≠ ac197 := Nat.ne_of_lt lt208
    have ne210 : ao197 ≠ au197 := Nat.ne_of_lt lc197
    have lt211 : ao197 < ac197 := (Nat.lt_trans lc197 ld197)
    have ne212 : ao197 ≠ ac197 := Nat.ne_of_lt lt211
    have ne213 : au197 ≠ ac197 := Nat.ne_of_lt ld197
    have g214 : n0 ≤ aw197 := Nat.le_trans gq197 (Nat.le_of_lt la197)
    have g215 : n0 ≤ ao197 := Nat.le_trans gq197 (Nat.le_of_lt lt199)
    have g216 : n0 ≤ au197 := Nat.le_trans gq197 (Nat.le_of_lt lt201)
    have g217 : n0 ≤ ac197 := Nat.le_trans gq197 (Nat.le_of_lt lt203)
    have ne218 : a2 ≠ a1 := Nat.ne_of_lt hlt
    have ne219 : a2 ≠ aw197 := Nat.ne_of_lt (Nat.lt_trans hlt la197)
    have ne220 : a2 ≠ ao197 := Nat.ne_of_lt (Nat.lt_trans hlt lt199)
    have ne221 : a2 ≠ au197 := Nat.ne_of_lt (Nat.lt_trans hlt lt201)
    have ne222 : a2 ≠ ac197 := Nat.ne_of_lt (Nat.lt_trans hlt lt203)
    have N191 := Fr.app N186 N191q
    have pre223 : ∀ t, own_S p e below T191 m 72 #[sR a1, sR a2, sI p3] [(.ref a1), (.ref a1)] t → R0 t := fun t k => pre189 t (by
      refine st191.trans ?_
      refine XS.aloadN X191.here hx rfl (hb hby own_d8_70) rfl rfl ?_
      refine XS.dup X191.here hx rfl (hb hby own_d8_71) rfl rfl ?_
      exact k)
    obtain ⟨T224, X224, e224, st224⟩ := getF X191 hx hZ hown (host := "") (Or.inl hw66) Via.refl rfl Ft197 (g := (mkF m 72 #[sR a1, sR a2, sI p3] [(.ref a1), (.ref a1)])) rfl rfl (hb hby own_d8_72)
    have pre225 : ∀ t, own_S p e below T224 m 77 #[sR a1, sR a2, sI p3] [(.int 2), (.ref a1)] t → R0 t := fun t k => pre223 t (by
      refine st224 _ ?_
      refine XS.iconst X224.here hx rfl (hb hby own_d8_75) ?_
      refine XS.iadd X224.here hx rfl (hb hby own_d8_76) rfl ?_
      exact k)
    obtain ⟨T226, h226, X226, e226, W226, st226⟩ := putF X224 hx hZ hown (host := "") (Or.inl hw66) Via.refl e224 Ft197 Ex197 (Or.inl hw67) hw24 (ty := .int) (by decide) rfl rfl (g := (mkF m 77 #[sR a1, sR a2, sI p3] [(.int 2), (.ref a1)])) rfl rfl (hb hby own_d8_77)
    have f227 := Nat.le_trans f192 (Keep.of_wr W226).1
    have f228 := f193.wr W226
    have f229 := f194.other W226 (Or.inl ne218)
    have f230 := Ex197.wr W226
    have f231 := Fw197.other W226 (Or.inr (slot_ne (Or.inl hw33) (Or.inl hw67) (by decide) (t := (.array (.object "com/example/adlim/adlim/client/Waiter"))) (t' := .int) (by decide) (by decide)))
    have f232 := Fo197.other W226 (Or.inr (slot_ne (Or.inl hw36) (Or.inl hw67) (by decide) (t := (.array .long)) (t' := .int) (by decide) (by decide)))
    have f233 := Fu197.other W226 (Or.inr (slot_ne (Or.inl hw39) (Or.inl hw67) (by decide) (t := (.array .boolean)) (t' := .int) (by decide) (by decide)))
    have f234 := Fc197.other W226 (Or.inr (slot_ne (Or.inl hw42) (Or.inl hw67) (by decide) (t := (.array .int)) (t' := .int) (by decide) (by decide)))
    have f235 := Fe197.other W226 (Or.inr (slot_ne (Or.inr hw44) (Or.inl hw67) (by decide) (t := (.object "com/example/adlim/adlim/client/CeilingQueue")) (t' := .int) (by decide) (by decide)))
    have f236 := Fh197.other W226 (Or.inr (slot_ne (Or.inl hw75) (Or.inl hw67) (by decide) (t := .int) (t' := .int) (by decide) (by decide)))
    have f237 := Fs197.other W226 (Or.inr (slot_ne (Or.inl hw55) (Or.inl hw67) (by decide) (t := .int) (t' := .int) (by decide) (by decide)))
    have f238 := Fn197.other W226 (Or.inr (slot_ne (Or.inl hw81) (Or.inl hw67) (by decide) (t := .int) (t' := .int) (by decide) (by decide)))
    have f239 := Vw197.other W226 (Ne.symm ne198)
    have f240 := Vo197.other W226 (Ne.symm ne200)
    have f241 := Uu197.other W226 (Ne.symm ne202)
    have f242 := Uc197.other W226 (Ne.symm ne204)
    have f243 : own_Low a1 h0 h226 := f195.wr W226 (Nat.le_refl _)
    have f244 := Ft197.same W226
    have N245 := Fr.snoc X226 N191 gq197
    have pre246 : ∀ t, own_S p e below T226 m 82 #[sR a1, sR a2, sI p3] [(.ref a1), (.ref a1)] t → R0 t := fun t k => pre225 t (by
      refine st226 _ ?_
      refine XS.aloadN X226.here hx rfl (hb hby own_d8_80) rfl rfl ?_
      refine XS.dup X226.here hx rfl (hb hby own_d8_81) rfl rfl ?_
      exact k)
    obtain ⟨T247, X247, e247, st247⟩ := getF X226 hx hZ hown (host := "") (Or.inl hw54) Via.refl e226 f237 (g := (mkF m 82 #[sR a1, sR a2, sI p3] [(.ref a1), (.ref a1)])) rfl rfl (hb hby own_d8_82)
    have pre248 : ∀ t, own_S p e below T247 m 87 #[sR a1, sR a2, sI p3] [(.int (sz + (1 : Int32))), (.ref a1)] t → R0 t := fun t k => pre246 t (by
      refine st247 _ ?_
      refine XS.iconst X247.here hx rfl (hb hby own_d8_85) ?_
      refine XS.iadd X247.here hx rfl (hb hby own_d8_86) rfl ?_
      exact k)
    obtain ⟨T249, h249, X249, e249, W249, st249⟩ := putF X247 hx hZ hown (host := "") (Or.inl hw54) Via.refl e247 f237 f230 (Or.inl hw55) hw24 (ty := .int) (by decide) rfl rfl (g := (mkF m 87 #[sR a1, sR a2, sI p3] [(.int (sz + (1 : Int32))), (.ref a1)])) rfl rfl (hb hby own_d8_87)
    have f250 := Nat.le_trans f227 (Keep.of_wr W249).1
    have f251 := f228.wr W249
    have f252 := f229.other W249 (Or.inl ne218)
    have f253 := f230.wr W249
    have f254 := f231.other W249 (Or.inr (slot_ne (Or.inl hw33) (Or.inl hw55) (by decide) (t := (.array (.object "com/example/adlim/adlim/client/Waiter"))) (t' := .int) (by decide) (by decide)))
    have f255 := f232.other W249 (Or.inr (slot_ne (Or.inl hw36) (Or.inl hw55) (by decide) (t := (.array .long)) (t' := .int) (by decide) (by decide)))
    have f256 := f233.other W249 (Or.inr (slot_ne (Or.inl hw39) (Or.inl hw55) (by decide) (t := (.array .boolean)) (t' := .int) (by decide) (by decide)))
    have f257 := f234.other W249 (Or.inr (slot_ne (Or.inl hw42) (Or.inl hw55) (by decide) (t := (.array .int)) (t' := .int) (by decide) (by decide)))
    have f258 := f235.other W249 (Or.inr (slot_ne (Or.inr hw44) (Or.inl hw55) (by decide) (t := (.object "com/example/adlim/adlim/client/CeilingQueue")) (t' := .int) (by decide) (by decide)))
    have f259 := f236.other W249 (Or.inr (slot_ne (Or.inl hw75) (Or.inl hw55) (by decide) (t := .int) (t' := .int) (by decide) (by decide)))
    have f260 := f238.other W249 (Or.inr (slot_ne (Or.inl hw81) (Or.inl hw55) (by decide) (t := .int) (t' := .int) (by decide) (by decide)))
    have f261 := f239.other W249 (Ne.symm ne198)
    have f262 := f240.other W249 (Ne.symm ne200)
    have f263 := f241.other W249 (Ne.symm ne202)
    have f264 := f242.other W249 (Ne.symm ne204)
    have f265 := f244.other W249 (Or.inr (slot_ne (Or.inl hw67) (Or.inl hw55) (by decide) (t := .int) (t' := .int) (by decide) (by decide)))
    have f266 : own_Low a1 h0 h249 := f243.wr W249 (Nat.le_refl _)
    have f267 := f237.same W249
    have N268 := Fr.snoc X249 N245 gq197
    have pre269 : ∀ t, own_S p e below T249 m 91 #[sR a1, sR a2, sI p3] [(.ref a1)] t → R0 t := fun t k => pre248 t (by
      refine st249 _ ?_
      refine XS.aloadN X249.here hx rfl (hb hby own_d8_90) rfl rfl ?_
      exact k)
    obtain ⟨T270, X270, e270, st270⟩ := getF X249 hx hZ hown (host := "") (Or.inl hw43) Via.refl e249 f258 (g := (mkF m 91 #[sR a1, sR a2, sI p3] [(.ref a1)])) rfl rfl (hb hby own_d8_91)
    have pre271 : ∀ t, own_S p e below T270 m 106 #[sR a1, sR a2, sI p3] [] t → R0 t := fun t k => pre269 t (by
      refine st270 _ ?_
      refine XS.ifnullYes X270.here hx rfl (pc0 := 94) (pc' := 106) rfl (hb hby own_d8_94) rfl (by decide) (by decide) ?_
      exact k)
    obtain ⟨fs, hr, hrun, hended, hW, hsame⟩ := X270.leave (v := none) (fun _ => rfl)
    refine ⟨_, _, cast (congrFun hR0 _) (pre271 _ (X270.returnOut hx Bd.returns (hb hby own_d8_106) hr)), hrun, hended, _, _, rfl, ?_, ⟨_, rfl⟩, hW, hsame.mono (by decide) (by decide)⟩
    show own_Q8t1 Z _ _ _ _ _ _ _ _ _ _ _ _ h0 n0 _ T270.heap _
    rw [e270]
    have Q272 : own_QI Z h249 n0 a1 x0 (.ref a2) x2 o0 ow o2 hd (2 : Int32) (sz + (1 : Int32)) := ⟨aw197, ao197, au197, ac197, kw197, ko197, cn197, f253, f254, f255, f256, f257, f258, f259, f265, f267, f260, f261, Ow197, f262, f263, f264, la197, lb197, lc197, ld197, gq197⟩
    exact ⟨rfl, N268, f266, Q272⟩
theorem own_ef_8t2 (m : MethodId) (x0 : Addr) (x1 : Addr) (x2 : Int32) : entryFrame m #[(.ref x0), (.ref x1), (.int x2)] 3 = mkF m 0 #[sR x0, sR x1, sI x2] [] := by first | (simp [entryFrame, mkF, argsToLocals, Value.category]; done) | rfl
def own_Q8t2 (Z : State) (a1 : Addr) (a2 : Addr) (p3 : Int32) (x0 : Value) (x1 : Value) (x2 : Value) (o0 : Int64) (o1 : Int64) (o2 : Int64) (hd : Int32) (sz : Int32) (ow : Int64) (h0 : Heap) (n0 : Nat) (v : Option Value) (h : Heap) (L : List Loc) : Prop := v = none ∧ Fr n0 L ∧ own_Low a1 h0 h ∧ own_QI Z h n0 a1 x0 x1 (.ref a2) o0 o1 ow hd (3 : Int32) (sz + (1 : Int32))
set_option maxRecDepth 65536 in
set_option maxHeartbeats 40000000 in
theorem own_rm8t2 (l : Launch) (Z : State) (a0 : Array Value) (hw : ∀ d ∈ tables_1, d.before a0 Z = true) (ws : List Jvm.Cond) (a1 : Addr) (a2 : Addr) (p3 : Int32) (x0 : Value) (x1 : Value) (x2 : Value) (o0 : Int64) (o1 : Int64) (o2 : Int64) (hd : Int32) (sz : Int32) (ow : Int64) (h0 : Heap) (n0 : Nat) (Z0 : n0 ≤ h0.size) (hQ : own_QI Z h0 n0 a1 x0 x1 x2 o0 o1 o2 hd (2 : Int32) sz) (E_a2 : Exa Z h0 a2 "com/example/adlim/adlim/client/Waiter") (F_order_a2 : Fld Z h0 a2 "com/example/adlim/adlim/client/Waiter" "order" "J" (.long ow)) (hlt : a2 < a1) :
    MetFree l own_y6 (head1 (Jvm.Cond.code own_y6 prog_63_method_4_code 3 none :: ws) ({ frames := 1, cells := 0, slots := 0, locals := 15 } : Room)) (fun a U => a = #[(.ref a1), (.ref a2), (.int p3)] ∧ Z.Warmed39 U.vm ∧ U.heap = h0) (fun _ _ _ _ _ => True) (fun _ U o U' => ∃ v L, o = .returned v ∧ own_Q8t2 Z a1 a2 p3 x0 x1 x2 o0 o1 o2 hd sz ow h0 n0 v U'.heap L ∧ FrameEnd U o U' L ({ frames := 1, cells := 0, slots := 0, locals := 15 } : Room).cells ({ frames := 1, cells := 0, slots := 0, locals := 15 } : Room).slots) := by
  refine MetFree.of_bodySF (plainFor_of_name own_pn_2) hisR ?_
  intro p e s m args below meth c s₁ Bd hml0 hP hK
  obtain ⟨rfl, hZ, hh⟩ := hP
  have hw2 := hw _ (List.mem_of_getElem? (i := 2) rfl)
  have hw24 := hw _ (List.mem_of_getElem? (i := 24) rfl)
  have hw25 := hw _ (List.mem_of_getElem? (i := 25) rfl)
  have hw32 := hw _ (List.mem_of_getElem? (i := 32) rfl)
  have hw33 := hw _ (List.mem_of_getElem? (i := 33) rfl)
  have hw35 := hw _ (List.mem_of_getElem? (i := 35) rfl)
  have hw36 := hw _ (List.mem_of_getElem? (i := 36) rfl)
  have hw38 := hw _ (List.mem_of_getElem? (i := 38) rfl)
  have hw39 := hw _ (List.mem_of_getElem? (i := 39) rfl)
  have hw42 := hw _ (List.mem_of_getElem? (i := 42) rfl)
  have hw43 := hw _ (List.mem_of_getElem? (i := 43) rfl)
  have hw44 := hw _ (List.mem_of_getElem? (i := 44) rfl)
  have hw54 := hw _ (List.mem_of_getElem? (i := 54) rfl)
  have hw55 := hw _ (List.mem_of_getElem? (i := 55) rfl)
  have hw66 := hw _ (List.mem_of_getElem? (i := 66) rfl)
  have hw67 := hw _ (List.mem_of_getElem? (i := 67) rfl)
  have hw69 := hw _ (List.mem_of_getElem? (i := 69) rfl)
  have hw70 := hw _ (List.mem_of_getElem? (i := 70) rfl)
  have hw71 := hw _ (List.mem_of_getElem? (i := 71) rfl)
  have hw72 := hw _ (List.mem_of_getElem? (i := 72) rfl)
  have hw73 := hw _ (List.mem_of_getElem? (i := 73) rfl)
  have hw75 := hw _ (List.mem_of_getElem? (i := 75) rfl)
  have hw76 := hw _ (List.mem_of_getElem? (i := 76) rfl)
  have hw77 := hw _ (List.mem_of_getElem? (i := 77) rfl)
  have hw78 := hw _ (List.mem_of_getElem? (i := 78) rfl)
  have hw79 := hw _ (List.mem_of_getElem? (i := 79) rfl)
  have hw81 := hw _ (List.mem_of_getElem? (i := 81) rfl)
  have hx := Bd.exec
  have hby := Bd.bytes
  have hml : c.maxLocals = 3 := hml0
  have hown : s.vm.findClass "com/example/adlim/adlim/client/WaiterQueue" = some m.cls := findClass_of_methodNamed Bd.named
  have hnm := (name_of_methodNamed Bd.named Bd.method).1
  have X0 : Stand p l e ({ frames := 1, cells := 0, slots := 0, locals := 15 } : Room) s m #[(.ref a1), (.ref a2), (.int p3)] below meth c s₁ [] 0 0 := Stand.of_body Bd
  have e0 : s₁.heap = h0 := by rw [← hh, Bd.state]; rfl
  have N0 := Fr.nil n0
  obtain ⟨R0, hR0⟩ : ∃ R : State → Prop, R = fun t => Steps p.tables e below (s₁.setTop (entryFrame m #[(.ref a1), (.ref a2), (.int p3)] 3)) t := ⟨_, rfl⟩
  have pre0 : ∀ t, Steps p.tables e below (s₁.setTop (mkF m 0 #[sR a1, sR a2, sI p3] [])) t → R0 t := fun t k => by rw [hR0]; exact castTop (own_ef_8t2 m a1 a2 p3) k
  have f1 : own_Low a1 h0 h0 := own_Low.refl _ _
  obtain ⟨aw2, ao2, au2, ac2, kw2, ko2, cn2, Ex2, Fw2, Fo2, Fu2, Fc2, Fe2, Fh2, Ft2, Fs2, Fn2, Vw2, Ow2, Vo2, Uu2, Uc2, la2, lb2, lc2, ld2, gq2⟩ := id hQ
  have ne3 : a1 ≠ aw2 := Nat.ne_of_lt la2
  have lt4 : a1 < ao2 := (Nat.lt_trans la2 lb2)
  have ne5 : a1 ≠ ao2 := Nat.ne_of_lt lt4
  have lt6 : a1 < au2 := (Nat.lt_trans (Nat.lt_trans la2 lb2) lc2)
  have ne7 : a1 ≠ au2 := Nat.ne_of_lt lt6
  have lt8 : a1 < ac2 := (Nat.lt_trans (Nat.lt_trans (Nat.lt_trans la2 lb2) lc2) ld2)
  have ne9 : a1 ≠ ac2 := Nat.ne_of_lt lt8
  have ne10 : aw2 ≠ ao2 := Nat.ne_of_lt lb2
  have lt11 : aw2 < au2 := (Nat.lt_trans lb2 lc2)
  have ne12 : aw2 ≠ au2 := Nat.ne_of_lt lt11
  have lt13 : aw2 < ac2 := (Nat.lt_trans (Nat.lt_trans lb2 lc2) ld2)
  have ne14 : aw2 ≠ ac2 := Nat.ne_of_lt lt13
  have ne15 : ao2 ≠ au2 := Nat.ne_of_lt lc2
  have lt16 : ao2 < ac2 := (Nat.lt_trans lc2 ld2)
  have ne17 : ao2 ≠ ac2 := Nat.ne_of_lt lt16
  have ne18 : au2 ≠ ac2 := Nat.ne_of_lt ld2
  have g19 : n0 ≤ aw2 := Nat.le_trans gq2 (Nat.le_of_lt la2)
  have g20 : n0 ≤ ao2 := Nat.le_trans gq2 (Nat.le_of_lt lt4)
  have g21 : n0 ≤ au2 := Nat.le_trans gq2 (Nat.le_of_lt lt6)
  have g22 : n0 ≤ ac2 := Nat.le_trans gq2 (Nat.le_of_lt lt8)
  have ne23 : a2 ≠ a1 := Nat.ne_of_lt hlt
  have ne24 : a2 ≠ aw2 := Nat.ne_of_lt (Nat.lt_trans hlt la2)
  have ne25 : a2 ≠ ao2 := Nat.ne_of_lt (Nat.lt_trans hlt lt4)
  have ne26 : a2 ≠ au2 := Nat.ne_of_lt (Nat.lt_trans hlt lt6)
  have ne27 : a2 ≠ ac2 := Nat.ne_of_lt (Nat.lt_trans hlt lt8)
  have pre28 : ∀ t, own_S p e below s₁ m 1 #[sR a1, sR a2, sI p3] [(.ref a1)] t → R0 t := fun t k => pre0 t (by
    refine XS.aloadN X0.here hx rfl (hb hby own_d8_0) rfl rfl ?_
    exact k)
  obtain ⟨T29, X29, e29, st29⟩ := getF X0 hx hZ hown (host := "") (Or.inl hw66) Via.refl e0 Ft2 (g := (mkF m 1 #[sR a1, sR a2, sI p3] [(.ref a1)])) rfl rfl (hb hby own_d8_1)
  have pre30 : ∀ t, own_S p e below T29 m 5 #[sR a1, sR a2, sI p3] [(.ref a1), (.int 2)] t → R0 t := fun t k => pre28 t (by
    refine st29 _ ?_
    refine XS.aloadN X29.here hx rfl (hb hby own_d8_4) rfl rfl ?_
    exact k)
  obtain ⟨T31, X31, e31, st31⟩ := getF X29 hx hZ hown (host := "") (Or.inl hw32) Via.refl e29 Fw2 (g := (mkF m 5 #[sR a1, sR a2, sI p3] [(.ref a1), (.int 2)])) rfl rfl (hb hby own_d8_5)
  have pre32 : ∀ t, own_S p e below T31 m 8 #[sR a1, sR a2, sI p3] [(.ref aw2), (.int 2)] t → R0 t := fun t k => pre30 t (by
    refine st31 _ ?_
    exact k)
  obtain ⟨cl33, Ar33, q33, S33, N33, H33, G33⟩ := id Vw2
  have pre34 : ∀ t, own_S p e below T31 m 17 #[sR a1, sR a2, sI p3] [(.ref a1)] t → R0 t := fun t k => pre32 t (by
    refine X31.arraylength hx (by rw [e31]; exact Ar33.1) (State.isArrayOf_alike hZ.alike Ar33.2.1) (g := (mkF m 8 #[sR a1, sR a2, sI p3] [(.ref aw2), (.int 2)])) rfl rfl (hb hby own_d8_8) _ ?_
    rw [len_of S33 N33]
    refine XS.icmpYes X31.here hx rfl (pc0 := 9) (pc' := 16) rfl (hb hby own_d8_9) rfl (feq (by decide : ¬ ((2 : Int32) = (8 : Int32)))).2 (by decide) (by decide) ?_
    refine XS.aloadN X31.here hx rfl (hb hby own_d8_16) rfl rfl ?_
    exact k)
  obtain ⟨T35, X35, e35, st35⟩ := getF X31 hx hZ hown (host := "") (Or.inl hw32) Via.refl e31 Fw2 (g := (mkF m 17 #[sR a1, sR a2, sI p3] [(.ref a1)])) rfl rfl (hb hby own_d8_17)
  have pre36 : ∀ t, own_S p e below T35 m 21 #[sR a1, sR a2, sI p3] [(.ref a1), (.ref aw2)] t → R0 t := fun t k => pre34 t (by
    refine st35 _ ?_
    refine XS.aloadN X35.here hx rfl (hb hby own_d8_20) rfl rfl ?_
    exact k)
  obtain ⟨T37, X37, e37, st37⟩ := getF X35 hx hZ hown (host := "") (Or.inl hw66) Via.refl e35 Ft2 (g := (mkF m 21 #[sR a1, sR a2, sI p3] [(.ref a1), (.ref aw2)])) rfl rfl (hb hby own_d8_21)
  have pre38 : ∀ t, own_S p e below T37 m 25 #[sR a1, sR a2, sI p3] [(.ref a2), (.int 2), (.ref aw2)] t → R0 t := fun t k => pre36 t (by
    refine st37 _ ?_
    refine XS.aloadN X37.here hx rfl (hb hby own_d8_24) rfl rfl ?_
    exact k)
  obtain ⟨cl39, Ar39, q39, S39, N39, H39, G39⟩ := id Vw2
  have hin39 := inb_of (j := (2 : Int32)) S39 ⟨by decide, by decide⟩
  obtain ⟨T40, h40, X40, e40, W40, st40⟩ := stR X37 hx hZ e37 Ar39 (j := (2 : Int32)) hin39 rfl (Sto.ofV Ar39 q39 Ow2 (Ins.self E_a2)) (g := (mkF m 25 #[sR a1, sR a2, sI p3] [(.ref a2), (.int 2), (.ref aw2)])) rfl rfl (hb hby own_d8_25)
  have f41 := Nat.le_trans Z0 (Keep.of_wr W40).1
  have f42 := E_a2.wr W40
  have f43 := F_order_a2.other W40 (Or.inl ne24)
  have f44 := Ex2.wr W40
  have f45 := Fw2.other W40 (Or.inl ne3)
  have f46 := Fo2.other W40 (Or.inl ne3)
  have f47 := Fu2.other W40 (Or.inl ne3)
  have f48 := Fc2.other W40 (Or.inl ne3)
  have f49 := Fe2.other W40 (Or.inl ne3)
  have f50 := Fh2.other W40 (Or.inl ne3)
  have f51 := Ft2.other W40 (Or.inl ne3)
  have f52 := Fs2.other W40 (Or.inl ne3)
  have f53 := Fn2.other W40 (Or.inl ne3)
  have f54 := Vo2.other W40 (Ne.symm ne10)
  have f55 := Uu2.other W40 (Ne.symm ne12)
  have f56 := Uc2.other W40 (Ne.symm ne14)
  have f57 : own_Low a1 h0 h40 := f1.wr W40 (Nat.le_of_lt la2)
  have V58 : Arv Z h40 aw2 kw2 (.object "com/example/adlim/adlim/client/Waiter") (8 : Int32) [x0, x1, (.ref a2), .null, .null, .null, .null, .null] .null := Arv.set Ar39 q39 S39 N39 H39 G39 rfl W40 2 rfl (Nat.le_of_ble_eq_true rfl)
  have N59 := Fr.snoc X40 N0 g19
  have pre60 : ∀ t, own_S p e below T40 m 27 #[sR a1, sR a2, sI p3] [(.ref a1)] t → R0 t := fun t k => pre38 t (by
    refine st40 _ ?_
    refine XS.aloadN X40.here hx rfl (hb hby own_d8_26) rfl rfl ?_
    exact k)
  obtain ⟨T61, X61, e61, st61⟩ := getF X40 hx hZ hown (host := "") (Or.inl hw35) Via.refl e40 f46 (g := (mkF m 27 #[sR a1, sR a2, sI p3] [(.ref a1)])) rfl rfl (hb hby own_d8_27)
  have pre62 : ∀ t, own_S p e below T61 m 31 #[sR a1, sR a2, sI p3] [(.ref a1), (.ref ao2)] t → R0 t := fun t k => pre60 t (by
    refine st61 _ ?_
    refine XS.aloadN X61.here hx rfl (hb hby own_d8_30) rfl rfl ?_
    exact k)
  obtain ⟨T63, X63, e63, st63⟩ := getF X61 hx hZ hown (host := "") (Or.inl hw66) Via.refl e61 f51 (g := (mkF m 31 #[sR a1, sR a2, sI p3] [(.ref a1), (.ref ao2)])) rfl rfl (hb hby own_d8_31)
  have pre64 : ∀ t, own_S p e below T63 m 35 #[sR a1, sR a2, sI p3] [(.ref a2), (.int 2), (.ref ao2)] t → R0 t := fun t k => pre62 t (by
    refine st63 _ ?_
    refine XS.aloadN X63.here hx rfl (hb hby own_d8_34) rfl rfl ?_
    exact k)
  obtain ⟨cq65, kq65, q65a, q65b, q65c⟩ := isOf hZ e63 f42
  obtain ⟨_, _, ⟨T65, L65, k65, n65⟩, -, X65, ⟨Lc65, hQ65, l65, y65, z65⟩, st65⟩ := X63.virtualBack hx (y := own_y2) (z := own_y2) hown (mvT hZ hw69) (mvT hZ hw70) (notFace_of_selects (args := #[]) (mvT hZ hw72)) (mvT hZ hw72) (mvT hZ hw71) (by decide) (backOf (W := 2) (own_rm9 l Z a0 hw [] a2 ow h40 n0 f41 f43) hZ hw73 hw2 (by decide) (by decide)) q65a q65c (g := (mkF m 35 #[sR a1, sR a2, sI p3] [(.ref a2), (.int 2), (.ref ao2)])) rfl (by rw [hml]; rfl) (Steps.refl _) (argsL := []) (rest := [(.int 2), (.ref ao2)]) (lenOf own_pd_1 rfl) rfl (by show 2 * 0 + _ ≤ _; exact Nat.le_of_eq rfl) (hb hby own_d8_35) (fun _ _ => ⟨rfl, e63, (by decide : 0 + 0 ≤ _), (by decide : 0 + 0 ≤ _)⟩)
  dsimp only [Pt.U, Pt.locs, Pt.cells, Pt.slots] at X65 l65 y65 z65 st65 hQ65
  subst l65 y65 z65
  obtain ⟨rfl, N65q, eh65⟩ := hQ65
  have N65 := Fr.app N59 N65q
  have pre66 : ∀ t, own_S p e below T65 m 38 #[sR a1, sR a2, sI p3] [(.long ow), (.int 2), (.ref ao2)] t → R0 t := fun t k => pre64 t (by
    refine st65.trans ?_
    exact k)
  obtain ⟨cl67, Ar67, q67, S67, N67, H67, G67⟩ := id f54
  have hin67 := inb_of (j := (2 : Int32)) S67 ⟨by decide, by decide⟩
  obtain ⟨T68, h68, X68, e68, W68, st68⟩ := stJ X65 hx hZ eh65 Ar67 (j := (2 : Int32)) hin67 (g := (mkF m 38 #[sR a1, sR a2, sI p3] [(.long ow), (.int 2), (.ref ao2)])) rfl rfl (hb hby own_d8_38)
  have f69 := Nat.le_trans f41 (Keep.of_wr W68).1
  have f70 := f42.wr W68
  have f71 := f43.other W68 (Or.inl ne25)
  have f72 := f44.wr W68
  have f73 := f45.other W68 (Or.inl ne5)
  have f74 := f46.other W68 (Or.inl ne5)
  have f75 := f47.other W68 (Or.inl ne5)
  have f76 := f48.other W68 (Or.inl ne5)
  have f77 := f49.other W68 (Or.inl ne5)
  have f78 := f50.other W68 (Or.inl ne5)
  have f79 := f51.other W68 (Or.inl ne5)
  have f80 := f52.other W68 (Or.inl ne5)
  have f81 := f53.other W68 (Or.inl ne5)
  have f82 := f55.other W68 (Ne.symm ne15)
  have f83 := f56.other W68 (Ne.symm ne17)
  have f84 := V58.other W68 ne10
  have f85 : own_Low a1 h0 h68 := f57.wr W68 (Nat.le_of_lt lt4)
  have V86 : Arv Z h68 ao2 ko2 .long (8 : Int32) [(.long o0), (.long o1), (.long ow), (.long 0), (.long 0), (.long 0), (.long 0), (.long 0)] (.long 0) := Arv.set Ar67 q67 S67 N67 H67 G67 rfl W68 2 rfl (Nat.le_of_ble_eq_true rfl)
  have N87 := Fr.snoc X68 N65 g20
  have pre88 : ∀ t, own_S p e below T68 m 40 #[sR a1, sR a2, sI p3] [(.ref a1)] t → R0 t := fun t k => pre66 t (by
    refine st68 _ ?_
    refine XS.aloadN X68.here hx rfl (hb hby own_d8_39) rfl rfl ?_
    exact k)
  obtain ⟨T89, X89, e89, st89⟩ := getF X68 hx hZ hown (host := "") (Or.inl hw38) Via.refl e68 f75 (g := (mkF m 40 #[sR a1, sR a2, sI p3] [(.ref a1)])) rfl rfl (hb hby own_d8_40)
  have pre90 : ∀ t, own_S p e below T89 m 44 #[sR a1, sR a2, sI p3] [(.ref a1), (.ref au2)] t → R0 t := fun t k => pre88 t (by
    refine st89 _ ?_
    refine XS.aloadN X89.here hx rfl (hb hby own_d8_43) rfl rfl ?_
    exact k)
  obtain ⟨T91, X91, e91, st91⟩ := getF X89 hx hZ hown (host := "") (Or.inl hw66) Via.refl e89 f79 (g := (mkF m 44 #[sR a1, sR a2, sI p3] [(.ref a1), (.ref au2)])) rfl rfl (hb hby own_d8_44)
  have pre92 : ∀ t, own_S p e below T91 m 48 #[sR a1, sR a2, sI p3] [(.int p3), (.int 2), (.ref au2)] t → R0 t := fun t k => pre90 t (by
    refine st91 _ ?_
    refine XS.iloadN X91.here hx rfl (hb hby own_d8_47) rfl ?_
    exact k)
  by_cases hc48 : p3 = (0 : Int32)
  · have pre93 : ∀ t, own_S p e below T91 m 56 #[sR a1, sR a2, sI p3] [(.int 1), (.int 2), (.ref au2)] t → R0 t := fun t k => pre92 t (by
      refine XS.ifNo X91.here hx rfl (hb hby own_d8_48) rfl ((if0 _ _).trans (teq hc48).2) ?_
      refine XS.iconst X91.here hx rfl (hb hby own_d8_51) ?_
      refine XS.goto X91.here hx rfl (pc0 := 52) (pc' := 56) rfl (hb hby own_d8_52) (by decide) (by decide) ?_
      exact k)
    obtain ⟨cl94, y94, Ar94, S94, hin94, hat94⟩ := own_Any.get f82 (by simp) (2 : Int32) ⟨by decide, by decide⟩
    obtain ⟨T95, h95, X95, e95, W95, st95⟩ := stZ X91 hx hZ e91 Ar94 (j := (2 : Int32)) hin94 (g := (mkF m 56 #[sR a1, sR a2, sI p3] [(.int 1), (.int 2), (.ref au2)])) rfl rfl (hb hby own_d8_56)
    have f96 := Nat.le_trans f69 (Keep.of_wr W95).1
    have f97 := f70.wr W95
    have f98 := f71.other W95 (Or.inl ne26)
    have f99 := f72.wr W95
    have f100 := f73.other W95 (Or.inl ne7)
    have f101 := f74.other W95 (Or.inl ne7)
    have f102 := f75.other W95 (Or.inl ne7)
    have f103 := f76.other W95 (Or.inl ne7)
    have f104 := f77.other W95 (Or.inl ne7)
    have f105 := f78.other W95 (Or.inl ne7)
    have f106 := f79.other W95 (Or.inl ne7)
    have f107 := f80.other W95 (Or.inl ne7)
    have f108 := f81.other W95 (Or.inl ne7)
    have f109 := f83.other W95 (Ne.symm ne18)
    have f110 := f84.other W95 ne12
    have f111 := V86.other W95 ne15
    have f112 : own_Low a1 h0 h95 := f85.wr W95 (Nat.le_of_lt lt6)
    have U113 : own_Any Z h95 au2 .boolean := own_Any.wr f82 (2 : Int32) ⟨by decide, by decide⟩ W95 (fits_nar_bool _)
    have N114 := Fr.snoc X95 N87 g21
    have pre115 : ∀ t, own_S p e below T95 m 72 #[sR a1, sR a2, sI p3] [(.ref a1), (.ref a1)] t → R0 t := fun t k => pre93 t (by
      refine st95 _ ?_
      refine XS.iloadN X95.here hx rfl (hb hby own_d8_57) rfl ?_
      refine XS.ifYes X95.here hx rfl (pc0 := 58) (pc' := 70) rfl (hb hby own_d8_58) rfl ((if0 _ _).trans (teq hc48).1) (by decide) (by decide) ?_
      refine XS.aloadN X95.here hx rfl (hb hby own_d8_70) rfl rfl ?_
      refine XS.dup X95.here hx rfl (hb hby own_d8_71) rfl rfl ?_
      exact k)
    obtain ⟨T116, X116, e116, st116⟩ := getF X95 hx hZ hown (host := "") (Or.inl hw66) Via.refl e95 f106 (g := (mkF m 72 #[sR a1, sR a2, sI p3] [(.ref a1), (.ref a1)])) rfl rfl (hb hby own_d8_72)
    have pre117 : ∀ t, own_S p e below T116 m 77 #[sR a1, sR a2, sI p3] [(.int 3), (.ref a1)] t → R0 t := fun t k => pre115 t (by
      refine st116 _ ?_
      refine XS.iconst X116.here hx rfl (hb hby own_d8_75) ?_
      refine XS.iadd X116.here hx rfl (hb hby own_d8_76) rfl ?_
      exact k)
    obtain ⟨T118, h118, X118, e118, W118, st118⟩ := putF X116 hx hZ hown (host := "") (Or.inl hw66) Via.refl e116 f106 f99 (Or.inl hw67) hw24 (ty := .int) (by decide) rfl rfl (g := (mkF m 77 #[sR a1, sR a2, sI p3] [(.int 3), (.ref a1)])) rfl rfl (hb hby own_d8_77)
    have f119 := Nat.le_trans f96 (Keep.of_wr W118).1
    have f120 := f97.wr W118
    have f121 := f98.other W118 (Or.inl ne23)
    have f122 := f99.wr W118
    have f123 := f100.other W118 (Or.inr (slot_ne (Or.inl hw33) (Or.inl hw67) (by decide) (t := (.array (.object "com/example/adlim/adlim/client/Waiter"))) (t' := .int) (by decide) (by decide)))
    have f124 := f101.other W118 (Or.inr (slot_ne (Or.inl hw36) (Or.inl hw67) (by decide) (t := (.array .long)) (t' := .int) (by decide) (by decide)))
    have f125 := f102.other W118 (Or.inr (slot_ne (Or.inl hw39) (Or.inl hw67) (by decide) (t := (.array .boolean)) (t' := .int) (by decide) (by decide)))
    have f126 := f103.other W118 (Or.inr (slot_ne (Or.inl hw42) (Or.inl hw67) (by decide) (t := (.array .int)) (t' := .int) (by decide) (by decide)))
    have f127 := f104.other W118 (Or.inr (slot_ne (Or.inr hw44) (Or.inl hw67) (by decide) (t := (.object "com/example/adlim/adlim/client/CeilingQueue")) (t' := .int) (by decide) (by decide)))
    have f128 := f105.other W118 (Or.inr (slot_ne (Or.inl hw75) (Or.inl hw67) (by decide) (t := .int) (t' := .int) (by decide) (by decide)))
    have f129 := f107.other W118 (Or.inr (slot_ne (Or.inl hw55) (Or.inl hw67) (by decide) (t := .int) (t' := .int) (by decide) (by decide)))
    have f130 := f108.other W118 (Or.inr (slot_ne (Or.inl hw81) (Or.inl hw67) (by decide) (t := .int) (t' := .int) (by decide) (by decide)))
    have f131 := f109.other W118 (Ne.symm ne9)
    have f132 := f110.other W118 (Ne.symm ne3)
    have f133 := f111.other W118 (Ne.symm ne5)
    have f134 := U113.other W118 (Ne.symm ne7)
    have f135 : own_Low a1 h0 h118 := f112.wr W118 (Nat.le_refl _)
    have f136 := f106.same W118
    have N137 := Fr.snoc X118 N114 gq2
    have pre138 : ∀ t, own_S p e below T118 m 82 #[sR a1, sR a2, sI p3] [(.ref a1), (.ref a1)] t → R0 t := fun t k => pre117 t (by
      refine st118 _ ?_
      refine XS.aloadN X118.here hx rfl (hb hby own_d8_80) rfl rfl ?_
      refine XS.dup X118.here hx rfl (hb hby own_d8_81) rfl rfl ?_
      exact k)
    obtain ⟨T139, X139, e139, st139⟩ := getF X118 hx hZ hown (host := "") (Or.inl hw54) Via.refl e118 f129 (g := (mkF m 82 #[sR a1, sR a2, sI p3] [(.ref a1), (.ref a1)])) rfl rfl (hb hby own_d8_82)
    have pre140 : ∀ t, own_S p e below T139 m 87 #[sR a1, sR a2, sI p3] [(.int (sz + (1 : Int32))), (.ref a1)] t → R0 t := fun t k => pre138 t (by
      refine st139 _ ?_
      refine XS.iconst X139.here hx rfl (hb hby own_d8_85) ?_
      refine XS.iadd X139.here hx rfl (hb hby own_d8_86) rfl ?_
      exact k)
    obtain ⟨T141, h141, X141, e141, W141, st141⟩ := putF X139 hx hZ hown (host := "") (Or.inl hw54) Via.refl e139 f129 f122 (Or.inl hw55) hw24 (ty := .int) (by decide) rfl rfl (g := (mkF m 87 #[sR a1, sR a2, sI p3] [(.int (sz + (1 : Int32))), (.ref a1)])) rfl rfl (hb hby own_d8_87)
    have f142 := Nat.le_trans f119 (Keep.of_wr W141).1
    have f143 := f120.wr W141
    have f144 := f121.other W141 (Or.inl ne23)
    have f145 := f122.wr W141
    have f146 := f123.other W141 (Or.inr (slot_ne (Or.inl hw33) (Or.inl hw55) (by decide) (t := (.array (.object "com/example/adlim/adlim/client/Waiter"))) (t' := .int) (by decide) (by decide)))
    have f147 := f124.other W141 (Or.inr (slot_ne (Or.inl hw36) (Or.inl hw55) (by decide) (t := (.array .long)) (t' := .int) (by decide) (by decide)))
    have f148 := f125.other W141 (Or.inr (slot_ne (Or.inl hw39) (Or.inl hw55) (by decide) (t := (.array .boolean)) (t' := .int) (by decide) (by decide)))
    have f149 := f126.other W141 (Or.inr (slot_ne (Or.inl hw42) (Or.inl hw55) (by decide) (t := (.array .int)) (t' := .int) (by decide) (by decide)))
    have f150 := f127.other W141 (Or.inr (slot_ne (Or.inr hw44) (Or.inl hw55) (by decide) (t := (.object "com/example/adlim/adlim/client/CeilingQueue")) (t' := .int) (by decide) (by decide)))
    have f151 := f128.other W141 (Or.inr (slot_ne (Or.inl hw75) (Or.inl hw55) (by decide) (t := .int) (t' := .int) (by decide) (by decide)))
    have f152 := f130.other W141 (Or.inr (slot_ne (Or.inl hw81) (Or.inl hw55) (by decide) (t := .int) (t' := .int) (by decide) (by decide)))
    have f153 := f131.other W141 (Ne.symm ne9)
    have f154 := f132.other W141 (Ne.symm ne3)
    have f155 := f133.other W141 (Ne.symm ne5)
    have f156 := f134.other W141 (Ne.symm ne7)
    have f157 := f136.other W141 (Or.inr (slot_ne (Or.inl hw67) (Or.inl hw55) (by decide) (t := .int) (t' := .int) (by decide) (by decide)))
    have f158 : own_Low a1 h0 h141 := f135.wr W141 (Nat.le_refl _)
    have f159 := f129.same W141
    have N160 := Fr.snoc X141 N137 gq2
    have pre161 : ∀ t, own_S p e below T141 m 91 #[sR a1, sR a2, sI p3] [(.ref a1)] t → R0 t := fun t k => pre140 t (by
      refine st141 _ ?_
      refine XS.aloadN X141.here hx rfl (hb hby own_d8_90) rfl rfl ?_
      exact k)
    obtain ⟨T162, X162, e162, st162⟩ := getF X141 hx hZ hown (host := "") (Or.inl hw43) Via.refl e141 f150 (g := (mkF m 91 #[sR a1, sR a2, sI p3] [(.ref a1)])) rfl rfl (hb hby own_d8_91)
    have pre163 : ∀ t, own_S p e below T162 m 106 #[sR a1, sR a2, sI p3] [] t → R0 t := fun t k => pre161 t (by
      refine st162 _ ?_
      refine XS.ifnullYes X162.here hx rfl (pc0 := 94) (pc' := 106) rfl (hb hby own_d8_94) rfl (by decide) (by decide) ?_
      exact k)
    obtain ⟨fs, hr, hrun, hended, hW, hsame⟩ := X162.leave (v := none) (fun _ => rfl)
    refine ⟨_, _, cast (congrFun hR0 _) (pre163 _ (X162.returnOut hx Bd.returns (hb hby own_d8_106) hr)), hrun, hended, _, _, rfl, ?_, ⟨_, rfl⟩, hW, hsame.mono (by decide) (by decide)⟩
    show own_Q8t2 Z _ _ _ _ _ _ _ _ _ _ _ _ h0 n0 _ T162.heap _
    rw [e162]
    have Q164 : own_QI Z h141 n0 a1 x0 x1 (.ref a2) o0 o1 ow hd (3 : Int32) (sz + (1 : Int32)) := ⟨aw2, ao2, au2, ac2, kw2, ko2, cn2, f145, f146, f147, f148, f149, f150, f151, f157, f159, f152, f154, Ow2, f155, f156, f153, la2, lb2, lc2, ld2, gq2⟩
    exact ⟨rfl, N160, f158, Q164⟩
  · have pre165 : ∀ t, own_S p e below T91 m 56 #[sR a1, sR a2, sI p3] [(.int 0), (.int 2), (.ref au2)] t → R0 t := fun t k => pre92 t (by
      refine XS.ifYes X91.here hx rfl (pc0 := 48) (pc' := 55) rfl (hb hby own_d8_48) rfl ((if0 _ _).trans (feq hc48).2) (by decide) (by decide) ?_
      refine XS.iconst X91.here hx rfl (hb hby own_d8_55) ?_
      exact k)
    obtain ⟨cl166, y166, Ar166, S166, hin166, hat166⟩ := own_Any.get f82 (by simp) (2 : Int32) ⟨by decide, by decide⟩
    obtain ⟨T167, h167, X167, e167, W167, st167⟩ := stZ X91 hx hZ e91 Ar166 (j := (2 : Int32)) hin166 (g := (mkF m 56 #[sR a1, sR a2, sI p3] [(.int 0), (.int 2), (.ref au2)])) rfl rfl (hb hby own_d8_56)
    have f168 := Nat.le_trans f69 (Keep.of_wr W167).1
    have f169 := f70.wr W167
    have f170 := f71.other W167 (Or.inl ne26)
    have f171 := f72.wr W167
    have f172 := f73.other W167 (Or.inl ne7)
    have f173 := f74.other W167 (Or.inl ne7)
    have f174 := f75.other W167 (Or.inl ne7)
    have f175 := f76.other W167 (Or.inl ne7)
    have f176 := f77.other W167 (Or.inl ne7)
    have f177 := f78.other W167 (Or.inl ne7)
    have f178 := f79.other W167 (Or.inl ne7)
    have f179 := f80.other W167 (Or.inl ne7)
    have f180 := f81.other W167 (Or.inl ne7)
    have f181 := f83.other W167 (Ne.symm ne18)
    have f182 := f84.other W167 ne12
    have f183 := V86.other W167 ne15
    have f184 : own_Low a1 h0 h167 := f85.wr W167 (Nat.le_of_lt lt6)
    have U185 : own_Any Z h167 au2 .boolean := own_Any.wr f82 (2 : Int32) ⟨by decide, by decide⟩ W167 (fits_nar_bool _)
    have N186 := Fr.snoc X167 N87 g21
    have pre187 : ∀ t, own_S p e below T167 m 63 #[sR a1, sR a2, sI p3] [(.ref a1), (.ref a1)] t → R0 t := fun t k => pre165 t (by
      refine st167 _ ?_
      refine XS.iloadN X167.here hx rfl (hb hby own_d8_57) rfl ?_
      refine XS.ifNo X167.here hx rfl (hb hby own_d8_58) rfl ((if0 _ _).trans (feq hc48).1) ?_
      refine XS.aloadN X167.here hx rfl (hb hby own_d8_61) rfl rfl ?_
      refine XS.aloadN X167.here hx rfl (hb hby own_d8_62) rfl rfl ?_
      exact k)
    obtain ⟨T188, X188, e188, st188⟩ := getF X167 hx hZ hown (host := "") (Or.inl hw66) Via.refl e167 f178 (g := (mkF m 63 #[sR a1, sR a2, sI p3] [(.ref a1), (.ref a1)])) rfl rfl (hb hby own_d8_63)
    have pre189 : ∀ t, own_S p e below T188 m 67 #[sR a1, sR a2, sI p3] [(.int 1), (.int 2), (.ref a1)] t → R0 t := fun t k => pre187 t (by
      refine st188 _ ?_
      refine XS.iconst X188.here hx rfl (hb hby own_d8_66) ?_
      exact k)
    have Q190 : own_QI Z h167 n0 a1 x0 x1 (.ref a2) o0 o1 ow hd (2 : Int32) sz := ⟨aw2, ao2, au2, ac2, kw2, ko2, cn2, f171, f172, f173, f174, f175, f176, f177, f178, f179, f180, f182, Ow2, f183, U185, f181, la2, lb2, lc2, ld2, gq2⟩
    obtain ⟨cq191, q191, q191'⟩ := f171.cell
    obtain ⟨_, _, ⟨T191, L191, k191, n191⟩, -, X191, ⟨Lc191, hQ191, l191, y191, z191⟩, st191⟩ := X188.privateBack hx (y := own_y5) hown (mvT hZ hw76) (mvT hZ hw77) (own_selp hZ hw24 hw78 hw77 (by decide)) (Cond.privateMethod_at (mvP hZ hw78 (args := #[]))) (mvT hZ hw79) (by decide) (backOf (W := 0) (own_rm10s2 l Z a0 hw [] a1 (1 : Int32) x0 x1 (.ref a2) o0 o1 ow hd (2 : Int32) sz h167 n0 f168 Q190) hZ hw79 hw25 (by decide) (by decide)) (g := (mkF m 67 #[sR a1, sR a2, sI p3] [(.int 1), (.int 2), (.ref a1)])) rfl (by rw [hml]; rfl) (Steps.refl _) (a := a1) (by rw [e188]; exact q191) q191' (argsL := [(.int 2), (.int 1)]) (rest := []) (lenOf own_pd_2 rfl) rfl (by show 2 * 0 + _ ≤ _; exact Nat.le_of_eq rfl) (hb hby own_d8_67) (fun _ _ => ⟨rfl, e188, (by decide : 0 + 0 ≤ _), (by decide : 0 + 0 ≤ _)⟩)
    dsimp only [Pt.U, Pt.locs, Pt.cells, Pt.slots] at X191 l191 y191 z191 st191 hQ191
    subst l191 y191 z191
    obtain ⟨rfl, N191q, Lw191, Qw191⟩ := hQ191
    have f192 := Nat.le_trans f168 Lw191.1
    have f193 := Lw191.exa f169 hlt
    have f194 := Lw191.fld f170 hlt
    have f195 := f184.trans Lw191
    have Q196 : own_QI Z T191.heap n0 a1 x0 x1 (.ref a2) o0 o1 ow hd (2 : Int32) sz := Qw191
    obtain ⟨aw197, ao197, au197, ac197, kw197, ko197, cn197, Ex197, Fw197, Fo197, Fu197, Fc197, Fe197, Fh197, Ft197, Fs197, Fn197, Vw197, Ow197, Vo197, Uu197, Uc197, la197, lb197, lc197, ld197, gq197⟩ := id Q196
    have ne198 : a1 ≠ aw197 := Nat.ne_of_lt la197
    have lt199 : a1 < ao197 := (Nat.lt_trans la197 lb197)
    have ne200 : a1 ≠ ao197 := Nat.ne_of_lt lt199
    have lt201 : a1 < au197 := (Nat.lt_trans (Nat.lt_trans la197 lb197) lc197)
    have ne202 : a1 ≠ au197 := Nat.ne_of_lt lt201
    have lt203 : a1 < ac197 := (Nat.lt_trans (Nat.lt_trans (Nat.lt_trans la197 lb197) lc197) ld197)
    have ne204 : a1 ≠ ac197 := Nat.ne_of_lt lt203
    have ne205 : aw197 ≠ ao197 := Nat.ne_of_lt lb197
    have lt206 : aw197 < au197 := (Nat.lt_trans lb197 lc197)
    have ne207 : aw197 ≠ au197 := Nat.ne_of_lt lt206
    have lt208 : aw197 < ac197 := (Nat.lt_trans (Nat.lt_trans lb197 lc197) ld197)
    have ne209 : aw197 ≠ ac197 := Nat.ne_of_lt lt208
    have ne210 : ao197 ≠ au197 := Nat.ne_of_lt lc197
    have lt211 : ao197 < ac197 := (Nat.lt_trans lc197 ld197)
    have ne212 : ao197 ≠ ac197 := Nat.ne_of_lt lt211
    have ne213 : au197 ≠ ac197 := Nat.ne_of_lt ld197
    have g214 : n0 ≤ aw197 := Nat.le_trans gq197 (Nat.le_of_lt la197)
    have g215 : n0 ≤ ao197 := Nat.le_trans gq197 (Nat.le_of_lt lt199)
    have g216 : n0 ≤ au197 := Nat.le_trans gq197 (Nat.le_of_lt lt201)
    have g217 : n0 ≤ ac197 := Nat.le_trans gq197 (Nat.le_of_lt lt203)
    have ne218 : a2 ≠ a1 := Nat.ne_of_lt hlt
    have ne219 : a2 ≠ aw197 := Nat.ne_of_lt (Nat.lt_trans hlt la197)
    have ne220 : a2 ≠ ao197 := Nat.ne_of_lt (Nat.lt_trans hlt lt199)
    have ne221 : a2 ≠ au197 := Nat.ne_of_lt (Nat.lt_trans hlt lt201)
    have ne222 : a2 ≠ ac197 := Nat.ne_of_lt (Nat.lt_trans hlt lt203)
    have N191 := Fr.app N186 N191q
    have pre223 : ∀ t, own_S p e below T191 m 72 #[sR a1, sR a2, sI p3] [(.ref a1), (.ref a1)] t → R0 t := fun t k => pre189 t (by
      refine st191.trans ?_
      refine XS.aloadN X191.here hx rfl (hb hby own_d8_70) rfl rfl ?_
      refine XS.dup X191.here hx rfl (hb hby own_d8_71) rfl rfl ?_
      exact k)
    obtain ⟨T224, X224, e224, st224⟩ := getF X191 hx hZ hown (host := "") (Or.inl hw66) Via.refl rfl Ft197 (g := (mkF m 72 #[sR a1, sR a2, sI p3] [(.ref a1), (.ref a1)])) rfl rfl (hb hby own_d8_72)
    have pre225 : ∀ t, own_S p e below T224 m 77 #[sR a1, sR a2, sI p3] [(.int 3), (.ref a1)] t → R0 t := fun t k => pre223 t (by
      refine st224 _ ?_
      refine XS.iconst X224.here hx rfl (hb hby own_d8_75) ?_
      refine XS.iadd X224.here hx rfl (hb hby own_d8_76) rfl ?_
      exact k)
    obtain ⟨T226, h226, X226, e226, W226, st226⟩ := putF X224 hx hZ hown (host := "") (Or.inl hw66) Via.refl e224 Ft197 Ex197 (Or.inl hw67) hw24 (ty := .int) (by decide) rfl rfl (g := (mkF m 77 #[sR a1, sR a2, sI p3] [(.int 3), (.ref a1)])) rfl rfl (hb hby own_d8_77)
    have f227 := Nat.le_trans f192 (Keep.of_wr W226).1
    have f228 := f193.wr W226
    have f229 := f194.other W226 (Or.inl ne218)
    have f230 := Ex197.wr W226
    have f231 := Fw197.other W226 (Or.inr (slot_ne (Or.inl hw33) (Or.inl hw67) (by decide) (t := (.array (.object "com/example/adlim/adlim/client/Waiter"))) (t' := .int) (by decide) (by decide)))
    have f232 := Fo197.other W226 (Or.inr (slot_ne (Or.inl hw36) (Or.inl hw67) (by decide) (t := (.array .long)) (t' := .int) (by decide) (by decide)))
    have f233 := Fu197.other W226 (Or.inr (slot_ne (Or.inl hw39) (Or.inl hw67) (by decide) (t := (.array .boolean)) (t' := .int) (by decide) (by decide)))
    have f234 := Fc197.other W226 (Or.inr (slot_ne (Or.inl hw42) (Or.inl hw67) (by decide) (t := (.array .int)) (t' := .int) (by decide) (by decide)))
    have f235 := Fe197.other W226 (Or.inr (slot_ne (Or.inr hw44) (Or.inl hw67) (by decide) (t := (.object "com/example/adlim/adlim/client/CeilingQueue")) (t' := .int) (by decide) (by decide)))
    have f236 := Fh197.other W226 (Or.inr (slot_ne (Or.inl hw75) (Or.inl hw67) (by decide) (t := .int) (t' := .int) (by decide) (by decide)))
    have f237 := Fs197.other W226 (Or.inr (slot_ne (Or.inl hw55) (Or.inl hw67) (by decide) (t := .int) (t' := .int) (by decide) (by decide)))
    have f238 := Fn197.other W226 (Or.inr (slot_ne (Or.inl hw81) (Or.inl hw67) (by decide) (t := .int) (t' := .int) (by decide) (by decide)))
    have f239 := Vw197.other W226 (Ne.symm ne198)
    have f240 := Vo197.other W226 (Ne.symm ne200)
    have f241 := Uu197.other W226 (Ne.symm ne202)
    have f242 := Uc197.other W226 (Ne.symm ne204)
    have f243 : own_Low a1 h0 h226 := f195.wr W226 (Nat.le_refl _)
    have f244 := Ft197.same W226
    have N245 := Fr.snoc X226 N191 gq197
    have pre246 : ∀ t, own_S p e below T226 m 82 #[sR a1, sR a2, sI p3] [(.ref a1), (.ref a1)] t → R0 t := fun t k => pre225 t (by
      refine st226 _ ?_
      refine XS.aloadN X226.here hx rfl (hb hby own_d8_80) rfl rfl ?_
      refine XS.dup X226.here hx rfl (hb hby own_d8_81) rfl rfl ?_
      exact k)
    obtain ⟨T247, X247, e247, st247⟩ := getF X226 hx hZ hown (host := "") (Or.inl hw54) Via.refl e226 f237 (g := (mkF m 82 #[sR a1, sR a2, sI p3] [(.ref a1), (.ref a1)])) rfl rfl (hb hby own_d8_82)
    have pre248 : ∀ t, own_S p e below T247 m 87 #[sR a1, sR a2, sI p3] [(.int (sz + (1 : Int32))), (.ref a1)] t → R0 t := fun t k => pre246 t (by
      refine st247 _ ?_
      refine XS.iconst X247.here hx rfl (hb hby own_d8_85) ?_
      refine XS.iadd X247.here hx rfl (hb hby own_d8_86) rfl ?_
      exact k)
    obtain ⟨T249, h249, X249, e249, W249, st249⟩ := putF X247 hx hZ hown (host := "") (Or.inl hw54) Via.refl e247 f237 f230 (Or.inl hw55) hw24 (ty := .int) (by decide) rfl rfl (g := (mkF m 87 #[sR a1, sR a2, sI p3] [(.int (sz + (1 : Int32))), (.ref a1)])) rfl rfl (hb hby own_d8_87)
    have f250 := Nat.le_trans f227 (Keep.of_wr W249).1
    have f251 := f228.wr W249
    have f252 := f229.other W249 (Or.inl ne218)
    have f253 := f230.wr W249
    have f254 := f231.other W249 (Or.inr (slot_ne (Or.inl hw33) (Or.inl hw55) (by decide) (t := (.array (.object "com/example/adlim/adlim/client/Waiter"))) (t' := .int) (by decide) (by decide)))
    have f255 := f232.other W249 (Or.inr (slot_ne (Or.inl hw36) (Or.inl hw55) (by decide) (t := (.array .long)) (t' := .int) (by decide) (by decide)))
    have f256 := f233.other W249 (Or.inr (slot_ne (Or.inl hw39) (Or.inl hw55) (by decide) (t := (.array .boolean)) (t' := .int) (by decide) (by decide)))
    have f257 := f234.other W249 (Or.inr (slot_ne (Or.inl hw42) (Or.inl hw55) (by decide) (t := (.array .int)) (t' := .int) (by decide) (by decide)))
    have f258 := f235.other W249 (Or.inr (slot_ne (Or.inr hw44) (Or.inl hw55) (by decide) (t := (.object "com/example/adlim/adlim/client/CeilingQueue")) (t' := .int) (by decide) (by decide)))
    have f259 := f236.other W249 (Or.inr (slot_ne (Or.inl hw75) (Or.inl hw55) (by decide) (t := .int) (t' := .int) (by decide) (by decide)))
    have f260 := f238.other W249 (Or.inr (slot_ne (Or.inl hw81) (Or.inl hw55) (by decide) (t := .int) (t' := .int) (by decide) (by decide)))
    have f261 := f239.other W249 (Ne.symm ne198)
    have f262 := f240.other W249 (Ne.symm ne200)
    have f263 := f241.other W249 (Ne.symm ne202)
    have f264 := f242.other W249 (Ne.symm ne204)
    have f265 := f244.other W249 (Or.inr (slot_ne (Or.inl hw67) (Or.inl hw55) (by decide) (t := .int) (t' := .int) (by decide) (by decide)))
    have f266 : own_Low a1 h0 h249 := f243.wr W249 (Nat.le_refl _)
    have f267 := f237.same W249
    have N268 := Fr.snoc X249 N245 gq197
    have pre269 : ∀ t, own_S p e below T249 m 91 #[sR a1, sR a2, sI p3] [(.ref a1)] t → R0 t := fun t k => pre248 t (by
      refine st249 _ ?_
      refine XS.aloadN X249.here hx rfl (hb hby own_d8_90) rfl rfl ?_
      exact k)
    obtain ⟨T270, X270, e270, st270⟩ := getF X249 hx hZ hown (host := "") (Or.inl hw43) Via.refl e249 f258 (g := (mkF m 91 #[sR a1, sR a2, sI p3] [(.ref a1)])) rfl rfl (hb hby own_d8_91)
    have pre271 : ∀ t, own_S p e below T270 m 106 #[sR a1, sR a2, sI p3] [] t → R0 t := fun t k => pre269 t (by
      refine st270 _ ?_
      refine XS.ifnullYes X270.here hx rfl (pc0 := 94) (pc' := 106) rfl (hb hby own_d8_94) rfl (by decide) (by decide) ?_
      exact k)
    obtain ⟨fs, hr, hrun, hended, hW, hsame⟩ := X270.leave (v := none) (fun _ => rfl)
    refine ⟨_, _, cast (congrFun hR0 _) (pre271 _ (X270.returnOut hx Bd.returns (hb hby own_d8_106) hr)), hrun, hended, _, _, rfl, ?_, ⟨_, rfl⟩, hW, hsame.mono (by decide) (by decide)⟩
    show own_Q8t2 Z _ _ _ _ _ _ _ _ _ _ _ _ h0 n0 _ T270.heap _
    rw [e270]
    have Q272 : own_QI Z h249 n0 a1 x0 x1 (.ref a2) o0 o1 ow hd (3 : Int32) (sz + (1 : Int32)) := ⟨aw197, ao197, au197, ac197, kw197, ko197, cn197, f253, f254, f255, f256, f257, f258, f259, f265, f267, f260, f261, Ow197, f262, f263, f264, la197, lb197, lc197, ld197, gq197⟩
    exact ⟨rfl, N268, f266, Q272⟩
theorem own_d14_0 : decode prog_63_method_16_code 0 = .ok (.aload_n 0, 1) := by decide +kernel
theorem own_d14_1 : decode prog_63_method_16_code 1 = .ok (.getfield 14, 3) := by decide +kernel
theorem own_d14_4 : decode prog_63_method_16_code 4 = .ok (.iload_n 1, 1) := by decide +kernel
theorem own_d14_5 : decode prog_63_method_16_code 5 = .ok (.aaload, 1) := by decide +kernel
theorem own_d14_6 : decode prog_63_method_16_code 6 = .ok (.astore_n 2, 1) := by decide +kernel
theorem own_d14_7 : decode prog_63_method_16_code 7 = .ok (.aload_n 0, 1) := by decide +kernel
theorem own_d14_8 : decode prog_63_method_16_code 8 = .ok (.getfield 14, 3) := by decide +kernel
theorem own_d14_11 : decode prog_63_method_16_code 11 = .ok (.iload_n 1, 1) := by decide +kernel
theorem own_d14_12 : decode prog_63_method_16_code 12 = .ok (.aconst_null, 1) := by decide +kernel
theorem own_d14_13 : decode prog_63_method_16_code 13 = .ok (.aastore, 1) := by decide +kernel
theorem own_d14_14 : decode prog_63_method_16_code 14 = .ok (.aload_n 0, 1) := by decide +kernel
theorem own_d14_15 : decode prog_63_method_16_code 15 = .ok (.getfield 22, 3) := by decide +kernel
theorem own_d14_18 : decode prog_63_method_16_code 18 = .ok (.iload_n 1, 1) := by decide +kernel
theorem own_d14_19 : decode prog_63_method_16_code 19 = .ok (.baload, 1) := by decide +kernel
theorem own_d14_20 : decode prog_63_method_16_code 20 = .ok (.ifCond .ne 9, 3) := by decide +kernel
theorem own_d14_23 : decode prog_63_method_16_code 23 = .ok (.aload_n 0, 1) := by decide +kernel
theorem own_d14_24 : decode prog_63_method_16_code 24 = .ok (.iload_n 1, 1) := by decide +kernel
theorem own_d14_25 : decode prog_63_method_16_code 25 = .ok (.iconst (-1), 1) := by decide +kernel
theorem own_d14_26 : decode prog_63_method_16_code 26 = .ok (.invokevirtual 49, 3) := by decide +kernel
theorem own_d14_29 : decode prog_63_method_16_code 29 = .ok (.aload_n 0, 1) := by decide +kernel
theorem own_d14_30 : decode prog_63_method_16_code 30 = .ok (.dup, 1) := by decide +kernel
theorem own_d14_31 : decode prog_63_method_16_code 31 = .ok (.getfield 53, 3) := by decide +kernel
theorem own_d14_34 : decode prog_63_method_16_code 34 = .ok (.iconst 1, 1) := by decide +kernel
theorem own_d14_35 : decode prog_63_method_16_code 35 = .ok (.isub, 1) := by decide +kernel
theorem own_d14_36 : decode prog_63_method_16_code 36 = .ok (.putfield 53, 3) := by decide +kernel
theorem own_d14_39 : decode prog_63_method_16_code 39 = .ok (.aload_n 0, 1) := by decide +kernel
theorem own_d14_40 : decode prog_63_method_16_code 40 = .ok (.getfield 30, 3) := by decide +kernel
theorem own_d14_43 : decode prog_63_method_16_code 43 = .ok (.ifnull 12, 3) := by decide +kernel
theorem own_d14_55 : decode prog_63_method_16_code 55 = .ok (.return_, 1) := by decide +kernel
theorem own_ef_14j0 (m : MethodId) (x0 : Addr) (x1 : Int32) : entryFrame m #[(.ref x0), (.int x1)] 3 = mkF m 0 #[sR x0, sI x1, .unset] [] := by first | (simp [entryFrame, mkF, argsToLocals, Value.category]; done) | rfl
def own_Q14j0 (Z : State) (a1 : Addr) (ax : Addr) (x1 : Value) (x2 : Value) (o0 : Int64) (o1 : Int64) (o2 : Int64) (hd : Int32) (tl : Int32) (sz : Int32) (h0 : Heap) (n0 : Nat) (v : Option Value) (h : Heap) (L : List Loc) : Prop := v = none ∧ Fr n0 L ∧ own_Low a1 h0 h ∧ own_QI Z h n0 a1 .null x1 x2 o0 o1 o2 hd tl (sz - (1 : Int32))
abbrev own_y7 : MethodName := ⟨"com/example/adlim/adlim/client/WaiterQueue", "take", "(I)V"⟩
set_option maxRecDepth 65536 in
set_option maxHeartbeats 40000000 in
theorem own_rm14j0 (l : Launch) (Z : State) (a0 : Array Value) (hw : ∀ d ∈ tables_1, d.before a0 Z = true) (ws : List Jvm.Cond) (a1 : Addr) (ax : Addr) (x1 : Value) (x2 : Value) (o0 : Int64) (o1 : Int64) (o2 : Int64) (hd : Int32) (tl : Int32) (sz : Int32) (h0 : Heap) (n0 : Nat) (Z0 : n0 ≤ h0.size) (hQ : own_QI Z h0 n0 a1 (.ref ax) x1 x2 o0 o1 o2 hd tl sz) :
    MetFree l own_y7 (head1 (Jvm.Cond.code own_y7 prog_63_method_16_code 3 none :: ws) ({ frames := 1, cells := 0, slots := 0, locals := 15 } : Room)) (fun a U => a = #[(.ref a1), (.int 0)] ∧ Z.Warmed39 U.vm ∧ U.heap = h0) (fun _ _ _ _ _ => True) (fun _ U o U' => ∃ v L, o = .returned v ∧ own_Q14j0 Z a1 ax x1 x2 o0 o1 o2 hd tl sz h0 n0 v U'.heap L ∧ FrameEnd U o U' L ({ frames := 1, cells := 0, slots := 0, locals := 15 } : Room).cells ({ frames := 1, cells := 0, slots := 0, locals := 15 } : Room).slots) := by
  refine MetFree.of_bodySF (plainFor_of_name own_pn_2) hisR ?_
  intro p e s m args below meth c s₁ Bd hml0 hP hK
  obtain ⟨rfl, hZ, hh⟩ := hP
  have hw24 := hw _ (List.mem_of_getElem? (i := 24) rfl)
  have hw25 := hw _ (List.mem_of_getElem? (i := 25) rfl)
  have hw32 := hw _ (List.mem_of_getElem? (i := 32) rfl)
  have hw33 := hw _ (List.mem_of_getElem? (i := 33) rfl)
  have hw36 := hw _ (List.mem_of_getElem? (i := 36) rfl)
  have hw38 := hw _ (List.mem_of_getElem? (i := 38) rfl)
  have hw39 := hw _ (List.mem_of_getElem? (i := 39) rfl)
  have hw42 := hw _ (List.mem_of_getElem? (i := 42) rfl)
  have hw43 := hw _ (List.mem_of_getElem? (i := 43) rfl)
  have hw44 := hw _ (List.mem_of_getElem? (i := 44) rfl)
  have hw54 := hw _ (List.mem_of_getElem? (i := 54) rfl)
  have hw55 := hw _ (List.mem_of_getElem? (i := 55) rfl)
  have hw67 := hw _ (List.mem_of_getElem? (i := 67) rfl)
  have hw75 := hw _ (List.mem_of_getElem? (i := 75) rfl)
  have hw76 := hw _ (List.mem_of_getElem? (i := 76) rfl)
  have hw77 := hw _ (List.mem_of_getElem? (i := 77) rfl)
  have hw78 := hw _ (List.mem_of_getElem? (i := 78) rfl)
  have hw79 := hw _ (List.mem_of_getElem? (i := 79) rfl)
  have hw81 := hw _ (List.mem_of_getElem? (i := 81) rfl)
  have hx := Bd.exec
  have hby := Bd.bytes
  have hml : c.maxLocals = 3 := hml0
  have hown : s.vm.findClass "com/example/adlim/adlim/client/WaiterQueue" = some m.cls := findClass_of_methodNamed Bd.named
  have hnm := (name_of_methodNamed Bd.named Bd.method).1
  have X0 : Stand p l e ({ frames := 1, cells := 0, slots := 0, locals := 15 } : Room) s m #[(.ref a1), (.int 0)] below meth c s₁ [] 0 0 := Stand.of_body Bd
  have e0 : s₁.heap = h0 := by rw [← hh, Bd.state]; rfl
  have N0 := Fr.nil n0
  obtain ⟨R0, hR0⟩ : ∃ R : State → Prop, R = fun t => Steps p.tables e below (s₁.setTop (entryFrame m #[(.ref a1), (.int 0)] 3)) t := ⟨_, rfl⟩
  have pre0 : ∀ t, Steps p.tables e below (s₁.setTop (mkF m 0 #[sR a1, sI 0, sU] [])) t → R0 t := fun t k => by rw [hR0]; exact castTop (own_ef_14j0 m a1 (0 : Int32)) k
  have f1 : own_Low a1 h0 h0 := own_Low.refl _ _
  obtain ⟨aw2, ao2, au2, ac2, kw2, ko2, cn2, Ex2, Fw2, Fo2, Fu2, Fc2, Fe2, Fh2, Ft2, Fs2, Fn2, Vw2, Ow2, Vo2, Uu2, Uc2, la2, lb2, lc2, ld2, gq2⟩ := id hQ
  have ne3 : a1 ≠ aw2 := Nat.ne_of_lt la2
  have lt4 : a1 < ao2 := (Nat.lt_trans la2 lb2)
  have ne5 : a1 ≠ ao2 := Nat.ne_of_lt lt4
  have lt6 : a1 < au2 := (Nat.lt_trans (Nat.lt_trans la2 lb2) lc2)
  have ne7 : a1 ≠ au2 := Nat.ne_of_lt lt6
  have lt8 : a1 < ac2 := (Nat.lt_trans (Nat.lt_trans (Nat.lt_trans la2 lb2) lc2) ld2)
  have ne9 : a1 ≠ ac2 := Nat.ne_of_lt lt8
  have ne10 : aw2 ≠ ao2 := Nat.ne_of_lt lb2
  have lt11 : aw2 < au2 := (Nat.lt_trans lb2 lc2)
  have ne12 : aw2 ≠ au2 := Nat.ne_of_lt lt11
  have lt13 : aw2 < ac2 := (Nat.lt_trans (Nat.lt_trans lb2 lc2) ld2)
  have ne14 : aw2 ≠ ac2 := Nat.ne_of_lt lt13
  have ne15 : ao2 ≠ au2 := Nat.ne_of_lt lc2
  have lt16 : ao2 < ac2 := (Nat.lt_trans lc2 ld2)
  have ne17 : ao2 ≠ ac2 := Nat.ne_of_lt lt16
  have ne18 : au2 ≠ ac2 := Nat.ne_of_lt ld2
  have g19 : n0 ≤ aw2 := Nat.le_trans gq2 (Nat.le_of_lt la2)
  have g20 : n0 ≤ ao2 := Nat.le_trans gq2 (Nat.le_of_lt lt4)
  have g21 : n0 ≤ au2 := Nat.le_trans gq2 (Nat.le_of_lt lt6)
  have g22 : n0 ≤ ac2 := Nat.le_trans gq2 (Nat.le_of_lt lt8)
  have pre23 : ∀ t, own_S p e below s₁ m 1 #[sR a1, sI 0, sU] [(.ref a1)] t → R0 t := fun t k => pre0 t (by
    refine XS.aloadN X0.here hx rfl (hb hby own_d14_0) rfl rfl ?_
    exact k)
  obtain ⟨T24, X24, e24, st24⟩ := getF X0 hx hZ hown (host := "") (Or.inl hw32) Via.refl e0 Fw2 (g := (mkF m 1 #[sR a1, sI 0, sU] [(.ref a1)])) rfl rfl (hb hby own_d14_1)
  have pre25 : ∀ t, own_S p e below T24 m 5 #[sR a1, sI 0, sU] [(.int 0), (.ref aw2)] t → R0 t := fun t k => pre23 t (by
    refine st24 _ ?_
    refine XS.iloadN X24.here hx rfl (hb hby own_d14_4) rfl ?_
    exact k)
  obtain ⟨cl26, Ar26, q26, S26, N26, H26, G26⟩ := id Vw2
  have hin26 := inb_of (j := (0 : Int32)) S26 ⟨by decide, by decide⟩
  have pre27 : ∀ t, own_S p e below T24 m 8 #[sR a1, sI 0, sR ax] [(.ref a1)] t → R0 t := fun t k => pre25 t (by
    refine X24.aaload hx (j := (0 : Int32)) (v := (.ref ax)) (by rw [e24]; exact Ar26.1) (State.isArrayOf_alike hZ.alike Ar26.2.1) rfl Ar26.2.2 hin26 (H26.at hin26 rfl) (g := (mkF m 5 #[sR a1, sI 0, sU] [(.int 0), (.ref aw2)])) rfl rfl (hb hby own_d14_5) _ ?_
    refine XS.astoreN X24.here hx rfl (hb hby own_d14_6) rfl rfl (l' := #[sR a1, sI 0, sR ax]) rfl ?_
    refine XS.aloadN X24.here hx rfl (hb hby own_d14_7) rfl rfl ?_
    exact k)
  obtain ⟨T28, X28, e28, st28⟩ := getF X24 hx hZ hown (host := "") (Or.inl hw32) Via.refl e24 Fw2 (g := (mkF m 8 #[sR a1, sI 0, sR ax] [(.ref a1)])) rfl rfl (hb hby own_d14_8)
  have pre29 : ∀ t, own_S p e below T28 m 13 #[sR a1, sI 0, sR ax] [.null, (.int 0), (.ref aw2)] t → R0 t := fun t k => pre27 t (by
    refine st28 _ ?_
    refine XS.iloadN X28.here hx rfl (hb hby own_d14_11) rfl ?_
    refine XS.aconstNull X28.here hx rfl (hb hby own_d14_12) ?_
    exact k)
  obtain ⟨cl30, Ar30, q30, S30, N30, H30, G30⟩ := id Vw2
  have hin30 := inb_of (j := (0 : Int32)) S30 ⟨by decide, by decide⟩
  obtain ⟨T31, h31, X31, e31, W31, st31⟩ := stR X28 hx hZ e28 Ar30 (j := (0 : Int32)) hin30 rfl (Or.inl rfl) (g := (mkF m 13 #[sR a1, sI 0, sR ax] [.null, (.int 0), (.ref aw2)])) rfl rfl (hb hby own_d14_13)
  have f32 := Nat.le_trans Z0 (Keep.of_wr W31).1
  have f33 := Ex2.wr W31
  have f34 := Fw2.other W31 (Or.inl ne3)
  have f35 := Fo2.other W31 (Or.inl ne3)
  have f36 := Fu2.other W31 (Or.inl ne3)
  have f37 := Fc2.other W31 (Or.inl ne3)
  have f38 := Fe2.other W31 (Or.inl ne3)
  have f39 := Fh2.other W31 (Or.inl ne3)
  have f40 := Ft2.other W31 (Or.inl ne3)
  have f41 := Fs2.other W31 (Or.inl ne3)
  have f42 := Fn2.other W31 (Or.inl ne3)
  have f43 := Vo2.other W31 (Ne.symm ne10)
  have f44 := Uu2.other W31 (Ne.symm ne12)
  have f45 := Uc2.other W31 (Ne.symm ne14)
  have f46 : own_Low a1 h0 h31 := f1.wr W31 (Nat.le_of_lt la2)
  have V47 : Arv Z h31 aw2 kw2 (.object "com/example/adlim/adlim/client/Waiter") (8 : Int32) [.null, x1, x2, .null, .null, .null, .null, .null] .null := Arv.set Ar30 q30 S30 N30 H30 G30 rfl W31 0 rfl (Nat.le_of_ble_eq_true rfl)
  have N48 := Fr.snoc X31 N0 g19
  have pre49 : ∀ t, own_S p e below T31 m 15 #[sR a1, sI 0, sR ax] [(.ref a1)] t → R0 t := fun t k => pre29 t (by
    refine st31 _ ?_
    refine XS.aloadN X31.here hx rfl (hb hby own_d14_14) rfl rfl ?_
    exact k)
  obtain ⟨T50, X50, e50, st50⟩ := getF X31 hx hZ hown (host := "") (Or.inl hw38) Via.refl e31 f36 (g := (mkF m 15 #[sR a1, sI 0, sR ax] [(.ref a1)])) rfl rfl (hb hby own_d14_15)
  have pre51 : ∀ t, own_S p e below T50 m 19 #[sR a1, sI 0, sR ax] [(.int 0), (.ref au2)] t → R0 t := fun t k => pre49 t (by
    refine st50 _ ?_
    refine XS.iloadN X50.here hx rfl (hb hby own_d14_18) rfl ?_
    exact k)
  obtain ⟨cl52, y52, Ar52, S52, hin52, hat52⟩ := own_Any.get f44 (by simp) (0 : Int32) ⟨by decide, by decide⟩
  have pre53 : ∀ t, own_S p e below T50 m 20 #[sR a1, sI 0, sR ax] [(.int y52)] t → R0 t := fun t k => pre51 t (by
    refine X50.baloadBooleans hx (j := (0 : Int32)) (v := (.int y52)) (by rw [e50]; exact Ar52.1) (State.isArrayOf_alike hZ.alike Ar52.2.1) Ar52.2.2 hin52 hat52 (g := (mkF m 19 #[sR a1, sI 0, sR ax] [(.int 0), (.ref au2)])) rfl rfl (hb hby own_d14_19) _ ?_
    exact k)
  by_cases hc20 : y52 = (0 : Int32)
  · have pre54 : ∀ t, own_S p e below T50 m 26 #[sR a1, sI 0, sR ax] [(.int (-1)), (.int 0), (.ref a1)] t → R0 t := fun t k => pre53 t (by
      refine XS.ifNo X50.here hx rfl (hb hby own_d14_20) rfl ((if0 _ _).trans (teq hc20).2) ?_
      refine XS.aloadN X50.here hx rfl (hb hby own_d14_23) rfl rfl ?_
      refine XS.iloadN X50.here hx rfl (hb hby own_d14_24) rfl ?_
      refine XS.iconst X50.here hx rfl (hb hby own_d14_25) ?_
      exact k)
    have Q55 : own_QI Z h31 n0 a1 .null x1 x2 o0 o1 o2 hd tl sz := ⟨aw2, ao2, au2, ac2, kw2, ko2, cn2, f33, f34, f35, f36, f37, f38, f39, f40, f41, f42, V47, Ow2, f43, f44, f45, la2, lb2, lc2, ld2, gq2⟩
    obtain ⟨cq56, q56, q56'⟩ := f33.cell
    obtain ⟨_, _, ⟨T56, L56, k56, n56⟩, -, X56, ⟨Lc56, hQ56, l56, y56, z56⟩, st56⟩ := X50.privateBack hx (y := own_y5) hown (mvT hZ hw76) (mvT hZ hw77) (own_selp hZ hw24 hw78 hw77 (by decide)) (Cond.privateMethod_at (mvP hZ hw78 (args := #[]))) (mvT hZ hw79) (by decide) (backOf (W := 0) (own_rm10s0 l Z a0 hw [] a1 (-1 : Int32) .null x1 x2 o0 o1 o2 hd tl sz h31 n0 f32 Q55) hZ hw79 hw25 (by decide) (by decide)) (g := (mkF m 26 #[sR a1, sI 0, sR ax] [(.int (-1)), (.int 0), (.ref a1)])) rfl (by rw [hml]; rfl) (Steps.refl _) (a := a1) (by rw [e50]; exact q56) q56' (argsL := [(.int 0), (.int (-1))]) (rest := []) (lenOf own_pd_2 rfl) rfl (by show 2 * 0 + _ ≤ _; exact Nat.le_of_eq rfl) (hb hby own_d14_26) (fun _ _ => ⟨rfl, e50, (by decide : 0 + 0 ≤ _), (by decide : 0 + 0 ≤ _)⟩)
    dsimp only [Pt.U, Pt.locs, Pt.cells, Pt.slots] at X56 l56 y56 z56 st56 hQ56
    subst l56 y56 z56
    obtain ⟨rfl, N56q, Lw56, Qw56⟩ := hQ56
    have f57 := Nat.le_trans f32 Lw56.1
    have f58 := f46.trans Lw56
    have Q59 : own_QI Z T56.heap n0 a1 .null x1 x2 o0 o1 o2 hd tl sz := Qw56
    obtain ⟨aw60, ao60, au60, ac60, kw60, ko60, cn60, Ex60, Fw60, Fo60, Fu60, Fc60, Fe60, Fh60, Ft60, Fs60, Fn60, Vw60, Ow60, Vo60, Uu60, Uc60, la60, lb60, lc60, ld60, gq60⟩ := id Q59
    have ne61 : a1 ≠ aw60 := Nat.ne_of_lt la60
    have lt62 : a1 < ao60 := (Nat.lt_trans la60 lb60)
    have ne63 : a1 ≠ ao60 := Nat.ne_of_lt lt62
    have lt64 : a1 < au60 := (Nat.lt_trans (Nat.lt_trans la60 lb60) lc60)
    have ne65 : a1 ≠ au60 := Nat.ne_of_lt lt64
    have lt66 : a1 < ac60 := (Nat.lt_trans (Nat.lt_trans (Nat.lt_trans la60 lb60) lc60) ld60)
    have ne67 : a1 ≠ ac60 := Nat.ne_of_lt lt66
    have ne68 : aw60 ≠ ao60 := Nat.ne_of_lt lb60
    have lt69 : aw60 < au60 := (Nat.lt_trans lb60 lc60)
    have ne70 : aw60 ≠ au60 := Nat.ne_of_lt lt69
    have lt71 : aw60 < ac60 := (Nat.lt_trans (Nat.lt_trans lb60 lc60) ld60)
    have ne72 : aw60 ≠ ac60 := Nat.ne_of_lt lt71
    have ne73 : ao60 ≠ au60 := Nat.ne_of_lt lc60
    have lt74 : ao60 < ac60 := (Nat.lt_trans lc60 ld60)
    have ne75 : ao60 ≠ ac60 := Nat.ne_of_lt lt74
    have ne76 : au60 ≠ ac60 := Nat.ne_of_lt ld60
    have g77 : n0 ≤ aw60 := Nat.le_trans gq60 (Nat.le_of_lt la60)
    have g78 : n0 ≤ ao60 := Nat.le_trans gq60 (Nat.le_of_lt lt62)
    have g79 : n0 ≤ au60 := Nat.le_trans gq60 (Nat.le_of_lt lt64)
    have g80 : n0 ≤ ac60 := Nat.le_trans gq60 (Nat.le_of_lt lt66)
    have N56 := Fr.app N48 N56q
    have pre81 : ∀ t, own_S p e below T56 m 31 #[sR a1, sI 0, sR ax] [(.ref a1), (.ref a1)] t → R0 t := fun t k => pre54 t (by
      refine st56.trans ?_
      refine XS.aloadN X56.here hx rfl (hb hby own_d14_29) rfl rfl ?_
      refine XS.dup X56.here hx rfl (hb hby own_d14_30) rfl rfl ?_
      exact k)
    obtain ⟨T82, X82, e82, st82⟩ := getF X56 hx hZ hown (host := "") (Or.inl hw54) Via.refl rfl Fs60 (g := (mkF m 31 #[sR a1, sI 0, sR ax] [(.ref a1), (.ref a1)])) rfl rfl (hb hby own_d14_31)
    have pre83 : ∀ t, own_S p e below T82 m 36 #[sR a1, sI 0, sR ax] [(.int (sz - (1 : Int32))), (.ref a1)] t → R0 t := fun t k => pre81 t (by
      refine st82 _ ?_
      refine XS.iconst X82.here hx rfl (hb hby own_d14_34) ?_
      refine XS.isub X82.here hx rfl (hb hby own_d14_35) rfl ?_
      exact k)
    obtain ⟨T84, h84, X84, e84, W84, st84⟩ := putF X82 hx hZ hown (host := "") (Or.inl hw54) Via.refl e82 Fs60 Ex60 (Or.inl hw55) hw24 (ty := .int) (by decide) rfl rfl (g := (mkF m 36 #[sR a1, sI 0, sR ax] [(.int (sz - (1 : Int32))), (.ref a1)])) rfl rfl (hb hby own_d14_36)
    have f85 := Nat.le_trans f57 (Keep.of_wr W84).1
    have f86 := Ex60.wr W84
    have f87 := Fw60.other W84 (Or.inr (slot_ne (Or.inl hw33) (Or.inl hw55) (by decide) (t := (.array (.object "com/example/adlim/adlim/client/Waiter"))) (t' := .int) (by decide) (by decide)))
    have f88 := Fo60.other W84 (Or.inr (slot_ne (Or.inl hw36) (Or.inl hw55) (by decide) (t := (.array .long)) (t' := .int) (by decide) (by decide)))
    have f89 := Fu60.other W84 (Or.inr (slot_ne (Or.inl hw39) (Or.inl hw55) (by decide) (t := (.array .boolean)) (t' := .int) (by decide) (by decide)))
    have f90 := Fc60.other W84 (Or.inr (slot_ne (Or.inl hw42) (Or.inl hw55) (by decide) (t := (.array .int)) (t' := .int) (by decide) (by decide)))
    have f91 := Fe60.other W84 (Or.inr (slot_ne (Or.inr hw44) (Or.inl hw55) (by decide) (t := (.object "com/example/adlim/adlim/client/CeilingQueue")) (t' := .int) (by decide) (by decide)))
    have f92 := Fh60.other W84 (Or.inr (slot_ne (Or.inl hw75) (Or.inl hw55) (by decide) (t := .int) (t' := .int) (by decide) (by decide)))
    have f93 := Ft60.other W84 (Or.inr (slot_ne (Or.inl hw67) (Or.inl hw55) (by decide) (t := .int) (t' := .int) (by decide) (by decide)))
    have f94 := Fn60.other W84 (Or.inr (slot_ne (Or.inl hw81) (Or.inl hw55) (by decide) (t := .int) (t' := .int) (by decide) (by decide)))
    have f95 := Vw60.other W84 (Ne.symm ne61)
    have f96 := Vo60.other W84 (Ne.symm ne63)
    have f97 := Uu60.other W84 (Ne.symm ne65)
    have f98 := Uc60.other W84 (Ne.symm ne67)
    have f99 : own_Low a1 h0 h84 := f58.wr W84 (Nat.le_refl _)
    have f100 := Fs60.same W84
    have N101 := Fr.snoc X84 N56 gq60
    have pre102 : ∀ t, own_S p e below T84 m 40 #[sR a1, sI 0, sR ax] [(.ref a1)] t → R0 t := fun t k => pre83 t (by
      refine st84 _ ?_
      refine XS.aloadN X84.here hx rfl (hb hby own_d14_39) rfl rfl ?_
      exact k)
    obtain ⟨T103, X103, e103, st103⟩ := getF X84 hx hZ hown (host := "") (Or.inl hw43) Via.refl e84 f91 (g := (mkF m 40 #[sR a1, sI 0, sR ax] [(.ref a1)])) rfl rfl (hb hby own_d14_40)
    have pre104 : ∀ t, own_S p e below T103 m 55 #[sR a1, sI 0, sR ax] [] t → R0 t := fun t k => pre102 t (by
      refine st103 _ ?_
      refine XS.ifnullYes X103.here hx rfl (pc0 := 43) (pc' := 55) rfl (hb hby own_d14_43) rfl (by decide) (by decide) ?_
      exact k)
    obtain ⟨fs, hr, hrun, hended, hW, hsame⟩ := X103.leave (v := none) (fun _ => rfl)
    refine ⟨_, _, cast (congrFun hR0 _) (pre104 _ (X103.returnOut hx Bd.returns (hb hby own_d14_55) hr)), hrun, hended, _, _, rfl, ?_, ⟨_, rfl⟩, hW, hsame.mono (by decide) (by decide)⟩
    show own_Q14j0 Z _ _ _ _ _ _ _ _ _ _ h0 n0 _ T103.heap _
    rw [e103]
    have Q105 : own_QI Z h84 n0 a1 .null x1 x2 o0 o1 o2 hd tl (sz - (1 : Int32)) := ⟨aw60, ao60, au60, ac60, kw60, ko60, cn60, f86, f87, f88, f89, f90, f91, f92, f93, f100, f94, f95, Ow60, f96, f97, f98, la60, lb60, lc60, ld60, gq60⟩
    exact ⟨rfl, N101, f99, Q105⟩
  · have pre106 : ∀ t, own_S p e below T50 m 31 #[sR a1, sI 0, sR ax] [(.ref a1), (.ref a1)] t → R0 t := fun t k => pre53 t (by
      refine XS.ifYes X50.here hx rfl (pc0 := 20) (pc' := 29) rfl (hb hby own_d14_20) rfl ((if0 _ _).trans (feq hc20).2) (by decide) (by decide) ?_
      refine XS.aloadN X50.here hx rfl (hb hby own_d14_29) rfl rfl ?_
      refine XS.dup X50.here hx rfl (hb hby own_d14_30) rfl rfl ?_
      exact k)
    obtain ⟨T107, X107, e107, st107⟩ := getF X50 hx hZ hown (host := "") (Or.inl hw54) Via.refl e50 f41 (g := (mkF m 31 #[sR a1, sI 0, sR ax] [(.ref a1), (.ref a1)])) rfl rfl (hb hby own_d14_31)
    have pre108 : ∀ t, own_S p e below T107 m 36 #[sR a1, sI 0, sR ax] [(.int (sz - (1 : Int32))), (.ref a1)] t → R0 t := fun t k => pre106 t (by
      refine st107 _ ?_
      refine XS.iconst X107.here hx rfl (hb hby own_d14_34) ?_
      refine XS.isub X107.here hx rfl (hb hby own_d14_35) rfl ?_
      exact k)
    obtain ⟨T109, h109, X109, e109, W109, st109⟩ := putF X107 hx hZ hown (host := "") (Or.inl hw54) Via.refl e107 f41 f33 (Or.inl hw55) hw24 (ty := .int) (by decide) rfl rfl (g := (mkF m 36 #[sR a1, sI 0, sR ax] [(.int (sz - (1 : Int32))), (.ref a1)])) rfl rfl (hb hby own_d14_36)
    have f110 := Nat.le_trans f32 (Keep.of_wr W109).1
    have f111 := f33.wr W109
    have f112 := f34.other W109 (Or.inr (slot_ne (Or.inl hw33) (Or.inl hw55) (by decide) (t := (.array (.object "com/example/adlim/adlim/client/Waiter"))) (t' := .int) (by decide) (by decide)))
    have f113 := f35.other W109 (Or.inr (slot_ne (Or.inl hw36) (Or.inl hw55) (by decide) (t := (.array .long)) (t' := .int) (by decide) (by decide)))
    have f114 := f36.other W109 (Or.inr (slot_ne (Or.inl hw39) (Or.inl hw55) (by decide) (t := (.array .boolean)) (t' := .int) (by decide) (by decide)))
    have f115 := f37.other W109 (Or.inr (slot_ne (Or.inl hw42) (Or.inl hw55) (by decide) (t := (.array .int)) (t' := .int) (by decide) (by decide)))
    have f116 := f38.other W109 (Or.inr (slot_ne (Or.inr hw44) (Or.inl hw55) (by decide) (t := (.object "com/example/adlim/adlim/client/CeilingQueue")) (t' := .int) (by decide) (by decide)))
    have f117 := f39.other W109 (Or.inr (slot_ne (Or.inl hw75) (Or.inl hw55) (by decide) (t := .int) (t' := .int) (by decide) (by decide)))
    have f118 := f40.other W109 (Or.inr (slot_ne (Or.inl hw67) (Or.inl hw55) (by decide) (t := .int) (t' := .int) (by decide) (by decide)))
    have f119 := f42.other W109 (Or.inr (slot_ne (Or.inl hw81) (Or.inl hw55) (by decide) (t := .int) (t' := .int) (by decide) (by decide)))
    have f120 := f43.other W109 (Ne.symm ne5)
    have f121 := f44.other W109 (Ne.symm ne7)
    have f122 := f45.other W109 (Ne.symm ne9)
    have f123 := V47.other W109 (Ne.symm ne3)
    have f124 : own_Low a1 h0 h109 := f46.wr W109 (Nat.le_refl _)
    have f125 := f41.same W109
    have N126 := Fr.snoc X109 N48 gq2
    have pre127 : ∀ t, own_S p e below T109 m 40 #[sR a1, sI 0, sR ax] [(.ref a1)] t → R0 t := fun t k => pre108 t (by
      refine st109 _ ?_
      refine XS.aloadN X109.here hx rfl (hb hby own_d14_39) rfl rfl ?_
      exact k)
    obtain ⟨T128, X128, e128, st128⟩ := getF X109 hx hZ hown (host := "") (Or.inl hw43) Via.refl e109 f116 (g := (mkF m 40 #[sR a1, sI 0, sR ax] [(.ref a1)])) rfl rfl (hb hby own_d14_40)
    have pre129 : ∀ t, own_S p e below T128 m 55 #[sR a1, sI 0, sR ax] [] t → R0 t := fun t k => pre127 t (by
      refine st128 _ ?_
      refine XS.ifnullYes X128.here hx rfl (pc0 := 43) (pc' := 55) rfl (hb hby own_d14_43) rfl (by decide) (by decide) ?_
      exact k)
    obtain ⟨fs, hr, hrun, hended, hW, hsame⟩ := X128.leave (v := none) (fun _ => rfl)
    refine ⟨_, _, cast (congrFun hR0 _) (pre129 _ (X128.returnOut hx Bd.returns (hb hby own_d14_55) hr)), hrun, hended, _, _, rfl, ?_, ⟨_, rfl⟩, hW, hsame.mono (by decide) (by decide)⟩
    show own_Q14j0 Z _ _ _ _ _ _ _ _ _ _ h0 n0 _ T128.heap _
    rw [e128]
    have Q130 : own_QI Z h109 n0 a1 .null x1 x2 o0 o1 o2 hd tl (sz - (1 : Int32)) := ⟨aw2, ao2, au2, ac2, kw2, ko2, cn2, f111, f112, f113, f114, f115, f116, f117, f118, f125, f119, f123, Ow2, f120, f121, f122, la2, lb2, lc2, ld2, gq2⟩
    exact ⟨rfl, N126, f124, Q130⟩
theorem own_ef_14j1 (m : MethodId) (x0 : Addr) (x1 : Int32) : entryFrame m #[(.ref x0), (.int x1)] 3 = mkF m 0 #[sR x0, sI x1, .unset] [] := by first | (simp [entryFrame, mkF, argsToLocals, Value.category]; done) | rfl
def own_Q14j1 (Z : State) (a1 : Addr) (x0 : Value) (ax : Addr) (x2 : Value) (o0 : Int64) (o1 : Int64) (o2 : Int64) (hd : Int32) (tl : Int32) (sz : Int32) (h0 : Heap) (n0 : Nat) (v : Option Value) (h : Heap) (L : List Loc) : Prop := v = none ∧ Fr n0 L ∧ own_Low a1 h0 h ∧ own_QI Z h n0 a1 x0 .null x2 o0 o1 o2 hd tl (sz - (1 : Int32))
set_option maxRecDepth 65536 in
set_option maxHeartbeats 40000000 in
theorem own_rm14j1 (l : Launch) (Z : State) (a0 : Array Value) (hw : ∀ d ∈ tables_1, d.before a0 Z = true) (ws : List Jvm.Cond) (a1 : Addr) (x0 : Value) (ax : Addr) (x2 : Value) (o0 : Int64) (o1 : Int64) (o2 : Int64) (hd : Int32) (tl : Int32) (sz : Int32) (h0 : Heap) (n0 : Nat) (Z0 : n0 ≤ h0.size) (hQ : own_QI Z h0 n0 a1 x0 (.ref ax) x2 o0 o1 o2 hd tl sz) :
    MetFree l own_y7 (head1 (Jvm.Cond.code own_y7 prog_63_method_16_code 3 none :: ws) ({ frames := 1, cells := 0, slots := 0, locals := 15 } : Room)) (fun a U => a = #[(.ref a1), (.int 1)] ∧ Z.Warmed39 U.vm ∧ U.heap = h0) (fun _ _ _ _ _ => True) (fun _ U o U' => ∃ v L, o = .returned v ∧ own_Q14j1 Z a1 x0 ax x2 o0 o1 o2 hd tl sz h0 n0 v U'.heap L ∧ FrameEnd U o U' L ({ frames := 1, cells := 0, slots := 0, locals := 15 } : Room).cells ({ frames := 1, cells := 0, slots := 0, locals := 15 } : Room).slots) := by
  refine MetFree.of_bodySF (plainFor_of_name own_pn_2) hisR ?_
  intro p e s m args below meth c s₁ Bd hml0 hP hK
  obtain ⟨rfl, hZ, hh⟩ := hP
  have hw24 := hw _ (List.mem_of_getElem? (i := 24) rfl)
  have hw25 := hw _ (List.mem_of_getElem? (i := 25) rfl)
  have hw32 := hw _ (List.mem_of_getElem? (i := 32) rfl)
  have hw33 := hw _ (List.mem_of_getElem? (i := 33) rfl)
  have hw36 := hw _ (List.mem_of_getElem? (i := 36) rfl)
  have hw38 := hw _ (List.mem_of_getElem? (i := 38) rfl)
  have hw39 := hw _ (List.mem_of_getElem? (i := 39) rfl)
  have hw42 := hw _ (List.mem_of_getElem? (i := 42) rfl)
  have hw43 := hw _ (List.mem_of_getElem? (i := 43) rfl)
  have hw44 := hw _ (List.mem_of_getElem? (i := 44) rfl)
  have hw54 := hw _ (List.mem_of_getElem? (i := 54) rfl)
  have hw55 := hw _ (List.mem_of_getElem? (i := 55) rfl)
  have hw67 := hw _ (List.mem_of_getElem? (i := 67) rfl)
  have hw75 := hw _ (List.mem_of_getElem? (i := 75) rfl)
  have hw76 := hw _ (List.mem_of_getElem? (i := 76) rfl)
  have hw77 := hw _ (List.mem_of_getElem? (i := 77) rfl)
  have hw78 := hw _ (List.mem_of_getElem? (i := 78) rfl)
  have hw79 := hw _ (List.mem_of_getElem? (i := 79) rfl)
  have hw81 := hw _ (List.mem_of_getElem? (i := 81) rfl)
  have hx := Bd.exec
  have hby := Bd.bytes
  have hml : c.maxLocals = 3 := hml0
  have hown : s.vm.findClass "com/example/adlim/adlim/client/WaiterQueue" = some m.cls := findClass_of_methodNamed Bd.named
  have hnm := (name_of_methodNamed Bd.named Bd.method).1
  have X0 : Stand p l e ({ frames := 1, cells := 0, slots := 0, locals := 15 } : Room) s m #[(.ref a1), (.int 1)] below meth c s₁ [] 0 0 := Stand.of_body Bd
  have e0 : s₁.heap = h0 := by rw [← hh, Bd.state]; rfl
  have N0 := Fr.nil n0
  obtain ⟨R0, hR0⟩ : ∃ R : State → Prop, R = fun t => Steps p.tables e below (s₁.setTop (entryFrame m #[(.ref a1), (.int 1)] 3)) t := ⟨_, rfl⟩
  have pre0 : ∀ t, Steps p.tables e below (s₁.setTop (mkF m 0 #[sR a1, sI 1, sU] [])) t → R0 t := fun t k => by rw [hR0]; exact castTop (own_ef_14j1 m a1 (1 : Int32)) k
  have f1 : own_Low a1 h0 h0 := own_Low.refl _ _
  obtain ⟨aw2, ao2, au2, ac2, kw2, ko2, cn2, Ex2, Fw2, Fo2, Fu2, Fc2, Fe2, Fh2, Ft2, Fs2, Fn2, Vw2, Ow2, Vo2, Uu2, Uc2, la2, lb2, lc2, ld2, gq2⟩ := id hQ
  have ne3 : a1 ≠ aw2 := Nat.ne_of_lt la2
  have lt4 : a1 < ao2 := (Nat.lt_trans la2 lb2)
  have ne5 : a1 ≠ ao2 := Nat.ne_of_lt lt4
  have lt6 : a1 < au2 := (Nat.lt_trans (Nat.lt_trans la2 lb2) lc2)
  have ne7 : a1 ≠ au2 := Nat.ne_of_lt lt6
  have lt8 : a1 < ac2 := (Nat.lt_trans (Nat.lt_trans (Nat.lt_trans la2 lb2) lc2) ld2)
  have ne9 : a1 ≠ ac2 := Nat.ne_of_lt lt8
  have ne10 : aw2 ≠ ao2 := Nat.ne_of_lt lb2
  have lt11 : aw2 < au2 := (Nat.lt_trans lb2 lc2)
  have ne12 : aw2 ≠ au2 := Nat.ne_of_lt lt11
  have lt13 : aw2 < ac2 := (Nat.lt_trans (Nat.lt_trans lb2 lc2) ld2)
  have ne14 : aw2 ≠ ac2 := Nat.ne_of_lt lt13
  have ne15 : ao2 ≠ au2 := Nat.ne_of_lt lc2
  have lt16 : ao2 < ac2 := (Nat.lt_trans lc2 ld2)
  have ne17 : ao2 ≠ ac2 := Nat.ne_of_lt lt16
  have ne18 : au2 ≠ ac2 := Nat.ne_of_lt ld2
  have g19 : n0 ≤ aw2 := Nat.le_trans gq2 (Nat.le_of_lt la2)
  have g20 : n0 ≤ ao2 := Nat.le_trans gq2 (Nat.le_of_lt lt4)
  have g21 : n0 ≤ au2 := Nat.le_trans gq2 (Nat.le_of_lt lt6)
  have g22 : n0 ≤ ac2 := Nat.le_trans gq2 (Nat.le_of_lt lt8)
  have pre23 : ∀ t, own_S p e below s₁ m 1 #[sR a1, sI 1, sU] [(.ref a1)] t → R0 t := fun t k => pre0 t (by
    refine XS.aloadN X0.here hx rfl (hb hby own_d14_0) rfl rfl ?_
    exact k)
  obtain ⟨T24, X24, e24, st24⟩ := getF X0 hx hZ hown (host := "") (Or.inl hw32) Via.refl e0 Fw2 (g := (mkF m 1 #[sR a1, sI 1, sU] [(.ref a1)])) rfl rfl (hb hby own_d14_1)
  have pre25 : ∀ t, own_S p e below T24 m 5 #[sR a1, sI 1, sU] [(.int 1), (.ref aw2)] t → R0 t := fun t k => pre23 t (by
    refine st24 _ ?_
    refine XS.iloadN X24.here hx rfl (hb hby own_d14_4) rfl ?_
    exact k)
  obtain ⟨cl26, Ar26, q26, S26, N26, H26, G26⟩ := id Vw2
  have hin26 := inb_of (j := (1 : Int32)) S26 ⟨by decide, by decide⟩
  have pre27 : ∀ t, own_S p e below T24 m 8 #[sR a1, sI 1, sR ax] [(.ref a1)] t → R0 t := fun t k => pre25 t (by
    refine X24.aaload hx (j := (1 : Int32)) (v := (.ref ax)) (by rw [e24]; exact Ar26.1) (State.isArrayOf_alike hZ.alike Ar26.2.1) rfl Ar26.2.2 hin26 (H26.at hin26 rfl) (g := (mkF m 5 #[sR a1, sI 1, sU] [(.int 1), (.ref aw2)])) rfl rfl (hb hby own_d14_5) _ ?_
    refine XS.astoreN X24.here hx rfl (hb hby own_d14_6) rfl rfl (l' := #[sR a1, sI 1, sR ax]) rfl ?_
    refine XS.aloadN X24.here hx rfl (hb hby own_d14_7) rfl rfl ?_
    exact k)
  obtain ⟨T28, X28, e28, st28⟩ := getF X24 hx hZ hown (host := "") (Or.inl hw32) Via.refl e24 Fw2 (g := (mkF m 8 #[sR a1, sI 1, sR ax] [(.ref a1)])) rfl rfl (hb hby own_d14_8)
  have pre29 : ∀ t, own_S p e below T28 m 13 #[sR a1, sI 1, sR ax] [.null, (.int 1), (.ref aw2)] t → R0 t := fun t k => pre27 t (by
    refine st28 _ ?_
    refine XS.iloadN X28.here hx rfl (hb hby own_d14_11) rfl ?_
    refine XS.aconstNull X28.here hx rfl (hb hby own_d14_12) ?_
    exact k)
  obtain ⟨cl30, Ar30, q30, S30, N30, H30, G30⟩ := id Vw2
  have hin30 := inb_of (j := (1 : Int32)) S30 ⟨by decide, by decide⟩
  obtain ⟨T31, h31, X31, e31, W31, st31⟩ := stR X28 hx hZ e28 Ar30 (j := (1 : Int32)) hin30 rfl (Or.inl rfl) (g := (mkF m 13 #[sR a1, sI 1, sR ax] [.null, (.int 1), (.ref aw2)])) rfl rfl (hb hby own_d14_13)
  have f32 := Nat.le_trans Z0 (Keep.of_wr W31).1
  have f33 := Ex2.wr W31
  have f34 := Fw2.other W31 (Or.inl ne3)
  have f35 := Fo2.other W31 (Or.inl ne3)
  have f36 := Fu2.other W31 (Or.inl ne3)
  have f37 := Fc2.other W31 (Or.inl ne3)
  have f38 := Fe2.other W31 (Or.inl ne3)
  have f39 := Fh2.other W31 (Or.inl ne3)
  have f40 := Ft2.other W31 (Or.inl ne3)
  have f41 := Fs2.other W31 (Or.inl ne3)
  have f42 := Fn2.other W31 (Or.inl ne3)
  have f43 := Vo2.other W31 (Ne.symm ne10)
  have f44 := Uu2.other W31 (Ne.symm ne12)
  have f45 := Uc2.other W31 (Ne.symm ne14)
  have f46 : own_Low a1 h0 h31 := f1.wr W31 (Nat.le_of_lt la2)
  have V47 : Arv Z h31 aw2 kw2 (.object "com/example/adlim/adlim/client/Waiter") (8 : Int32) [x0, .null, x2, .null, .null, .null, .null, .null] .null := Arv.set Ar30 q30 S30 N30 H30 G30 rfl W31 1 rfl (Nat.le_of_ble_eq_true rfl)
  have N48 := Fr.snoc X31 N0 g19
  have pre49 : ∀ t, own_S p e below T31 m 15 #[sR a1, sI 1, sR ax] [(.ref a1)] t → R0 t := fun t k => pre29 t (by
    refine st31 _ ?_
    refine XS.aloadN X31.here hx rfl (hb hby own_d14_14) rfl rfl ?_
    exact k)
  obtain ⟨T50, X50, e50, st50⟩ := getF X31 hx hZ hown (host := "") (Or.inl hw38) Via.refl e31 f36 (g := (mkF m 15 #[sR a1, sI 1, sR ax] [(.ref a1)])) rfl rfl (hb hby own_d14_15)
  have pre51 : ∀ t, own_S p e below T50 m 19 #[sR a1, sI 1, sR ax] [(.int 1), (.ref au2)] t → R0 t := fun t k => pre49 t (by
    refine st50 _ ?_
    refine XS.iloadN X50.here hx rfl (hb hby own_d14_18) rfl ?_
    exact k)
  obtain ⟨cl52, y52, Ar52, S52, hin52, hat52⟩ := own_Any.get f44 (by simp) (1 : Int32) ⟨by decide, by decide⟩
  have pre53 : ∀ t, own_S p e below T50 m 20 #[sR a1, sI 1, sR ax] [(.int y52)] t → R0 t := fun t k => pre51 t (by
    refine X50.baloadBooleans hx (j := (1 : Int32)) (v := (.int y52)) (by rw [e50]; exact Ar52.1) (State.isArrayOf_alike hZ.alike Ar52.2.1) Ar52.2.2 hin52 hat52 (g := (mkF m 19 #[sR a1, sI 1, sR ax] [(.int 1), (.ref au2)])) rfl rfl (hb hby own_d14_19) _ ?_
    exact k)
  by_cases hc20 : y52 = (0 : Int32)
  · have pre54 : ∀ t, own_S p e below T50 m 26 #[sR a1, sI 1, sR ax] [(.int (-1)), (.int 1), (.ref a1)] t → R0 t := fun t k => pre53 t (by
      refine XS.ifNo X50.here hx rfl (hb hby own_d14_20) rfl ((if0 _ _).trans (teq hc20).2) ?_
      refine XS.aloadN X50.here hx rfl (hb hby own_d14_23) rfl rfl ?_
      refine XS.iloadN X50.here hx rfl (hb hby own_d14_24) rfl ?_
      refine XS.iconst X50.here hx rfl (hb hby own_d14_25) ?_
      exact k)
    have Q55 : own_QI Z h31 n0 a1 x0 .null x2 o0 o1 o2 hd tl sz := ⟨aw2, ao2, au2, ac2, kw2, ko2, cn2, f33, f34, f35, f36, f37, f38, f39, f40, f41, f42, V47, Ow2, f43, f44, f45, la2, lb2, lc2, ld2, gq2⟩
    obtain ⟨cq56, q56, q56'⟩ := f33.cell
    obtain ⟨_, _, ⟨T56, L56, k56, n56⟩, -, X56, ⟨Lc56, hQ56, l56, y56, z56⟩, st56⟩ := X50.privateBack hx (y := own_y5) hown (mvT hZ hw76) (mvT hZ hw77) (own_selp hZ hw24 hw78 hw77 (by decide)) (Cond.privateMethod_at (mvP hZ hw78 (args := #[]))) (mvT hZ hw79) (by decide) (backOf (W := 0) (own_rm10s1 l Z a0 hw [] a1 (-1 : Int32) x0 .null x2 o0 o1 o2 hd tl sz h31 n0 f32 Q55) hZ hw79 hw25 (by decide) (by decide)) (g := (mkF m 26 #[sR a1, sI 1, sR ax] [(.int (-1)), (.int 1), (.ref a1)])) rfl (by rw [hml]; rfl) (Steps.refl _) (a := a1) (by rw [e50]; exact q56) q56' (argsL := [(.int 1), (.int (-1))]) (rest := []) (lenOf own_pd_2 rfl) rfl (by show 2 * 0 + _ ≤ _; exact Nat.le_of_eq rfl) (hb hby own_d14_26) (fun _ _ => ⟨rfl, e50, (by decide : 0 + 0 ≤ _), (by decide : 0 + 0 ≤ _)⟩)
    dsimp only [Pt.U, Pt.locs, Pt.cells, Pt.slots] at X56 l56 y56 z56 st56 hQ56
    subst l56 y56 z56
    obtain ⟨rfl, N56q, Lw56, Qw56⟩ := hQ56
    have f57 := Nat.le_trans f32 Lw56.1
    have f58 := f46.trans Lw56
    have Q59 : own_QI Z T56.heap n0 a1 x0 .null x2 o0 o1 o2 hd tl sz := Qw56
    obtain ⟨aw60, ao60, au60, ac60, kw60, ko60, cn60, Ex60, Fw60, Fo60, Fu60, Fc60, Fe60, Fh60, Ft60, Fs60, Fn60, Vw60, Ow60, Vo60, Uu60, Uc60, la60, lb60, lc60, ld60, gq60⟩ := id Q59
    have ne61 : a1 ≠ aw60 := Nat.ne_of_lt la60
    have lt62 : a1 < ao60 := (Nat.lt_trans la60 lb60)
    have ne63 : a1 ≠ ao60 := Nat.ne_of_lt lt62
    have lt64 : a1 < au60 := (Nat.lt_trans (Nat.lt_trans la60 lb60) lc60)
    have ne65 : a1 ≠ au60 := Nat.ne_of_lt lt64
    have lt66 : a1 < ac60 := (Nat.lt_trans (Nat.lt_trans (Nat.lt_trans la60 lb60) lc60) ld60)
    have ne67 : a1 ≠ ac60 := Nat.ne_of_lt lt66
    have ne68 : aw60 ≠ ao60 := Nat.ne_of_lt lb60
    have lt69 : aw60 < au60 := (Nat.lt_trans lb60 lc60)
    have ne70 : aw60 ≠ au60 := Nat.ne_of_lt lt69
    have lt71 : aw60 < ac60 := (Nat.lt_trans (Nat.lt_trans lb60 lc60) ld60)
    have ne72 : aw60 ≠ ac60 := Nat.ne_of_lt lt71
    have ne73 : ao60 ≠ au60 := Nat.ne_of_lt lc60
    have lt74 : ao60 < ac60 := (Nat.lt_trans lc60 ld60)
    have ne75 : ao60 ≠ ac60 := Nat.ne_of_lt lt74
    have ne76 : au60 ≠ ac60 := Nat.ne_of_lt ld60
    have g77 : n0 ≤ aw60 := Nat.le_trans gq60 (Nat.le_of_lt la60)
    have g78 : n0 ≤ ao60 := Nat.le_trans gq60 (Nat.le_of_lt lt62)
    have g79 : n0 ≤ au60 := Nat.le_trans gq60 (Nat.le_of_lt lt64)
    have g80 : n0 ≤ ac60 := Nat.le_trans gq60 (Nat.le_of_lt lt66)
    have N56 := Fr.app N48 N56q
    have pre81 : ∀ t, own_S p e below T56 m 31 #[sR a1, sI 1, sR ax] [(.ref a1), (.ref a1)] t → R0 t := fun t k => pre54 t (by
      refine st56.trans ?_
      refine XS.aloadN X56.here hx rfl (hb hby own_d14_29) rfl rfl ?_
      refine XS.dup X56.here hx rfl (hb hby own_d14_30) rfl rfl ?_
      exact k)
    obtain ⟨T82, X82, e82, st82⟩ := getF X56 hx hZ hown (host := "") (Or.inl hw54) Via.refl rfl Fs60 (g := (mkF m 31 #[sR a1, sI 1, sR ax] [(.ref a1), (.ref a1)])) rfl rfl (hb hby own_d14_31)
    have pre83 : ∀ t, own_S p e below T82 m 36 #[sR a1, sI 1, sR ax] [(.int (sz - (1 : Int32))), (.ref a1)] t → R0 t := fun t k => pre81 t (by
      refine st82 _ ?_
      refine XS.iconst X82.here hx rfl (hb hby own_d14_34) ?_
      refine XS.isub X82.here hx rfl (hb hby own_d14_35) rfl ?_
      exact k)
    obtain ⟨T84, h84, X84, e84, W84, st84⟩ := putF X82 hx hZ hown (host := "") (Or.inl hw54) Via.refl e82 Fs60 Ex60 (Or.inl hw55) hw24 (ty := .int) (by decide) rfl rfl (g := (mkF m 36 #[sR a1, sI 1, sR ax] [(.int (sz - (1 : Int32))), (.ref a1)])) rfl rfl (hb hby own_d14_36)
    have f85 := Nat.le_trans f57 (Keep.of_wr W84).1
    have f86 := Ex60.wr W84
    have f87 := Fw60.other W84 (Or.inr (slot_ne (Or.inl hw33) (Or.inl hw55) (by decide) (t := (.array (.object "com/example/adlim/adlim/client/Waiter"))) (t' := .int) (by decide) (by decide)))
    have f88 := Fo60.other W84 (Or.inr (slot_ne (Or.inl hw36) (Or.inl hw55) (by decide) (t := (.array .long)) (t' := .int) (by decide) (by decide)))
    have f89 := Fu60.other W84 (Or.inr (slot_ne (Or.inl hw39) (Or.inl hw55) (by decide) (t := (.array .boolean)) (t' := .int) (by decide) (by decide)))
    have f90 := Fc60.other W84 (Or.inr (slot_ne (Or.inl hw42) (Or.inl hw55) (by decide) (t := (.array .int)) (t' := .int) (by decide) (by decide)))
    have f91 := Fe60.other W84 (Or.inr (slot_ne (Or.inr hw44) (Or.inl hw55) (by decide) (t := (.object "com/example/adlim/adlim/client/CeilingQueue")) (t' := .int) (by decide) (by decide)))
    have f92 := Fh60.other W84 (Or.inr (slot_ne (Or.inl hw75) (Or.inl hw55) (by decide) (t := .int) (t' := .int) (by decide) (by decide)))
    have f93 := Ft60.other W84 (Or.inr (slot_ne (Or.inl hw67) (Or.inl hw55) (by decide) (t := .int) (t' := .int) (by decide) (by decide)))
    have f94 := Fn60.other W84 (Or.inr (slot_ne (Or.inl hw81) (Or.inl hw55) (by decide) (t := .int) (t' := .int) (by decide) (by decide)))
    have f95 := Vw60.other W84 (Ne.symm ne61)
    have f96 := Vo60.other W84 (Ne.symm ne63)
    have f97 := Uu60.other W84 (Ne.symm ne65)
    have f98 := Uc60.other W84 (Ne.symm ne67)
    have f99 : own_Low a1 h0 h84 := f58.wr W84 (Nat.le_refl _)
    have f100 := Fs60.same W84
    have N101 := Fr.snoc X84 N56 gq60
    have pre102 : ∀ t, own_S p e below T84 m 40 #[sR a1, sI 1, sR ax] [(.ref a1)] t → R0 t := fun t k => pre83 t (by
      refine st84 _ ?_
      refine XS.aloadN X84.here hx rfl (hb hby own_d14_39) rfl rfl ?_
      exact k)
    obtain ⟨T103, X103, e103, st103⟩ := getF X84 hx hZ hown (host := "") (Or.inl hw43) Via.refl e84 f91 (g := (mkF m 40 #[sR a1, sI 1, sR ax] [(.ref a1)])) rfl rfl (hb hby own_d14_40)
    have pre104 : ∀ t, own_S p e below T103 m 55 #[sR a1, sI 1, sR ax] [] t → R0 t := fun t k => pre102 t (by
      refine st103 _ ?_
      refine XS.ifnullYes X103.here hx rfl (pc0 := 43) (pc' := 55) rfl (hb hby own_d14_43) rfl (by decide) (by decide) ?_
      exact k)
    obtain ⟨fs, hr, hrun, hended, hW, hsame⟩ := X103.leave (v := none) (fun _ => rfl)
    refine ⟨_, _, cast (congrFun hR0 _) (pre104 _ (X103.returnOut hx Bd.returns (hb hby own_d14_55) hr)), hrun, hended, _, _, rfl, ?_, ⟨_, rfl⟩, hW, hsame.mono (by decide) (by decide)⟩
    show own_Q14j1 Z _ _ _ _ _ _ _ _ _ _ h0 n0 _ T103.heap _
    rw [e103]
    have Q105 : own_QI Z h84 n0 a1 x0 .null x2 o0 o1 o2 hd tl (sz - (1 : Int32)) := ⟨aw60, ao60, au60, ac60, kw60, ko60, cn60, f86, f87, f88, f89, f90, f91, f92, f93, f100, f94, f95, Ow60, f96, f97, f98, la60, lb60, lc60, ld60, gq60⟩
    exact ⟨rfl, N101, f99, Q105⟩
  · have pre106 : ∀ t, own_S p e below T50 m 31 #[sR a1, sI 1, sR ax] [(.ref a1), (.ref a1)] t → R0 t := fun t k => pre53 t (by
      refine XS.ifYes X50.here hx rfl (pc0 := 20) (pc' := 29) rfl (hb hby own_d14_20) rfl ((if0 _ _).trans (feq hc20).2) (by decide) (by decide) ?_
      refine XS.aloadN X50.here hx rfl (hb hby own_d14_29) rfl rfl ?_
      refine XS.dup X50.here hx rfl (hb hby own_d14_30) rfl rfl ?_
      exact k)
    obtain ⟨T107, X107, e107, st107⟩ := getF X50 hx hZ hown (host := "") (Or.inl hw54) Via.refl e50 f41 (g := (mkF m 31 #[sR a1, sI 1, sR ax] [(.ref a1), (.ref a1)])) rfl rfl (hb hby own_d14_31)
    have pre108 : ∀ t, own_S p e below T107 m 36 #[sR a1, sI 1, sR ax] [(.int (sz - (1 : Int32))), (.ref a1)] t → R0 t := fun t k => pre106 t (by
      refine st107 _ ?_
      refine XS.iconst X107.here hx rfl (hb hby own_d14_34) ?_
      refine XS.isub X107.here hx rfl (hb hby own_d14_35) rfl ?_
      exact k)
    obtain ⟨T109, h109, X109, e109, W109, st109⟩ := putF X107 hx hZ hown (host := "") (Or.inl hw54) Via.refl e107 f41 f33 (Or.inl hw55) hw24 (ty := .int) (by decide) rfl rfl (g := (mkF m 36 #[sR a1, sI 1, sR ax] [(.int (sz - (1 : Int32))), (.ref a1)])) rfl rfl (hb hby own_d14_36)
    have f110 := Nat.le_trans f32 (Keep.of_wr W109).1
    have f111 := f33.wr W109
    have f112 := f34.other W109 (Or.inr (slot_ne (Or.inl hw33) (Or.inl hw55) (by decide) (t := (.array (.object "com/example/adlim/adlim/client/Waiter"))) (t' := .int) (by decide) (by decide)))
    have f113 := f35.other W109 (Or.inr (slot_ne (Or.inl hw36) (Or.inl hw55) (by decide) (t := (.array .long)) (t' := .int) (by decide) (by decide)))
    have f114 := f36.other W109 (Or.inr (slot_ne (Or.inl hw39) (Or.inl hw55) (by decide) (t := (.array .boolean)) (t' := .int) (by decide) (by decide)))
    have f115 := f37.other W109 (Or.inr (slot_ne (Or.inl hw42) (Or.inl hw55) (by decide) (t := (.array .int)) (t' := .int) (by decide) (by decide)))
    have f116 := f38.other W109 (Or.inr (slot_ne (Or.inr hw44) (Or.inl hw55) (by decide) (t := (.object "com/example/adlim/adlim/client/CeilingQueue")) (t' := .int) (by decide) (by decide)))
    have f117 := f39.other W109 (Or.inr (slot_ne (Or.inl hw75) (Or.inl hw55) (by decide) (t := .int) (t' := .int) (by decide) (by decide)))
    have f118 := f40.other W109 (Or.inr (slot_ne (Or.inl hw67) (Or.inl hw55) (by decide) (t := .int) (t' := .int) (by decide) (by decide)))
    have f119 := f42.other W109 (Or.inr (slot_ne (Or.inl hw81) (Or.inl hw55) (by decide) (t := .int) (t' := .int) (by decide) (by decide)))
    have f120 := f43.other W109 (Ne.symm ne5)
    have f121 := f44.other W109 (Ne.symm ne7)
    have f122 := f45.other W109 (Ne.symm ne9)
    have f123 := V47.other W109 (Ne.symm ne3)
    have f124 : own_Low a1 h0 h109 := f46.wr W109 (Nat.le_refl _)
    have f125 := f41.same W109
    have N126 := Fr.snoc X109 N48 gq2
    have pre127 : ∀ t, own_S p e below T109 m 40 #[sR a1, sI 1, sR ax] [(.ref a1)] t → R0 t := fun t k => pre108 t (by
      refine st109 _ ?_
      refine XS.aloadN X109.here hx rfl (hb hby own_d14_39) rfl rfl ?_
      exact k)
    obtain ⟨T128, X128, e128, st128⟩ := getF X109 hx hZ hown (host := "") (Or.inl hw43) Via.refl e109 f116 (g := (mkF m 40 #[sR a1, sI 1, sR ax] [(.ref a1)])) rfl rfl (hb hby own_d14_40)
    have pre129 : ∀ t, own_S p e below T128 m 55 #[sR a1, sI 1, sR ax] [] t → R0 t := fun t k => pre127 t (by
      refine st128 _ ?_
      refine XS.ifnullYes X128.here hx rfl (pc0 := 43) (pc' := 55) rfl (hb hby own_d14_43) rfl (by decide) (by decide) ?_
      exact k)
    obtain ⟨fs, hr, hrun, hended, hW, hsame⟩ := X128.leave (v := none) (fun _ => rfl)
    refine ⟨_, _, cast (congrFun hR0 _) (pre129 _ (X128.returnOut hx Bd.returns (hb hby own_d14_55) hr)), hrun, hended, _, _, rfl, ?_, ⟨_, rfl⟩, hW, hsame.mono (by decide) (by decide)⟩
    show own_Q14j1 Z _ _ _ _ _ _ _ _ _ _ h0 n0 _ T128.heap _
    rw [e128]
    have Q130 : own_QI Z h109 n0 a1 x0 .null x2 o0 o1 o2 hd tl (sz - (1 : Int32)) := ⟨aw2, ao2, au2, ac2, kw2, ko2, cn2, f111, f112, f113, f114, f115, f116, f117, f118, f125, f119, f123, Ow2, f120, f121, f122, la2, lb2, lc2, ld2, gq2⟩
    exact ⟨rfl, N126, f124, Q130⟩
theorem own_ef_14j2 (m : MethodId) (x0 : Addr) (x1 : Int32) : entryFrame m #[(.ref x0), (.int x1)] 3 = mkF m 0 #[sR x0, sI x1, .unset] [] := by first | (simp [entryFrame, mkF, argsToLocals, Value.category]; done) | rfl
def own_Q14j2 (Z : State) (a1 : Addr) (x0 : Value) (x1 : Value) (ax : Addr) (o0 : Int64) (o1 : Int64) (o2 : Int64) (hd : Int32) (tl : Int32) (sz : Int32) (h0 : Heap) (n0 : Nat) (v : Option Value) (h : Heap) (L : List Loc) : Prop := v = none ∧ Fr n0 L ∧ own_Low a1 h0 h ∧ own_QI Z h n0 a1 x0 x1 .null o0 o1 o2 hd tl (sz - (1 : Int32))
set_option maxRecDepth 65536 in
set_option maxHeartbeats 40000000 in
theorem own_rm14j2 (l : Launch) (Z : State) (a0 : Array Value) (hw : ∀ d ∈ tables_1, d.before a0 Z = true) (ws : List Jvm.Cond) (a1 : Addr) (x0 : Value) (x1 : Value) (ax : Addr) (o0 : Int64) (o1 : Int64) (o2 : Int64) (hd : Int32) (tl : Int32) (sz : Int32) (h0 : Heap) (n0 : Nat) (Z0 : n0 ≤ h0.size) (hQ : own_QI Z h0 n0 a1 x0 x1 (.ref ax) o0 o1 o2 hd tl sz) :
    MetFree l own_y7 (head1 (Jvm.Cond.code own_y7 prog_63_method_16_code 3 none :: ws) ({ frames := 1, cells := 0, slots := 0, locals := 15 } : Room)) (fun a U => a = #[(.ref a1), (.int 2)] ∧ Z.Warmed39 U.vm ∧ U.heap = h0) (fun _ _ _ _ _ => True) (fun _ U o U' => ∃ v L, o = .returned v ∧ own_Q14j2 Z a1 x0 x1 ax o0 o1 o2 hd tl sz h0 n0 v U'.heap L ∧ FrameEnd U o U' L ({ frames := 1, cells := 0, slots := 0, locals := 15 } : Room).cells ({ frames := 1, cells := 0, slots := 0, locals := 15 } : Room).slots) := by
  refine MetFree.of_bodySF (plainFor_of_name own_pn_2) hisR ?_
  intro p e s m args below meth c s₁ Bd hml0 hP hK
  obtain ⟨rfl, hZ, hh⟩ := hP
  have hw24 := hw _ (List.mem_of_getElem? (i := 24) rfl)
  have hw25 := hw _ (List.mem_of_getElem? (i := 25) rfl)
  have hw32 := hw _ (List.mem_of_getElem? (i := 32) rfl)
  have hw33 := hw _ (List.mem_of_getElem? (i := 33) rfl)
  have hw36 := hw _ (List.mem_of_getElem? (i := 36) rfl)
  have hw38 := hw _ (List.mem_of_getElem? (i := 38) rfl)
  have hw39 := hw _ (List.mem_of_getElem? (i := 39) rfl)
  have hw42 := hw _ (List.mem_of_getElem? (i := 42) rfl)
  have hw43 := hw _ (List.mem_of_getElem? (i := 43) rfl)
  have hw44 := hw _ (List.mem_of_getElem? (i := 44) rfl)
  have hw54 := hw _ (List.mem_of_getElem? (i := 54) rfl)
  have hw55 := hw _ (List.mem_of_getElem? (i := 55) rfl)
  have hw67 := hw _ (List.mem_of_getElem? (i := 67) rfl)
  have hw75 := hw _ (List.mem_of_getElem? (i := 75) rfl)
  have hw76 := hw _ (List.mem_of_getElem? (i := 76) rfl)
  have hw77 := hw _ (List.mem_of_getElem? (i := 77) rfl)
  have hw78 := hw _ (List.mem_of_getElem? (i := 78) rfl)
  have hw79 := hw _ (List.mem_of_getElem? (i := 79) rfl)
  have hw81 := hw _ (List.mem_of_getElem? (i := 81) rfl)
  have hx := Bd.exec
  have hby := Bd.bytes
  have hml : c.maxLocals = 3 := hml0
  have hown : s.vm.findClass "com/example/adlim/adlim/client/WaiterQueue" = some m.cls := findClass_of_methodNamed Bd.named
  have hnm := (name_of_methodNamed Bd.named Bd.method).1
  have X0 : Stand p l e ({ frames := 1, cells := 0, slots := 0, locals := 15 } : Room) s m #[(.ref a1), (.int 2)] below meth c s₁ [] 0 0 := Stand.of_body Bd
  have e0 : s₁.heap = h0 := by rw [← hh, Bd.state]; rfl
  have N0 := Fr.nil n0
  obtain ⟨R0, hR0⟩ : ∃ R : State → Prop, R = fun t => Steps p.tables e below (s₁.setTop (entryFrame m #[(.ref a1), (.int 2)] 3)) t := ⟨_, rfl⟩
  have pre0 : ∀ t, Steps p.tables e below (s₁.setTop (mkF m 0 #[sR a1, sI 2, sU] [])) t → R0 t := fun t k => by rw [hR0]; exact castTop (own_ef_14j2 m a1 (2 : Int32)) k
  have f1 : own_Low a1 h0 h0 := own_Low.refl _ _
  obtain ⟨aw2, ao2, au2, ac2, kw2, ko2, cn2, Ex2, Fw2, Fo2, Fu2, Fc2, Fe2, Fh2, Ft2, Fs2, Fn2, Vw2, Ow2, Vo2, Uu2, Uc2, la2, lb2, lc2, ld2, gq2⟩ := id hQ
  have ne3 : a1 ≠ aw2 := Nat.ne_of_lt la2
  have lt4 : a1 < ao2 := (Nat.lt_trans la2 lb2)
  have ne5 : a1 ≠ ao2 := Nat.ne_of_lt lt4
  have lt6 : a1 < au2 := (Nat.lt_trans (Nat.lt_trans la2 lb2) lc2)
  have ne7 : a1 ≠ au2 := Nat.ne_of_lt lt6
  have lt8 : a1 < ac2 := (Nat.lt_trans (Nat.lt_trans (Nat.lt_trans la2 lb2) lc2) ld2)
  have ne9 : a1 ≠ ac2 := Nat.ne_of_lt lt8
  have ne10 : aw2 ≠ ao2 := Nat.ne_of_lt lb2
  have lt11 : aw2 < au2 := (Nat.lt_trans lb2 lc2)
  have ne12 : aw2 ≠ au2 := Nat.ne_of_lt lt11
  have lt13 : aw2 < ac2 := (Nat.lt_trans (Nat.lt_trans lb2 lc2) ld2)
  have ne14 : aw2 ≠ ac2 := Nat.ne_of_lt lt13
  have ne15 : ao2 ≠ au2 := Nat.ne_of_lt lc2
  have lt16 : ao2 < ac2 := (Nat.lt_trans lc2 ld2)
  have ne17 : ao2 ≠ ac2 := Nat.ne_of_lt lt16
  have ne18 : au2 ≠ ac2 := Nat.ne_of_lt ld2
  have g19 : n0 ≤ aw2 := Nat.le_trans gq2 (Nat.le_of_lt la2)
  have g20 : n0 ≤ ao2 := Nat.le_trans gq2 (Nat.le_of_lt lt4)
  have g21 : n0 ≤ au2 := Nat.le_trans gq2 (Nat.le_of_lt lt6)
  have g22 : n0 ≤ ac2 := Nat.le_trans gq2 (Nat.le_of_lt lt8)
  have pre23 : ∀ t, own_S p e below s₁ m 1 #[sR a1, sI 2, sU] [(.ref a1)] t → R0 t := fun t k => pre0 t (by
    refine XS.aloadN X0.here hx rfl (hb hby own_d14_0) rfl rfl ?_
    exact k)
  obtain ⟨T24, X24, e24, st24⟩ := getF X0 hx hZ hown (host := "") (Or.inl hw32) Via.refl e0 Fw2 (g := (mkF m 1 #[sR a1, sI 2, sU] [(.ref a1)])) rfl rfl (hb hby own_d14_1)
  have pre25 : ∀ t, own_S p e below T24 m 5 #[sR a1, sI 2, sU] [(.int 2), (.ref aw2)] t → R0 t := fun t k => pre23 t (by
    refine st24 _ ?_
    refine XS.iloadN X24.here hx rfl (hb hby own_d14_4) rfl ?_
    exact k)
  obtain ⟨cl26, Ar26, q26, S26, N26, H26, G26⟩ := id Vw2
  have hin26 := inb_of (j := (2 : Int32)) S26 ⟨by decide, by decide⟩
  have pre27 : ∀ t, own_S p e below T24 m 8 #[sR a1, sI 2, sR ax] [(.ref a1)] t → R0 t := fun t k => pre25 t (by
    refine X24.aaload hx (j := (2 : Int32)) (v := (.ref ax)) (by rw [e24]; exact Ar26.1) (State.isArrayOf_alike hZ.alike Ar26.2.1) rfl Ar26.2.2 hin26 (H26.at hin26 rfl) (g := (mkF m 5 #[sR a1, sI 2, sU] [(.int 2), (.ref aw2)])) rfl rfl (hb hby own_d14_5) _ ?_
    refine XS.astoreN X24.here hx rfl (hb hby own_d14_6) rfl rfl (l' := #[sR a1, sI 2, sR ax]) rfl ?_
    refine XS.aloadN X24.here hx rfl (hb hby own_d14_7) rfl rfl ?_
    exact k)
  obtain ⟨T28, X28, e28, st28⟩ := getF X24 hx hZ hown (host := "") (Or.inl hw32) Via.refl e24 Fw2 (g := (mkF m 8 #[sR a1, sI 2, sR ax] [(.ref a1)])) rfl rfl (hb hby own_d14_8)
  have pre29 : ∀ t, own_S p e below T28 m 13 #[sR a1, sI 2, sR ax] [.null, (.int 2), (.ref aw2)] t → R0 t := fun t k => pre27 t (by
    refine st28 _ ?_
    refine XS.iloadN X28.here hx rfl (hb hby own_d14_11) rfl ?_
    refine XS.aconstNull X28.here hx rfl (hb hby own_d14_12) ?_
    exact k)
  obtain ⟨cl30, Ar30, q30, S30, N30, H30, G30⟩ := id Vw2
  have hin30 := inb_of (j := (2 : Int32)) S30 ⟨by decide, by decide⟩
  obtain ⟨T31, h31, X31, e31, W31, st31⟩ := stR X28 hx hZ e28 Ar30 (j := (2 : Int32)) hin30 rfl (Or.inl rfl) (g := (mkF m 13 #[sR a1, sI 2, sR ax] [.null, (.int 2), (.ref aw2)])) rfl rfl (hb hby own_d14_13)
  have f32 := Nat.le_trans Z0 (Keep.of_wr W31).1
  have f33 := Ex2.wr W31
  have f34 := Fw2.other W31 (Or.inl ne3)
  have f35 := Fo2.other W31 (Or.inl ne3)
  have f36 := Fu2.other W31 (Or.inl ne3)
  have f37 := Fc2.other W31 (Or.inl ne3)
  have f38 := Fe2.other W31 (Or.inl ne3)
  have f39 := Fh2.other W31 (Or.inl ne3)
  have f40 := Ft2.other W31 (Or.inl ne3)
  have f41 := Fs2.other W31 (Or.inl ne3)
  have f42 := Fn2.other W31 (Or.inl ne3)
  have f43 := Vo2.other W31 (Ne.symm ne10)
  have f44 := Uu2.other W31 (Ne.symm ne12)
  have f45 := Uc2.other W31 (Ne.symm ne14)
  have f46 : own_Low a1 h0 h31 := f1.wr W31 (Nat.le_of_lt la2)
  have V47 : Arv Z h31 aw2 kw2 (.object "com/example/adlim/adlim/client/Waiter") (8 : Int32) [x0, x1, .null, .null, .null, .null, .null, .null] .null := Arv.set Ar30 q30 S30 N30 H30 G30 rfl W31 2 rfl (Nat.le_of_ble_eq_true rfl)
  have N48 := Fr.snoc X31 N0 g19
  have pre49 : ∀ t, own_S p e below T31 m 15 #[sR a1, sI 2, sR ax] [(.ref a1)] t → R0 t := fun t k => pre29 t (by
    refine st31 _ ?_
    refine XS.aloadN X31.here hx rfl (hb hby own_d14_14) rfl rfl ?_
    exact k)
  obtain ⟨T50, X50, e50, st50⟩ := getF X31 hx hZ hown (host := "") (Or.inl hw38) Via.refl e31 f36 (g := (mkF m 15 #[sR a1, sI 2, sR ax] [(.ref a1)])) rfl rfl (hb hby own_d14_15)
  have pre51 : ∀ t, own_S p e below T50 m 19 #[sR a1, sI 2, sR ax] [(.int 2), (.ref au2)] t → R0 t := fun t k => pre49 t (by
    refine st50 _ ?_
    refine XS.iloadN X50.here hx rfl (hb hby own_d14_18) rfl ?_
    exact k)
  obtain ⟨cl52, y52, Ar52, S52, hin52, hat52⟩ := own_Any.get f44 (by simp) (2 : Int32) ⟨by decide, by decide⟩
  have pre53 : ∀ t, own_S p e below T50 m 20 #[sR a1, sI 2, sR ax] [(.int y52)] t → R0 t := fun t k => pre51 t (by
    refine X50.baloadBooleans hx (j := (2 : Int32)) (v := (.int y52)) (by rw [e50]; exact Ar52.1) (State.isArrayOf_alike hZ.alike Ar52.2.1) Ar52.2.2 hin52 hat52 (g := (mkF m 19 #[sR a1, sI 2, sR ax] [(.int 2), (.ref au2)])) rfl rfl (hb hby own_d14_19) _ ?_
    exact k)
  by_cases hc20 : y52 = (0 : Int32)
  · have pre54 : ∀ t, own_S p e below T50 m 26 #[sR a1, sI 2, sR ax] [(.int (-1)), (.int 2), (.ref a1)] t → R0 t := fun t k => pre53 t (by
      refine XS.ifNo X50.here hx rfl (hb hby own_d14_20) rfl ((if0 _ _).trans (teq hc20).2) ?_
      refine XS.aloadN X50.here hx rfl (hb hby own_d14_23) rfl rfl ?_
      refine XS.iloadN X50.here hx rfl (hb hby own_d14_24) rfl ?_
      refine XS.iconst X50.here hx rfl (hb hby own_d14_25) ?_
      exact k)
    have Q55 : own_QI Z h31 n0 a1 x0 x1 .null o0 o1 o2 hd tl sz := ⟨aw2, ao2, au2, ac2, kw2, ko2, cn2, f33, f34, f35, f36, f37, f38, f39, f40, f41, f42, V47, Ow2, f43, f44, f45, la2, lb2, lc2, ld2, gq2⟩
    obtain ⟨cq56, q56, q56'⟩ := f33.cell
    obtain ⟨_, _, ⟨T56, L56, k56, n56⟩, -, X56, ⟨Lc56, hQ56, l56, y56, z56⟩, st56⟩ := X50.privateBack hx (y := own_y5) hown (mvT hZ hw76) (mvT hZ hw77) (own_selp hZ hw24 hw78 hw77 (by decide)) (Cond.privateMethod_at (mvP hZ hw78 (args := #[]))) (mvT hZ hw79) (by decide) (backOf (W := 0) (own_rm10s2 l Z a0 hw [] a1 (-1 : Int32) x0 x1 .null o0 o1 o2 hd tl sz h31 n0 f32 Q55) hZ hw79 hw25 (by decide) (by decide)) (g := (mkF m 26 #[sR a1, sI 2, sR ax] [(.int (-1)), (.int 2), (.ref a1)])) rfl (by rw [hml]; rfl) (Steps.refl _) (a := a1) (by rw [e50]; exact q56) q56' (argsL := [(.int 2), (.int (-1))]) (rest := []) (lenOf own_pd_2 rfl) rfl (by show 2 * 0 + _ ≤ _; exact Nat.le_of_eq rfl) (hb hby own_d14_26) (fun _ _ => ⟨rfl, e50, (by decide : 0 + 0 ≤ _), (by decide : 0 + 0 ≤ _)⟩)
    dsimp only [Pt.U, Pt.locs, Pt.cells, Pt.slots] at X56 l56 y56 z56 st56 hQ56
    subst l56 y56 z56
    obtain ⟨rfl, N56q, Lw56, Qw56⟩ := hQ56
    have f57 := Nat.le_trans f32 Lw56.1
    have f58 := f46.trans Lw56
    have Q59 : own_QI Z T56.heap n0 a1 x0 x1 .null o0 o1 o2 hd tl sz := Qw56
    obtain ⟨aw60, ao60, au60, ac60, kw60, ko60, cn60, Ex60, Fw60, Fo60, Fu60, Fc60, Fe60, Fh60, Ft60, Fs60, Fn60, Vw60, Ow60, Vo60, Uu60, Uc60, la60, lb60, lc60, ld60, gq60⟩ := id Q59
    have ne61 : a1 ≠ aw60 := Nat.ne_of_lt la60
    have lt62 : a1 < ao60 := (Nat.lt_trans la60 lb60)
    have ne63 : a1 ≠ ao60 := Nat.ne_of_lt lt62
    have lt64 : a1 < au60 := (Nat.lt_trans (Nat.lt_trans la60 lb60) lc60)
    have ne65 : a1 ≠ au60 := Nat.ne_of_lt lt64
    have lt66 : a1 < ac60 := (Nat.lt_trans (Nat.lt_trans (Nat.lt_trans la60 lb60) lc60) ld60)
    have ne67 : a1 ≠ ac60 := Nat.ne_of_lt lt66
    have ne68 : aw60 ≠ ao60 := Nat.ne_of_lt lb60
    have lt69 : aw60 < au60 := (Nat.lt_trans lb60 lc60)
    have ne70 : aw60 ≠ au60 := Nat.ne_of_lt lt69
    have lt71 : aw60 < ac60 := (Nat.lt_trans (Nat.lt_trans lb60 lc60) ld60)
    have ne72 : aw60 ≠ ac60 := Nat.ne_of_lt lt71
    have ne73 : ao60 ≠ au60 := Nat.ne_of_lt lc60
    have lt74 : ao60 < ac60 := (Nat.lt_trans lc60 ld60)
    have ne75 : ao60 ≠ ac60 := Nat.ne_of_lt lt74
    have ne76 : au60 ≠ ac60 := Nat.ne_of_lt ld60
    have g77 : n0 ≤ aw60 := Nat.le_trans gq60 (Nat.le_of_lt la60)
    have g78 : n0 ≤ ao60 := Nat.le_trans gq60 (Nat.le_of_lt lt62)
    have g79 : n0 ≤ au60 := Nat.le_trans gq60 (Nat.le_of_lt lt64)
    have g80 : n0 ≤ ac60 := Nat.le_trans gq60 (Nat.le_of_lt lt66)
    have N56 := Fr.app N48 N56q
    have pre81 : ∀ t, own_S p e below T56 m 31 #[sR a1, sI 2, sR ax] [(.ref a1), (.ref a1)] t → R0 t := fun t k => pre54 t (by
      refine st56.trans ?_
      refine XS.aloadN X56.here hx rfl (hb hby own_d14_29) rfl rfl ?_
      refine XS.dup X56.here hx rfl (hb hby own_d14_30) rfl rfl ?_
      exact k)
    obtain ⟨T82, X82, e82, st82⟩ := getF X56 hx hZ hown (host := "") (Or.inl hw54) Via.refl rfl Fs60 (g := (mkF m 31 #[sR a1, sI 2, sR ax] [(.ref a1), (.ref a1)])) rfl rfl (hb hby own_d14_31)
    have pre83 : ∀ t, own_S p e below T82 m 36 #[sR a1, sI 2, sR ax] [(.int (sz - (1 : Int32))), (.ref a1)] t → R0 t := fun t k => pre81 t (by
      refine st82 _ ?_
      refine XS.iconst X82.here hx rfl (hb hby own_d14_34) ?_
      refine XS.isub X82.here hx rfl (hb hby own_d14_35) rfl ?_
      exact k)
    obtain ⟨T84, h84, X84, e84, W84, st84⟩ := putF X82 hx hZ hown (host := "") (Or.inl hw54) Via.refl e82 Fs60 Ex60 (Or.inl hw55) hw24 (ty := .int) (by decide) rfl rfl (g := (mkF m 36 #[sR a1, sI 2, sR ax] [(.int (sz - (1 : Int32))), (.ref a1)])) rfl rfl (hb hby own_d14_36)
    have f85 := Nat.le_trans f57 (Keep.of_wr W84).1
    have f86 := Ex60.wr W84
    have f87 := Fw60.other W84 (Or.inr (slot_ne (Or.inl hw33) (Or.inl hw55) (by decide) (t := (.array (.object "com/example/adlim/adlim/client/Waiter"))) (t' := .int) (by decide) (by decide)))
    have f88 := Fo60.other W84 (Or.inr (slot_ne (Or.inl hw36) (Or.inl hw55) (by decide) (t := (.array .long)) (t' := .int) (by decide) (by decide)))
    have f89 := Fu60.other W84 (Or.inr (slot_ne (Or.inl hw39) (Or.inl hw55) (by decide) (t := (.array .boolean)) (t' := .int) (by decide) (by decide)))
    have f90 := Fc60.other W84 (Or.inr (slot_ne (Or.inl hw42) (Or.inl hw55) (by decide) (t := (.array .int)) (t' := .int) (by decide) (by decide)))
    have f91 := Fe60.other W84 (Or.inr (slot_ne (Or.inr hw44) (Or.inl hw55) (by decide) (t := (.object "com/example/adlim/adlim/client/CeilingQueue")) (t' := .int) (by decide) (by decide)))
    have f92 := Fh60.other W84 (Or.inr (slot_ne (Or.inl hw75) (Or.inl hw55) (by decide) (t := .int) (t' := .int) (by decide) (by decide)))
    have f93 := Ft60.other W84 (Or.inr (slot_ne (Or.inl hw67) (Or.inl hw55) (by decide) (t := .int) (t' := .int) (by decide) (by decide)))
    have f94 := Fn60.other W84 (Or.inr (slot_ne (Or.inl hw81) (Or.inl hw55) (by decide) (t := .int) (t' := .int) (by decide) (by decide)))
    have f95 := Vw60.other W84 (Ne.symm ne61)
    have f96 := Vo60.other W84 (Ne.symm ne63)
    have f97 := Uu60.other W84 (Ne.symm ne65)
    have f98 := Uc60.other W84 (Ne.symm ne67)
    have f99 : own_Low a1 h0 h84 := f58.wr W84 (Nat.le_refl _)
    have f100 := Fs60.same W84
    have N101 := Fr.snoc X84 N56 gq60
    have pre102 : ∀ t, own_S p e below T84 m 40 #[sR a1, sI 2, sR ax] [(.ref a1)] t → R0 t := fun t k => pre83 t (by
      refine st84 _ ?_
      refine XS.aloadN X84.here hx rfl (hb hby own_d14_39) rfl rfl ?_
      exact k)
    obtain ⟨T103, X103, e103, st103⟩ := getF X84 hx hZ hown (host := "") (Or.inl hw43) Via.refl e84 f91 (g := (mkF m 40 #[sR a1, sI 2, sR ax] [(.ref a1)])) rfl rfl (hb hby own_d14_40)
    have pre104 : ∀ t, own_S p e below T103 m 55 #[sR a1, sI 2, sR ax] [] t → R0 t := fun t k => pre102 t (by
      refine st103 _ ?_
      refine XS.ifnullYes X103.here hx rfl (pc0 := 43) (pc' := 55) rfl (hb hby own_d14_43) rfl (by decide) (by decide) ?_
      exact k)
    obtain ⟨fs, hr, hrun, hended, hW, hsame⟩ := X103.leave (v := none) (fun _ => rfl)
    refine ⟨_, _, cast (congrFun hR0 _) (pre104 _ (X103.returnOut hx Bd.returns (hb hby own_d14_55) hr)), hrun, hended, _, _, rfl, ?_, ⟨_, rfl⟩, hW, hsame.mono (by decide) (by decide)⟩
    show own_Q14j2 Z _ _ _ _ _ _ _ _ _ _ h0 n0 _ T103.heap _
    rw [e103]
    have Q105 : own_QI Z h84 n0 a1 x0 x1 .null o0 o1 o2 hd tl (sz - (1 : Int32)) := ⟨aw60, ao60, au60, ac60, kw60, ko60, cn60, f86, f87, f88, f89, f90, f91, f92, f93, f100, f94, f95, Ow60, f96, f97, f98, la60, lb60, lc60, ld60, gq60⟩
    exact ⟨rfl, N101, f99, Q105⟩
  · have pre106 : ∀ t, own_S p e below T50 m 31 #[sR a1, sI 2, sR ax] [(.ref a1), (.ref a1)] t → R0 t := fun t k => pre53 t (by
      refine XS.ifYes X50.here hx rfl (pc0 := 20) (pc' := 29) rfl (hb hby own_d14_20) rfl ((if0 _ _).trans (feq hc20).2) (by decide) (by decide) ?_
      refine XS.aloadN X50.here hx rfl (hb hby own_d14_29) rfl rfl ?_
      refine XS.dup X50.here hx rfl (hb hby own_d14_30) rfl rfl ?_
      exact k)
    obtain ⟨T107, X107, e107, st107⟩ := getF X50 hx hZ hown (host := "") (Or.inl hw54) Via.refl e50 f41 (g := (mkF m 31 #[sR a1, sI 2, sR ax] [(.ref a1), (.ref a1)])) rfl rfl (hb hby own_d14_31)
    have pre108 : ∀ t, own_S p e below T107 m 36 #[sR a1, sI 2, sR ax] [(.int (sz - (1 : Int32))), (.ref a1)] t → R0 t := fun t k => pre106 t (by
      refine st107 _ ?_
      refine XS.iconst X107.here hx rfl (hb hby own_d14_34) ?_
      refine XS.isub X107.here hx rfl (hb hby own_d14_35) rfl ?_
      exact k)
    obtain ⟨T109, h109, X109, e109, W109, st109⟩ := putF X107 hx hZ hown (host := "") (Or.inl hw54) Via.refl e107 f41 f33 (Or.inl hw55) hw24 (ty := .int) (by decide) rfl rfl (g := (mkF m 36 #[sR a1, sI 2, sR ax] [(.int (sz - (1 : Int32))), (.ref a1)])) rfl rfl (hb hby own_d14_36)
    have f110 := Nat.le_trans f32 (Keep.of_wr W109).1
    have f111 := f33.wr W109
    have f112 := f34.other W109 (Or.inr (slot_ne (Or.inl hw33) (Or.inl hw55) (by decide) (t := (.array (.object "com/example/adlim/adlim/client/Waiter"))) (t' := .int) (by decide) (by decide)))
    have f113 := f35.other W109 (Or.inr (slot_ne (Or.inl hw36) (Or.inl hw55) (by decide) (t := (.array .long)) (t' := .int) (by decide) (by decide)))
    have f114 := f36.other W109 (Or.inr (slot_ne (Or.inl hw39) (Or.inl hw55) (by decide) (t := (.array .boolean)) (t' := .int) (by decide) (by decide)))
    have f115 := f37.other W109 (Or.inr (slot_ne (Or.inl hw42) (Or.inl hw55) (by decide) (t := (.array .int)) (t' := .int) (by decide) (by decide)))
    have f116 := f38.other W109 (Or.inr (slot_ne (Or.inr hw44) (Or.inl hw55) (by decide) (t := (.object "com/example/adlim/adlim/client/CeilingQueue")) (t' := .int) (by decide) (by decide)))
    have f117 := f39.other W109 (Or.inr (slot_ne (Or.inl hw75) (Or.inl hw55) (by decide) (t := .int) (t' := .int) (by decide) (by decide)))
    have f118 := f40.other W109 (Or.inr (slot_ne (Or.inl hw67) (Or.inl hw55) (by decide) (t := .int) (t' := .int) (by decide) (by decide)))
    have f119 := f42.other W109 (Or.inr (slot_ne (Or.inl hw81) (Or.inl hw55) (by decide) (t := .int) (t' := .int) (by decide) (by decide)))
    have f120 := f43.other W109 (Ne.symm ne5)
    have f121 := f44.other W109 (Ne.symm ne7)
    have f122 := f45.other W109 (Ne.symm ne9)
    have f123 := V47.other W109 (Ne.symm ne3)
    have f124 : own_Low a1 h0 h109 := f46.wr W109 (Nat.le_refl _)
    have f125 := f41.same W109
    have N126 := Fr.snoc X109 N48 gq2
    have pre127 : ∀ t, own_S p e below T109 m 40 #[sR a1, sI 2, sR ax] [(.ref a1)] t → R0 t := fun t k => pre108 t (by
      refine st109 _ ?_
      refine XS.aloadN X109.here hx rfl (hb hby own_d14_39) rfl rfl ?_
      exact k)
    obtain ⟨T128, X128, e128, st128⟩ := getF X109 hx hZ hown (host := "") (Or.inl hw43) Via.refl e109 f116 (g := (mkF m 40 #[sR a1, sI 2, sR ax] [(.ref a1)])) rfl rfl (hb hby own_d14_40)
    have pre129 : ∀ t, own_S p e below T128 m 55 #[sR a1, sI 2, sR ax] [] t → R0 t := fun t k => pre127 t (by
      refine st128 _ ?_
      refine XS.ifnullYes X128.here hx rfl (pc0 := 43) (pc' := 55) rfl (hb hby own_d14_43) rfl (by decide) (by decide) ?_
      exact k)
    obtain ⟨fs, hr, hrun, hended, hW, hsame⟩ := X128.leave (v := none) (fun _ => rfl)
    refine ⟨_, _, cast (congrFun hR0 _) (pre129 _ (X128.returnOut hx Bd.returns (hb hby own_d14_55) hr)), hrun, hended, _, _, rfl, ?_, ⟨_, rfl⟩, hW, hsame.mono (by decide) (by decide)⟩
    show own_Q14j2 Z _ _ _ _ _ _ _ _ _ _ h0 n0 _ T128.heap _
    rw [e128]
    have Q130 : own_QI Z h109 n0 a1 x0 x1 .null o0 o1 o2 hd tl (sz - (1 : Int32)) := ⟨aw2, ao2, au2, ac2, kw2, ko2, cn2, f111, f112, f113, f114, f115, f116, f117, f118, f125, f119, f123, Ow2, f120, f121, f122, la2, lb2, lc2, ld2, gq2⟩
    exact ⟨rfl, N126, f124, Q130⟩
theorem own_d13_0 : decode prog_63_method_15_code 0 = .ok (.aload_n 0, 1) := by decide +kernel
theorem own_d13_1 : decode prog_63_method_15_code 1 = .ok (.getfield 62, 3) := by decide +kernel
theorem own_d13_4 : decode prog_63_method_15_code 4 = .ok (.istore_n 3, 1) := by decide +kernel
theorem own_d13_5 : decode prog_63_method_15_code 5 = .ok (.aload_n 0, 1) := by decide +kernel
theorem own_d13_6 : decode prog_63_method_15_code 6 = .ok (.getfield 38, 3) := by decide +kernel
theorem own_d13_9 : decode prog_63_method_15_code 9 = .ok (.istore 4, 2) := by decide +kernel
theorem own_d13_11 : decode prog_63_method_15_code 11 = .ok (.iload_n 3, 1) := by decide +kernel
theorem own_d13_12 : decode prog_63_method_15_code 12 = .ok (.iload 4, 2) := by decide +kernel
theorem own_d13_14 : decode prog_63_method_15_code 14 = .ok (.if_icmp .ge 38, 3) := by decide +kernel
theorem own_d13_17 : decode prog_63_method_15_code 17 = .ok (.iload_n 3, 1) := by decide +kernel
theorem own_d13_18 : decode prog_63_method_15_code 18 = .ok (.iload 4, 2) := by decide +kernel
theorem own_d13_20 : decode prog_63_method_15_code 20 = .ok (.iadd, 1) := by decide +kernel
theorem own_d13_21 : decode prog_63_method_15_code 21 = .ok (.iconst 1, 1) := by decide +kernel
theorem own_d13_22 : decode prog_63_method_15_code 22 = .ok (.iushr, 1) := by decide +kernel
theorem own_d13_23 : decode prog_63_method_15_code 23 = .ok (.istore 5, 2) := by decide +kernel
theorem own_d13_25 : decode prog_63_method_15_code 25 = .ok (.aload_n 0, 1) := by decide +kernel
theorem own_d13_26 : decode prog_63_method_15_code 26 = .ok (.getfield 18, 3) := by decide +kernel
theorem own_d13_29 : decode prog_63_method_15_code 29 = .ok (.iload 5, 2) := by decide +kernel
theorem own_d13_31 : decode prog_63_method_15_code 31 = .ok (.laload, 1) := by decide +kernel
theorem own_d13_32 : decode prog_63_method_15_code 32 = .ok (.lload_n 1, 1) := by decide +kernel
theorem own_d13_33 : decode prog_63_method_15_code 33 = .ok (.lcmp, 1) := by decide +kernel
theorem own_d13_34 : decode prog_63_method_15_code 34 = .ok (.ifCond .ge 11, 3) := by decide +kernel
theorem own_d13_45 : decode prog_63_method_15_code 45 = .ok (.iload 5, 2) := by decide +kernel
theorem own_d13_47 : decode prog_63_method_15_code 47 = .ok (.istore 4, 2) := by decide +kernel
theorem own_d13_49 : decode prog_63_method_15_code 49 = .ok (.goto (-38), 3) := by decide +kernel
theorem own_d13_52 : decode prog_63_method_15_code 52 = .ok (.iload_n 3, 1) := by decide +kernel
theorem own_d13_53 : decode prog_63_method_15_code 53 = .ok (.ireturn, 1) := by decide +kernel
theorem own_ef_13j0 (m : MethodId) (x0 : Addr) (x1 : Int64) : entryFrame m #[(.ref x0), (.long x1)] 6 = mkF m 0 #[sR x0, sJ x1, .second, .unset, .unset, .unset] [] := by first | (simp [entryFrame, mkF, argsToLocals, Value.category]; done) | rfl
def own_Q13j0 (Z : State) (a1 : Addr) (o0 : Int64) (x0 : Value) (x1 : Value) (x2 : Value) (o1 : Int64) (o2 : Int64) (hd : Int32) (tl : Int32) (sz : Int32) (h0 : Heap) (n0 : Nat) (v : Option Value) (h : Heap) (L : List Loc) : Prop := v = some (.int 0) ∧ Fr n0 L ∧ h = h0
abbrev own_y8 : MethodName := ⟨"com/example/adlim/adlim/client/WaiterQueue", "slotFrom", "(J)I"⟩
set_option maxRecDepth 65536 in
set_option maxHeartbeats 40000000 in
theorem own_rm13j0 (l : Launch) (Z : State) (a0 : Array Value) (hw : ∀ d ∈ tables_1, d.before a0 Z = true) (ws : List Jvm.Cond) (a1 : Addr) (o0 : Int64) (x0 : Value) (x1 : Value) (x2 : Value) (o1 : Int64) (o2 : Int64) (hd : Int32) (tl : Int32) (sz : Int32) (h0 : Heap) (n0 : Nat) (Z0 : n0 ≤ h0.size) (hQ : own_QI Z h0 n0 a1 x0 x1 x2 o0 o1 o2 hd tl sz) (hc : (hd = (0 : Int32) ∧ tl = (1 : Int32)) ∨ (hd = (0 : Int32) ∧ tl = (2 : Int32)) ∨ (hd = (0 : Int32) ∧ tl = (3 : Int32))) (hm : ((1 : Int32) < tl → o0 < o1) ∧ ((2 : Int32) < tl → o1 < o2)) :
    MetFree l own_y8 (head1 (Jvm.Cond.code own_y8 prog_63_method_15_code 6 (some .int) :: ws) ({ frames := 0, cells := 0, slots := 0, locals := 0 } : Room)) (fun a U => a = #[(.ref a1), (.long o0)] ∧ Z.Warmed39 U.vm ∧ U.heap = h0) (fun _ _ _ _ _ => True) (fun _ U o U' => ∃ v L, o = .returned v ∧ own_Q13j0 Z a1 o0 x0 x1 x2 o1 o2 hd tl sz h0 n0 v U'.heap L ∧ FrameEnd U o U' L ({ frames := 0, cells := 0, slots := 0, locals := 0 } : Room).cells ({ frames := 0, cells := 0, slots := 0, locals := 0 } : Room).slots) := by
  refine MetFree.of_bodySF (plainFor_of_name own_pn_2) hisR ?_
  intro p e s m args below meth c s₁ Bd hml0 hP hK
  obtain ⟨rfl, hZ, hh⟩ := hP
  have hw35 := hw _ (List.mem_of_getElem? (i := 35) rfl)
  have hw66 := hw _ (List.mem_of_getElem? (i := 66) rfl)
  have hw74 := hw _ (List.mem_of_getElem? (i := 74) rfl)
  have hx := Bd.exec
  have hby := Bd.bytes
  have hml : c.maxLocals = 6 := hml0
  have hown : s.vm.findClass "com/example/adlim/adlim/client/WaiterQueue" = some m.cls := findClass_of_methodNamed Bd.named
  have hnm := (name_of_methodNamed Bd.named Bd.method).1
  have X0 : Stand p l e ({ frames := 0, cells := 0, slots := 0, locals := 0 } : Room) s m #[(.ref a1), (.long o0)] below meth c s₁ [] 0 0 := Stand.of_body Bd
  have e0 : s₁.heap = h0 := by rw [← hh, Bd.state]; rfl
  have N0 := Fr.nil n0
  obtain ⟨R0, hR0⟩ : ∃ R : State → Prop, R = fun t => Steps p.tables e below (s₁.setTop (entryFrame m #[(.ref a1), (.long o0)] 6)) t := ⟨_, rfl⟩
  have pre0 : ∀ t, Steps p.tables e below (s₁.setTop (mkF m 0 #[sR a1, sJ o0, sW, sU, sU, sU] [])) t → R0 t := fun t k => by rw [hR0]; exact castTop (own_ef_13j0 m a1 o0) k
  rcases hc with ⟨rfl, rfl⟩ | ⟨rfl, rfl⟩ | ⟨rfl, rfl⟩
  · obtain ⟨aw1, ao1, au1, ac1, kw1, ko1, cn1, Ex1, Fw1, Fo1, Fu1, Fc1, Fe1, Fh1, Ft1, Fs1, Fn1, Vw1, Ow1, Vo1, Uu1, Uc1, la1, lb1, lc1, ld1, gq1⟩ := id hQ
    have ne2 : a1 ≠ aw1 := Nat.ne_of_lt la1
    have lt3 : a1 < ao1 := (Nat.lt_trans la1 lb1)
    have ne4 : a1 ≠ ao1 := Nat.ne_of_lt lt3
    have lt5 : a1 < au1 := (Nat.lt_trans (Nat.lt_trans la1 lb1) lc1)
    have ne6 : a1 ≠ au1 := Nat.ne_of_lt lt5
    have lt7 : a1 < ac1 := (Nat.lt_trans (Nat.lt_trans (Nat.lt_trans la1 lb1) lc1) ld1)
    have ne8 : a1 ≠ ac1 := Nat.ne_of_lt lt7
    have ne9 : aw1 ≠ ao1 := Nat.ne_of_lt lb1
    have lt10 : aw1 < au1 := (Nat.lt_trans lb1 lc1)
    have ne11 : aw1 ≠ au1 := Nat.ne_of_lt lt10
    have lt12 : aw1 < ac1 := (Nat.lt_trans (Nat.lt_trans lb1 lc1) ld1)
    have ne13 : aw1 ≠ ac1 := Nat.ne_of_lt lt12
    have ne14 : ao1 ≠ au1 := Nat.ne_of_lt lc1
    have lt15 : ao1 < ac1 := (Nat.lt_trans lc1 ld1)
    have ne16 : ao1 ≠ ac1 := Nat.ne_of_lt lt15
    have ne17 : au1 ≠ ac1 := Nat.ne_of_lt ld1
    have g18 : n0 ≤ aw1 := Nat.le_trans gq1 (Nat.le_of_lt la1)
    have g19 : n0 ≤ ao1 := Nat.le_trans gq1 (Nat.le_of_lt lt3)
    have g20 : n0 ≤ au1 := Nat.le_trans gq1 (Nat.le_of_lt lt5)
    have g21 : n0 ≤ ac1 := Nat.le_trans gq1 (Nat.le_of_lt lt7)
    have pre22 : ∀ t, own_S p e below s₁ m 1 #[sR a1, sJ o0, sW, sU, sU, sU] [(.ref a1)] t → R0 t := fun t k => pre0 t (by
      refine XS.aloadN X0.here hx rfl (hb hby own_d13_0) rfl rfl ?_
      exact k)
    obtain ⟨T23, X23, e23, st23⟩ := getF X0 hx hZ hown (host := "") (Or.inl hw74) Via.refl e0 Fh1 (g := (mkF m 1 #[sR a1, sJ o0, sW, sU, sU, sU] [(.ref a1)])) rfl rfl (hb hby own_d13_1)
    have pre24 : ∀ t, own_S p e below T23 m 6 #[sR a1, sJ o0, sW, sI 0, sU, sU] [(.ref a1)] t → R0 t := fun t k => pre22 t (by
      refine st23 _ ?_
      refine XS.istoreN X23.here hx rfl (hb hby own_d13_4) rfl (l' := #[sR a1, sJ o0, sW, sI 0, sU, sU]) rfl ?_
      refine XS.aloadN X23.here hx rfl (hb hby own_d13_5) rfl rfl ?_
      exact k)
    obtain ⟨T25, X25, e25, st25⟩ := getF X23 hx hZ hown (host := "") (Or.inl hw66) Via.refl e23 Ft1 (g := (mkF m 6 #[sR a1, sJ o0, sW, sI 0, sU, sU] [(.ref a1)])) rfl rfl (hb hby own_d13_6)
    have pre26 : ∀ t, own_S p e below T25 m 26 #[sR a1, sJ o0, sW, sI 0, sI 1, sI 0] [(.ref a1)] t → R0 t := fun t k => pre24 t (by
      refine st25 _ ?_
      refine XS.istore X25.here hx rfl (hb hby own_d13_9) rfl (l' := #[sR a1, sJ o0, sW, sI 0, sI 1, sU]) rfl ?_
      refine XS.iloadN X25.here hx rfl (hb hby own_d13_11) rfl ?_
      refine XS.iload X25.here hx rfl (hb hby own_d13_12) rfl ?_
      refine XS.icmpNo X25.here hx rfl (hb hby own_d13_14) rfl (tlt (by decide : (0 : Int32) < (1 : Int32))).2.1 ?_
      refine XS.iloadN X25.here hx rfl (hb hby own_d13_17) rfl ?_
      refine XS.iload X25.here hx rfl (hb hby own_d13_18) rfl ?_
      refine XS.iadd X25.here hx rfl (hb hby own_d13_20) rfl ?_
      refine XS.iconst X25.here hx rfl (hb hby own_d13_21) ?_
      refine XS.iushr X25.here hx rfl (hb hby own_d13_22) rfl ?_
      refine XS.istore X25.here hx rfl (hb hby own_d13_23) rfl (l' := #[sR a1, sJ o0, sW, sI 0, sI 1, sI 0]) rfl ?_
      refine XS.aloadN X25.here hx rfl (hb hby own_d13_25) rfl rfl ?_
      exact k)
    obtain ⟨T27, X27, e27, st27⟩ := getF X25 hx hZ hown (host := "") (Or.inl hw35) Via.refl e25 Fo1 (g := (mkF m 26 #[sR a1, sJ o0, sW, sI 0, sI 1, sI 0] [(.ref a1)])) rfl rfl (hb hby own_d13_26)
    have pre28 : ∀ t, own_S p e below T27 m 31 #[sR a1, sJ o0, sW, sI 0, sI 1, sI 0] [(.int 0), (.ref ao1)] t → R0 t := fun t k => pre26 t (by
      refine st27 _ ?_
      refine XS.iload X27.here hx rfl (hb hby own_d13_29) rfl ?_
      exact k)
    obtain ⟨cl29, Ar29, q29, S29, N29, H29, G29⟩ := id Vo1
    have hin29 := inb_of (j := (0 : Int32)) S29 ⟨by decide, by decide⟩
    have pre30 : ∀ t, own_S p e below T27 m 34 #[sR a1, sJ o0, sW, sI 0, sI 1, sI 0] [(.int (lcmpW o0 o0))] t → R0 t := fun t k => pre28 t (by
      refine X27.laload hx (j := (0 : Int32)) (v := (.long o0)) (by rw [e27]; exact Ar29.1) (State.isArrayOf_alike hZ.alike Ar29.2.1) Ar29.2.2 hin29 (H29.at hin29 rfl) (g := (mkF m 31 #[sR a1, sJ o0, sW, sI 0, sI 1, sI 0] [(.int 0), (.ref ao1)])) rfl rfl (hb hby own_d13_31) _ ?_
      refine XS.lloadN X27.here hx rfl (hb hby own_d13_32) rfl ?_
      refine XS.lcmp X27.here hx rfl (hb hby own_d13_33) rfl ?_
      exact k)
    have hc31 : ¬ (o0 < o0) := Int64.lt_irrefl
    have pre32 : ∀ t, own_S p e below T27 m 53 #[sR a1, sJ o0, sW, sI 0, sI 0, sI 0] [(.int 0)] t → R0 t := fun t k => pre30 t (by
      refine XS.ifYes X27.here hx rfl (pc0 := 34) (pc' := 45) rfl (hb hby own_d13_34) rfl ((if0 _ _).trans (flt (mt (lw_lt _ _).mp hc31)).2.1) (by decide) (by decide) ?_
      refine XS.iload X27.here hx rfl (hb hby own_d13_45) rfl ?_
      refine XS.istore X27.here hx rfl (hb hby own_d13_47) rfl (l' := #[sR a1, sJ o0, sW, sI 0, sI 0, sI 0]) rfl ?_
      refine XS.goto X27.here hx rfl (pc0 := 49) (pc' := 11) rfl (hb hby own_d13_49) (by decide) (by decide) ?_
      refine XS.iloadN X27.here hx rfl (hb hby own_d13_11) rfl ?_
      refine XS.iload X27.here hx rfl (hb hby own_d13_12) rfl ?_
      refine XS.icmpYes X27.here hx rfl (pc0 := 14) (pc' := 52) rfl (hb hby own_d13_14) rfl (flt (by decide : ¬ ((0 : Int32) < (0 : Int32)))).2.1 (by decide) (by decide) ?_
      refine XS.iloadN X27.here hx rfl (hb hby own_d13_52) rfl ?_
      exact k)
    obtain ⟨fs, hr, hrun, hended, hW, hsame⟩ := X27.leave (v := some (.int 0)) (fun h => by rw [Bd.returns] at h; cases h)
    refine ⟨_, _, cast (congrFun hR0 _) (pre32 _ (retOut X27 hx Bd.returns rfl (Or.inl ⟨rfl, Or.inl rfl, _, rfl⟩) (hb hby own_d13_53) hr)), hrun, hended, _, _, rfl, ?_, ⟨_, rfl⟩, hW, hsame.mono (by decide) (by decide)⟩
    show own_Q13j0 Z _ _ _ _ _ _ _ _ _ _ h0 n0 _ T27.heap _
    rw [e27]
    exact ⟨rfl, N0, rfl⟩
  · have hq01 := hm.1 (by decide)
    obtain ⟨aw33, ao33, au33, ac33, kw33, ko33, cn33, Ex33, Fw33, Fo33, Fu33, Fc33, Fe33, Fh33, Ft33, Fs33, Fn33, Vw33, Ow33, Vo33, Uu33, Uc33, la33, lb33, lc33, ld33, gq33⟩ := id hQ
    have ne34 : a1 ≠ aw33 := Nat.ne_of_lt la33
    have lt35 : a1 < ao33 := (Nat.lt_trans la33 lb33)
    have ne36 : a1 ≠ ao33 := Nat.ne_of_lt lt35
    have lt37 : a1 < au33 := (Nat.lt_trans (Nat.lt_trans la33 lb33) lc33)
    have ne38 : a1 ≠ au33 := Nat.ne_of_lt lt37
    have lt39 : a1 < ac33 := (Nat.lt_trans (Nat.lt_trans (Nat.lt_trans la33 lb33) lc33) ld33)
    have ne40 : a1 ≠ ac33 := Nat.ne_of_lt lt39
    have ne41 : aw33 ≠ ao33 := Nat.ne_of_lt lb33
    have lt42 : aw33 < au33 := (Nat.lt_trans lb33 lc33)
    have ne43 : aw33 ≠ au33 := Nat.ne_of_lt lt42
    have lt44 : aw33 < ac33 := (Nat.lt_trans (Nat.lt_trans lb33 lc33) ld33)
    have ne45 : aw33 ≠ ac33 := Nat.ne_of_lt lt44
    have ne46 : ao33 ≠ au33 := Nat.ne_of_lt lc33
    have lt47 : ao33 < ac33 := (Nat.lt_trans lc33 ld33)
    have ne48 : ao33 ≠ ac33 := Nat.ne_of_lt lt47
    have ne49 : au33 ≠ ac33 := Nat.ne_of_lt ld33
    have g50 : n0 ≤ aw33 := Nat.le_trans gq33 (Nat.le_of_lt la33)
    have g51 : n0 ≤ ao33 := Nat.le_trans gq33 (Nat.le_of_lt lt35)
    have g52 : n0 ≤ au33 := Nat.le_trans gq33 (Nat.le_of_lt lt37)
    have g53 : n0 ≤ ac33 := Nat.le_trans gq33 (Nat.le_of_lt lt39)
    have pre54 : ∀ t, own_S p e below s₁ m 1 #[sR a1, sJ o0, sW, sU, sU, sU] [(.ref a1)] t → R0 t := fun t k => pre0 t (by
      refine XS.aloadN X0.here hx rfl (hb hby own_d13_0) rfl rfl ?_
      exact k)
    obtain ⟨T55, X55, e55, st55⟩ := getF X0 hx hZ hown (host := "") (Or.inl hw74) Via.refl e0 Fh33 (g := (mkF m 1 #[sR a1, sJ o0, sW, sU, sU, sU] [(.ref a1)])) rfl rfl (hb hby own_d13_1)
    have pre56 : ∀ t, own_S p e below T55 m 6 #[sR a1, sJ o0, sW, sI 0, sU, sU] [(.ref a1)] t → R0 t := fun t k => pre54 t (by
      refine st55 _ ?_
      refine XS.istoreN X55.here hx rfl (hb hby own_d13_4) rfl (l' := #[sR a1, sJ o0, sW, sI 0, sU, sU]) rfl ?_
      refine XS.aloadN X55.here hx rfl (hb hby own_d13_5) rfl rfl ?_
      exact k)
    obtain ⟨T57, X57, e57, st57⟩ := getF X55 hx hZ hown (host := "") (Or.inl hw66) Via.refl e55 Ft33 (g := (mkF m 6 #[sR a1, sJ o0, sW, sI 0, sU, sU] [(.ref a1)])) rfl rfl (hb hby own_d13_6)
    have pre58 : ∀ t, own_S p e below T57 m 26 #[sR a1, sJ o0, sW, sI 0, sI 2, sI 1] [(.ref a1)] t → R0 t := fun t k => pre56 t (by
      refine st57 _ ?_
      refine XS.istore X57.here hx rfl (hb hby own_d13_9) rfl (l' := #[sR a1, sJ o0, sW, sI 0, sI 2, sU]) rfl ?_
      refine XS.iloadN X57.here hx rfl (hb hby own_d13_11) rfl ?_
      refine XS.iload X57.here hx rfl (hb hby own_d13_12) rfl ?_
      refine XS.icmpNo X57.here hx rfl (hb hby own_d13_14) rfl (tlt (by decide : (0 : Int32) < (2 : Int32))).2.1 ?_
      refine XS.iloadN X57.here hx rfl (hb hby own_d13_17) rfl ?_
      refine XS.iload X57.here hx rfl (hb hby own_d13_18) rfl ?_
      refine XS.iadd X57.here hx rfl (hb hby own_d13_20) rfl ?_
      refine XS.iconst X57.here hx rfl (hb hby own_d13_21) ?_
      refine XS.iushr X57.here hx rfl (hb hby own_d13_22) rfl ?_
      refine XS.istore X57.here hx rfl (hb hby own_d13_23) rfl (l' := #[sR a1, sJ o0, sW, sI 0, sI 2, sI 1]) rfl ?_
      refine XS.aloadN X57.here hx rfl (hb hby own_d13_25) rfl rfl ?_
      exact k)
    obtain ⟨T59, X59, e59, st59⟩ := getF X57 hx hZ hown (host := "") (Or.inl hw35) Via.refl e57 Fo33 (g := (mkF m 26 #[sR a1, sJ o0, sW, sI 0, sI 2, sI 1] [(.ref a1)])) rfl rfl (hb hby own_d13_26)
    have pre60 : ∀ t, own_S p e below T59 m 31 #[sR a1, sJ o0, sW, sI 0, sI 2, sI 1] [(.int 1), (.ref ao33)] t → R0 t := fun t k => pre58 t (by
      refine st59 _ ?_
      refine XS.iload X59.here hx rfl (hb hby own_d13_29) rfl ?_
      exact k)
    obtain ⟨cl61, Ar61, q61, S61, N61, H61, G61⟩ := id Vo33
    have hin61 := inb_of (j := (1 : Int32)) S61 ⟨by decide, by decide⟩
    have pre62 : ∀ t, own_S p e below T59 m 34 #[sR a1, sJ o0, sW, sI 0, sI 2, sI 1] [(.int (lcmpW o1 o0))] t → R0 t := fun t k => pre60 t (by
      refine X59.laload hx (j := (1 : Int32)) (v := (.long o1)) (by rw [e59]; exact Ar61.1) (State.isArrayOf_alike hZ.alike Ar61.2.1) Ar61.2.2 hin61 (H61.at hin61 rfl) (g := (mkF m 31 #[sR a1, sJ o0, sW, sI 0, sI 2, sI 1] [(.int 1), (.ref ao33)])) rfl rfl (hb hby own_d13_31) _ ?_
      refine XS.lloadN X59.here hx rfl (hb hby own_d13_32) rfl ?_
      refine XS.lcmp X59.here hx rfl (hb hby own_d13_33) rfl ?_
      exact k)
    have hc63 : ¬ (o1 < o0) := fun q => Int64.lt_irrefl (Int64.lt_trans q hq01)
    have pre64 : ∀ t, own_S p e below T59 m 26 #[sR a1, sJ o0, sW, sI 0, sI 1, sI 0] [(.ref a1)] t → R0 t := fun t k => pre62 t (by
      refine XS.ifYes X59.here hx rfl (pc0 := 34) (pc' := 45) rfl (hb hby own_d13_34) rfl ((if0 _ _).trans (flt (mt (lw_lt _ _).mp hc63)).2.1) (by decide) (by decide) ?_
      refine XS.iload X59.here hx rfl (hb hby own_d13_45) rfl ?_
      refine XS.istore X59.here hx rfl (hb hby own_d13_47) rfl (l' := #[sR a1, sJ o0, sW, sI 0, sI 1, sI 1]) rfl ?_
      refine XS.goto X59.here hx rfl (pc0 := 49) (pc' := 11) rfl (hb hby own_d13_49) (by decide) (by decide) ?_
      refine XS.iloadN X59.here hx rfl (hb hby own_d13_11) rfl ?_
      refine XS.iload X59.here hx rfl (hb hby own_d13_12) rfl ?_
      refine XS.icmpNo X59.here hx rfl (hb hby own_d13_14) rfl (tlt (by decide : (0 : Int32) < (1 : Int32))).2.1 ?_
      refine XS.iloadN X59.here hx rfl (hb hby own_d13_17) rfl ?_
      refine XS.iload X59.here hx rfl (hb hby own_d13_18) rfl ?_
      refine XS.iadd X59.here hx rfl (hb hby own_d13_20) rfl ?_
      refine XS.iconst X59.here hx rfl (hb hby own_d13_21) ?_
      refine XS.iushr X59.here hx rfl (hb hby own_d13_22) rfl ?_
      refine XS.istore X59.here hx rfl (hb hby own_d13_23) rfl (l' := #[sR a1, sJ o0, sW, sI 0, sI 1, sI 0]) rfl ?_
      refine XS.aloadN X59.here hx rfl (hb hby own_d13_25) rfl rfl ?_
      exact k)
    obtain ⟨T65, X65, e65, st65⟩ := getF X59 hx hZ hown (host := "") (Or.inl hw35) Via.refl e59 Fo33 (g := (mkF m 26 #[sR a1, sJ o0, sW, sI 0, sI 1, sI 0] [(.ref a1)])) rfl rfl (hb hby own_d13_26)
    have pre66 : ∀ t, own_S p e below T65 m 31 #[sR a1, sJ o0, sW, sI 0, sI 1, sI 0] [(.int 0), (.ref ao33)] t → R0 t := fun t k => pre64 t (by
      refine st65 _ ?_
      refine XS.iload X65.here hx rfl (hb hby own_d13_29) rfl ?_
      exact k)
    obtain ⟨cl67, Ar67, q67, S67, N67, H67, G67⟩ := id Vo33
    have hin67 := inb_of (j := (0 : Int32)) S67 ⟨by decide, by decide⟩
    have pre68 : ∀ t, own_S p e below T65 m 34 #[sR a1, sJ o0, sW, sI 0, sI 1, sI 0] [(.int (lcmpW o0 o0))] t → R0 t := fun t k => pre66 t (by
      refine X65.laload hx (j := (0 : Int32)) (v := (.long o0)) (by rw [e65]; exact Ar67.1) (State.isArrayOf_alike hZ.alike Ar67.2.1) Ar67.2.2 hin67 (H67.at hin67 rfl) (g := (mkF m 31 #[sR a1, sJ o0, sW, sI 0, sI 1, sI 0] [(.int 0), (.ref ao33)])) rfl rfl (hb hby own_d13_31) _ ?_
      refine XS.lloadN X65.here hx rfl (hb hby own_d13_32) rfl ?_
      refine XS.lcmp X65.here hx rfl (hb hby own_d13_33) rfl ?_
      exact k)
    have hc69 : ¬ (o0 < o0) := Int64.lt_irrefl
    have pre70 : ∀ t, own_S p e below T65 m 53 #[sR a1, sJ o0, sW, sI 0, sI 0, sI 0] [(.int 0)] t → R0 t := fun t k => pre68 t (by
      refine XS.ifYes X65.here hx rfl (pc0 := 34) (pc' := 45) rfl (hb hby own_d13_34) rfl ((if0 _ _).trans (flt (mt (lw_lt _ _).mp hc69)).2.1) (by decide) (by decide) ?_
      refine XS.iload X65.here hx rfl (hb hby own_d13_45) rfl ?_
      refine XS.istore X65.here hx rfl (hb hby own_d13_47) rfl (l' := #[sR a1, sJ o0, sW, sI 0, sI 0, sI 0]) rfl ?_
      refine XS.goto X65.here hx rfl (pc0 := 49) (pc' := 11) rfl (hb hby own_d13_49) (by decide) (by decide) ?_
      refine XS.iloadN X65.here hx rfl (hb hby own_d13_11) rfl ?_
      refine XS.iload X65.here hx rfl (hb hby own_d13_12) rfl ?_
      refine XS.icmpYes X65.here hx rfl (pc0 := 14) (pc' := 52) rfl (hb hby own_d13_14) rfl (flt (by decide : ¬ ((0 : Int32) < (0 : Int32)))).2.1 (by decide) (by decide) ?_
      refine XS.iloadN X65.here hx rfl (hb hby own_d13_52) rfl ?_
      exact k)
    obtain ⟨fs, hr, hrun, hended, hW, hsame⟩ := X65.leave (v := some (.int 0)) (fun h => by rw [Bd.returns] at h; cases h)
    refine ⟨_, _, cast (congrFun hR0 _) (pre70 _ (retOut X65 hx Bd.returns rfl (Or.inl ⟨rfl, Or.inl rfl, _, rfl⟩) (hb hby own_d13_53) hr)), hrun, hended, _, _, rfl, ?_, ⟨_, rfl⟩, hW, hsame.mono (by decide) (by decide)⟩
    show own_Q13j0 Z _ _ _ _ _ _ _ _ _ _ h0 n0 _ T65.heap _
    rw [e65]
    exact ⟨rfl, N0, rfl⟩
  · have hq01 := hm.1 (by decide)
    have hq12 := hm.2 (by decide)
    have hq02 := Int64.lt_trans hq01 hq12
    obtain ⟨aw71, ao71, au71, ac71, kw71, ko71, cn71, Ex71, Fw71, Fo71, Fu71, Fc71, Fe71, Fh71, Ft71, Fs71, Fn71, Vw71, Ow71, Vo71, Uu71, Uc71, la71, lb71, lc71, ld71, gq71⟩ := id hQ
    have ne72 : a1 ≠ aw71 := Nat.ne_of_lt la71
    have lt73 : a1 < ao71 := (Nat.lt_trans la71 lb71)
    have ne74 : a1 ≠ ao71 := Nat.ne_of_lt lt73
    have lt75 : a1 < au71 := (Nat.lt_trans (Nat.lt_trans la71 lb71) lc71)
    have ne76 : a1 ≠ au71 := Nat.ne_of_lt lt75
    have lt77 : a1 < ac71 := (Nat.lt_trans (Nat.lt_trans (Nat.lt_trans la71 lb71) lc71) ld71)
    have ne78 : a1 ≠ ac71 := Nat.ne_of_lt lt77
    have ne79 : aw71 ≠ ao71 := Nat.ne_of_lt lb71
    have lt80 : aw71 < au71 := (Nat.lt_trans lb71 lc71)
    have ne81 : aw71 ≠ au71 := Nat.ne_of_lt lt80
    have lt82 : aw71 < ac71 := (Nat.lt_trans (Nat.lt_trans lb71 lc71) ld71)
    have ne83 : aw71 ≠ ac71 := Nat.ne_of_lt lt82
    have ne84 : ao71 ≠ au71 := Nat.ne_of_lt lc71
    have lt85 : ao71 < ac71 := (Nat.lt_trans lc71 ld71)
    have ne86 : ao71 ≠ ac71 := Nat.ne_of_lt lt85
    have ne87 : au71 ≠ ac71 := Nat.ne_of_lt ld71
    have g88 : n0 ≤ aw71 := Nat.le_trans gq71 (Nat.le_of_lt la71)
    have g89 : n0 ≤ ao71 := Nat.le_trans gq71 (Nat.le_of_lt lt73)
    have g90 : n0 ≤ au71 := Nat.le_trans gq71 (Nat.le_of_lt lt75)
    have g91 : n0 ≤ ac71 := Nat.le_trans gq71 (Nat.le_of_lt lt77)
    have pre92 : ∀ t, own_S p e below s₁ m 1 #[sR a1, sJ o0, sW, sU, sU, sU] [(.ref a1)] t → R0 t := fun t k => pre0 t (by
      refine XS.aloadN X0.here hx rfl (hb hby own_d13_0) rfl rfl ?_
      exact k)
    obtain ⟨T93, X93, e93, st93⟩ := getF X0 hx hZ hown (host := "") (Or.inl hw74) Via.refl e0 Fh71 (g := (mkF m 1 #[sR a1, sJ o0, sW, sU, sU, sU] [(.ref a1)])) rfl rfl (hb hby own_d13_1)
    have pre94 : ∀ t, own_S p e below T93 m 6 #[sR a1, sJ o0, sW, sI 0, sU, sU] [(.ref a1)] t → R0 t := fun t k => pre92 t (by
      refine st93 _ ?_
      refine XS.istoreN X93.here hx rfl (hb hby own_d13_4) rfl (l' := #[sR a1, sJ o0, sW, sI 0, sU, sU]) rfl ?_
      refine XS.aloadN X93.here hx rfl (hb hby own_d13_5) rfl rfl ?_
      exact k)
    obtain ⟨T95, X95, e95, st95⟩ := getF X93 hx hZ hown (host := "") (Or.inl hw66) Via.refl e93 Ft71 (g := (mkF m 6 #[sR a1, sJ o0, sW, sI 0, sU, sU] [(.ref a1)])) rfl rfl (hb hby own_d13_6)
    have pre96 : ∀ t, own_S p e below T95 m 26 #[sR a1, sJ o0, sW, sI 0, sI 3, sI 1] [(.ref a1)] t → R0 t := fun t k => pre94 t (by
      refine st95 _ ?_
      refine XS.istore X95.here hx rfl (hb hby own_d13_9) rfl (l' := #[sR a1, sJ o0, sW, sI 0, sI 3, sU]) rfl ?_
      refine XS.iloadN X95.here hx rfl (hb hby own_d13_11) rfl ?_
      refine XS.iload X95.here hx rfl (hb hby own_d13_12) rfl ?_
      refine XS.icmpNo X95.here hx rfl (hb hby own_d13_14) rfl (tlt (by decide : (0 : Int32) < (3 : Int32))).2.1 ?_
      refine XS.iloadN X95.here hx rfl (hb hby own_d13_17) rfl ?_
      refine XS.iload X95.here hx rfl (hb hby own_d13_18) rfl ?_
      refine XS.iadd X95.here hx rfl (hb hby own_d13_20) rfl ?_
      refine XS.iconst X95.here hx rfl (hb hby own_d13_21) ?_
      refine XS.iushr X95.here hx rfl (hb hby own_d13_22) rfl ?_
      refine XS.istore X95.here hx rfl (hb hby own_d13_23) rfl (l' := #[sR a1, sJ o0, sW, sI 0, sI 3, sI 1]) rfl ?_
      refine XS.aloadN X95.here hx rfl (hb hby own_d13_25) rfl rfl ?_
      exact k)
    obtain ⟨T97, X97, e97, st97⟩ := getF X95 hx hZ hown (host := "") (Or.inl hw35) Via.refl e95 Fo71 (g := (mkF m 26 #[sR a1, sJ o0, sW, sI 0, sI 3, sI 1] [(.ref a1)])) rfl rfl (hb hby own_d13_26)
    have pre98 : ∀ t, own_S p e below T97 m 31 #[sR a1, sJ o0, sW, sI 0, sI 3, sI 1] [(.int 1), (.ref ao71)] t → R0 t := fun t k => pre96 t (by
      refine st97 _ ?_
      refine XS.iload X97.here hx rfl (hb hby own_d13_29) rfl ?_
      exact k)
    obtain ⟨cl99, Ar99, q99, S99, N99, H99, G99⟩ := id Vo71
    have hin99 := inb_of (j := (1 : Int32)) S99 ⟨by decide, by decide⟩
    have pre100 : ∀ t, own_S p e below T97 m 34 #[sR a1, sJ o0, sW, sI 0, sI 3, sI 1] [(.int (lcmpW o1 o0))] t → R0 t := fun t k => pre98 t (by
      refine X97.laload hx (j := (1 : Int32)) (v := (.long o1)) (by rw [e97]; exact Ar99.1) (State.isArrayOf_alike hZ.alike Ar99.2.1) Ar99.2.2 hin99 (H99.at hin99 rfl) (g := (mkF m 31 #[sR a1, sJ o0, sW, sI 0, sI 3, sI 1] [(.int 1), (.ref ao71)])) rfl rfl (hb hby own_d13_31) _ ?_
      refine XS.lloadN X97.here hx rfl (hb hby own_d13_32) rfl ?_
      refine XS.lcmp X97.here hx rfl (hb hby own_d13_33) rfl ?_
      exact k)
    have hc101 : ¬ (o1 < o0) := fun q => Int64.lt_irrefl (Int64.lt_trans q hq01)
    have pre102 : ∀ t, own_S p e below T97 m 26 #[sR a1, sJ o0, sW, sI 0, sI 1, sI 0] [(.ref a1)] t → R0 t := fun t k => pre100 t (by
      refine XS.ifYes X97.here hx rfl (pc0 := 34) (pc' := 45) rfl (hb hby own_d13_34) rfl ((if0 _ _).trans (flt (mt (lw_lt _ _).mp hc101)).2.1) (by decide) (by decide) ?_
      refine XS.iload X97.here hx rfl (hb hby own_d13_45) rfl ?_
      refine XS.istore X97.here hx rfl (hb hby own_d13_47) rfl (l' := #[sR a1, sJ o0, sW, sI 0, sI 1, sI 1]) rfl ?_
      refine XS.goto X97.here hx rfl (pc0 := 49) (pc' := 11) rfl (hb hby own_d13_49) (by decide) (by decide) ?_
      refine XS.iloadN X97.here hx rfl (hb hby own_d13_11) rfl ?_
      refine XS.iload X97.here hx rfl (hb hby own_d13_12) rfl ?_
      refine XS.icmpNo X97.here hx rfl (hb hby own_d13_14) rfl (tlt (by decide : (0 : Int32) < (1 : Int32))).2.1 ?_
      refine XS.iloadN X97.here hx rfl (hb hby own_d13_17) rfl ?_
      refine XS.iload X97.here hx rfl (hb hby own_d13_18) rfl ?_
      refine XS.iadd X97.here hx rfl (hb hby own_d13_20) rfl ?_
      refine XS.iconst X97.here hx rfl (hb hby own_d13_21) ?_
      refine XS.iushr X97.here hx rfl (hb hby own_d13_22) rfl ?_
      refine XS.istore X97.here hx rfl (hb hby own_d13_23) rfl (l' := #[sR a1, sJ o0, sW, sI 0, sI 1, sI 0]) rfl ?_
      refine XS.aloadN X97.here hx rfl (hb hby own_d13_25) rfl rfl ?_
      exact k)
    obtain ⟨T103, X103, e103, st103⟩ := getF X97 hx hZ hown (host := "") (Or.inl hw35) Via.refl e97 Fo71 (g := (mkF m 26 #[sR a1, sJ o0, sW, sI 0, sI 1, sI 0] [(.ref a1)])) rfl rfl (hb hby own_d13_26)
    have pre104 : ∀ t, own_S p e below T103 m 31 #[sR a1, sJ o0, sW, sI 0, sI 1, sI 0] [(.int 0), (.ref ao71)] t → R0 t := fun t k => pre102 t (by
      refine st103 _ ?_
      refine XS.iload X103.here hx rfl (hb hby own_d13_29) rfl ?_
      exact k)
    obtain ⟨cl105, Ar105, q105, S105, N105, H105, G105⟩ := id Vo71
    have hin105 := inb_of (j := (0 : Int32)) S105 ⟨by decide, by decide⟩
    have pre106 : ∀ t, own_S p e below T103 m 34 #[sR a1, sJ o0, sW, sI 0, sI 1, sI 0] [(.int (lcmpW o0 o0))] t → R0 t := fun t k => pre104 t (by
      refine X103.laload hx (j := (0 : Int32)) (v := (.long o0)) (by rw [e103]; exact Ar105.1) (State.isArrayOf_alike hZ.alike Ar105.2.1) Ar105.2.2 hin105 (H105.at hin105 rfl) (g := (mkF m 31 #[sR a1, sJ o0, sW, sI 0, sI 1, sI 0] [(.int 0), (.ref ao71)])) rfl rfl (hb hby own_d13_31) _ ?_
      refine XS.lloadN X103.here hx rfl (hb hby own_d13_32) rfl ?_
      refine XS.lcmp X103.here hx rfl (hb hby own_d13_33) rfl ?_
      exact k)
    have hc107 : ¬ (o0 < o0) := Int64.lt_irrefl
    have pre108 : ∀ t, own_S p e below T103 m 53 #[sR a1, sJ o0, sW, sI 0, sI 0, sI 0] [(.int 0)] t → R0 t := fun t k => pre106 t (by
      refine XS.ifYes X103.here hx rfl (pc0 := 34) (pc' := 45) rfl (hb hby own_d13_34) rfl ((if0 _ _).trans (flt (mt (lw_lt _ _).mp hc107)).2.1) (by decide) (by decide) ?_
      refine XS.iload X103.here hx rfl (hb hby own_d13_45) rfl ?_
      refine XS.istore X103.here hx rfl (hb hby own_d13_47) rfl (l' := #[sR a1, sJ o0, sW, sI 0, sI 0, sI 0]) rfl ?_
      refine XS.goto X103.here hx rfl (pc0 := 49) (pc' := 11) rfl (hb hby own_d13_49) (by decide) (by decide) ?_
      refine XS.iloadN X103.here hx rfl (hb hby own_d13_11) rfl ?_
      refine XS.iload X103.here hx rfl (hb hby own_d13_12) rfl ?_
      refine XS.icmpYes X103.here hx rfl (pc0 := 14) (pc' := 52) rfl (hb hby own_d13_14) rfl (flt (by decide : ¬ ((0 : Int32) < (0 : Int32)))).2.1 (by decide) (by decide) ?_
      refine XS.iloadN X103.here hx rfl (hb hby own_d13_52) rfl ?_
      exact k)
    obtain ⟨fs, hr, hrun, hended, hW, hsame⟩ := X103.leave (v := some (.int 0)) (fun h => by rw [Bd.returns] at h; cases h)
    refine ⟨_, _, cast (congrFun hR0 _) (pre108 _ (retOut X103 hx Bd.returns rfl (Or.inl ⟨rfl, Or.inl rfl, _, rfl⟩) (hb hby own_d13_53) hr)), hrun, hended, _, _, rfl, ?_, ⟨_, rfl⟩, hW, hsame.mono (by decide) (by decide)⟩
    show own_Q13j0 Z _ _ _ _ _ _ _ _ _ _ h0 n0 _ T103.heap _
    rw [e103]
    exact ⟨rfl, N0, rfl⟩
theorem own_pd_3 : parseMethodDescriptor "(J)I" = some ⟨[.long], some .int⟩ := by decide +kernel
theorem own_d12_0 : decode prog_63_method_14_code 0 = .ok (.aload_n 0, 1) := by decide +kernel
theorem own_d12_1 : decode prog_63_method_14_code 1 = .ok (.aload_n 1, 1) := by decide +kernel
theorem own_d12_2 : decode prog_63_method_14_code 2 = .ok (.invokevirtual 45, 3) := by decide +kernel
theorem own_d12_5 : decode prog_63_method_14_code 5 = .ok (.invokevirtual 87, 3) := by decide +kernel
theorem own_d12_8 : decode prog_63_method_14_code 8 = .ok (.istore_n 2, 1) := by decide +kernel
theorem own_d12_9 : decode prog_63_method_14_code 9 = .ok (.iload_n 2, 1) := by decide +kernel
theorem own_d12_10 : decode prog_63_method_14_code 10 = .ok (.aload_n 0, 1) := by decide +kernel
theorem own_d12_11 : decode prog_63_method_14_code 11 = .ok (.getfield 38, 3) := by decide +kernel
theorem own_d12_14 : decode prog_63_method_14_code 14 = .ok (.if_icmp .ge 17, 3) := by decide +kernel
theorem own_d12_17 : decode prog_63_method_14_code 17 = .ok (.aload_n 0, 1) := by decide +kernel
theorem own_d12_18 : decode prog_63_method_14_code 18 = .ok (.getfield 14, 3) := by decide +kernel
theorem own_d12_21 : decode prog_63_method_14_code 21 = .ok (.iload_n 2, 1) := by decide +kernel
theorem own_d12_22 : decode prog_63_method_14_code 22 = .ok (.aaload, 1) := by decide +kernel
theorem own_d12_23 : decode prog_63_method_14_code 23 = .ok (.aload_n 1, 1) := by decide +kernel
theorem own_d12_24 : decode prog_63_method_14_code 24 = .ok (.if_acmp .ne 7, 3) := by decide +kernel
theorem own_d12_27 : decode prog_63_method_14_code 27 = .ok (.iload_n 2, 1) := by decide +kernel
theorem own_d12_28 : decode prog_63_method_14_code 28 = .ok (.goto 4, 3) := by decide +kernel
theorem own_d12_32 : decode prog_63_method_14_code 32 = .ok (.ireturn, 1) := by decide +kernel
theorem own_ef_12j0 (m : MethodId) (x0 : Addr) (x1 : Addr) : entryFrame m #[(.ref x0), (.ref x1)] 3 = mkF m 0 #[sR x0, sR x1, .unset] [] := by first | (simp [entryFrame, mkF, argsToLocals, Value.category]; done) | rfl
def own_Q12j0 (Z : State) (a1 : Addr) (a2 : Addr) (x1 : Value) (x2 : Value) (o0 : Int64) (o1 : Int64) (o2 : Int64) (hd : Int32) (tl : Int32) (sz : Int32) (h0 : Heap) (n0 : Nat) (v : Option Value) (h : Heap) (L : List Loc) : Prop := v = some (.int 0) ∧ Fr n0 L ∧ h = h0
abbrev own_y9 : MethodName := ⟨"com/example/adlim/adlim/client/WaiterQueue", "slotOf", "(Lcom/example/adlim/adlim/client/Waiter;)I"⟩
set_option maxRecDepth 65536 in
set_option maxHeartbeats 40000000 in
theorem own_rm12j0 (l : Launch) (Z : State) (a0 : Array Value) (hw : ∀ d ∈ tables_1, d.before a0 Z = true) (ws : List Jvm.Cond) (a1 : Addr) (a2 : Addr) (x1 : Value) (x2 : Value) (o0 : Int64) (o1 : Int64) (o2 : Int64) (hd : Int32) (tl : Int32) (sz : Int32) (h0 : Heap) (n0 : Nat) (Z0 : n0 ≤ h0.size) (hQ : own_QI Z h0 n0 a1 (.ref a2) x1 x2 o0 o1 o2 hd tl sz) (E_a2 : Exa Z h0 a2 "com/example/adlim/adlim/client/Waiter") (F_order_a2 : Fld Z h0 a2 "com/example/adlim/adlim/client/Waiter" "order" "J" (.long o0)) (hc : (hd = (0 : Int32) ∧ tl = (1 : Int32)) ∨ (hd = (0 : Int32) ∧ tl = (2 : Int32)) ∨ (hd = (0 : Int32) ∧ tl = (3 : Int32))) (hm : ((1 : Int32) < tl → o0 < o1) ∧ ((2 : Int32) < tl → o1 < o2)) :
    MetFree l own_y9 (head1 (Jvm.Cond.code own_y9 prog_63_method_14_code 3 (some .int) :: ws) ({ frames := 1, cells := 0, slots := 0, locals := 17 } : Room)) (fun a U => a = #[(.ref a1), (.ref a2)] ∧ Z.Warmed39 U.vm ∧ U.heap = h0) (fun _ _ _ _ _ => True) (fun _ U o U' => ∃ v L, o = .returned v ∧ own_Q12j0 Z a1 a2 x1 x2 o0 o1 o2 hd tl sz h0 n0 v U'.heap L ∧ FrameEnd U o U' L ({ frames := 1, cells := 0, slots := 0, locals := 17 } : Room).cells ({ frames := 1, cells := 0, slots := 0, locals := 17 } : Room).slots) := by
  refine MetFree.of_bodySF (plainFor_of_name own_pn_2) hisR ?_
  intro p e s m args below meth c s₁ Bd hml0 hP hK
  obtain ⟨rfl, hZ, hh⟩ := hP
  have hw2 := hw _ (List.mem_of_getElem? (i := 2) rfl)
  have hw24 := hw _ (List.mem_of_getElem? (i := 24) rfl)
  have hw25 := hw _ (List.mem_of_getElem? (i := 25) rfl)
  have hw32 := hw _ (List.mem_of_getElem? (i := 32) rfl)
  have hw66 := hw _ (List.mem_of_getElem? (i := 66) rfl)
  have hw69 := hw _ (List.mem_of_getElem? (i := 69) rfl)
  have hw70 := hw _ (List.mem_of_getElem? (i := 70) rfl)
  have hw71 := hw _ (List.mem_of_getElem? (i := 71) rfl)
  have hw72 := hw _ (List.mem_of_getElem? (i := 72) rfl)
  have hw73 := hw _ (List.mem_of_getElem? (i := 73) rfl)
  have hw91 := hw _ (List.mem_of_getElem? (i := 91) rfl)
  have hw92 := hw _ (List.mem_of_getElem? (i := 92) rfl)
  have hw93 := hw _ (List.mem_of_getElem? (i := 93) rfl)
  have hw94 := hw _ (List.mem_of_getElem? (i := 94) rfl)
  have hx := Bd.exec
  have hby := Bd.bytes
  have hml : c.maxLocals = 3 := hml0
  have hown : s.vm.findClass "com/example/adlim/adlim/client/WaiterQueue" = some m.cls := findClass_of_methodNamed Bd.named
  have hnm := (name_of_methodNamed Bd.named Bd.method).1
  have X0 : Stand p l e ({ frames := 1, cells := 0, slots := 0, locals := 17 } : Room) s m #[(.ref a1), (.ref a2)] below meth c s₁ [] 0 0 := Stand.of_body Bd
  have e0 : s₁.heap = h0 := by rw [← hh, Bd.state]; rfl
  have N0 := Fr.nil n0
  obtain ⟨R0, hR0⟩ : ∃ R : State → Prop, R = fun t => Steps p.tables e below (s₁.setTop (entryFrame m #[(.ref a1), (.ref a2)] 3)) t := ⟨_, rfl⟩
  have pre0 : ∀ t, Steps p.tables e below (s₁.setTop (mkF m 0 #[sR a1, sR a2, sU] [])) t → R0 t := fun t k => by rw [hR0]; exact castTop (own_ef_12j0 m a1 a2) k
  obtain ⟨aw1, ao1, au1, ac1, kw1, ko1, cn1, Ex1, Fw1, Fo1, Fu1, Fc1, Fe1, Fh1, Ft1, Fs1, Fn1, Vw1, Ow1, Vo1, Uu1, Uc1, la1, lb1, lc1, ld1, gq1⟩ := id hQ
  have ne2 : a1 ≠ aw1 := Nat.ne_of_lt la1
  have lt3 : a1 < ao1 := (Nat.lt_trans la1 lb1)
  have ne4 : a1 ≠ ao1 := Nat.ne_of_lt lt3
  have lt5 : a1 < au1 := (Nat.lt_trans (Nat.lt_trans la1 lb1) lc1)
  have ne6 : a1 ≠ au1 := Nat.ne_of_lt lt5
  have lt7 : a1 < ac1 := (Nat.lt_trans (Nat.lt_trans (Nat.lt_trans la1 lb1) lc1) ld1)
  have ne8 : a1 ≠ ac1 := Nat.ne_of_lt lt7
  have ne9 : aw1 ≠ ao1 := Nat.ne_of_lt lb1
  have lt10 : aw1 < au1 := (Nat.lt_trans lb1 lc1)
  have ne11 : aw1 ≠ au1 := Nat.ne_of_lt lt10
  have lt12 : aw1 < ac1 := (Nat.lt_trans (Nat.lt_trans lb1 lc1) ld1)
  have ne13 : aw1 ≠ ac1 := Nat.ne_of_lt lt12
  have ne14 : ao1 ≠ au1 := Nat.ne_of_lt lc1
  have lt15 : ao1 < ac1 := (Nat.lt_trans lc1 ld1)
  have ne16 : ao1 ≠ ac1 := Nat.ne_of_lt lt15
  have ne17 : au1 ≠ ac1 := Nat.ne_of_lt ld1
  have g18 : n0 ≤ aw1 := Nat.le_trans gq1 (Nat.le_of_lt la1)
  have g19 : n0 ≤ ao1 := Nat.le_trans gq1 (Nat.le_of_lt lt3)
  have g20 : n0 ≤ au1 := Nat.le_trans gq1 (Nat.le_of_lt lt5)
  have g21 : n0 ≤ ac1 := Nat.le_trans gq1 (Nat.le_of_lt lt7)
  have pre22 : ∀ t, own_S p e below s₁ m 2 #[sR a1, sR a2, sU] [(.ref a2), (.ref a1)] t → R0 t := fun t k => pre0 t (by
    refine XS.aloadN X0.here hx rfl (hb hby own_d12_0) rfl rfl ?_
    refine XS.aloadN X0.here hx rfl (hb hby own_d12_1) rfl rfl ?_
    exact k)
  obtain ⟨cq23, kq23, q23a, q23b, q23c⟩ := isOf hZ e0 E_a2
  obtain ⟨_, _, ⟨T23, L23, k23, n23⟩, -, X23, ⟨Lc23, hQ23, l23, y23, z23⟩, st23⟩ := X0.virtualBack hx (y := own_y2) (z := own_y2) hown (mvT hZ hw69) (mvT hZ hw70) (notFace_of_selects (args := #[]) (mvT hZ hw72)) (mvT hZ hw72) (mvT hZ hw71) (by decide) (backOf (W := 1) (own_rm9 l Z a0 hw [] a2 o0 h0 n0 Z0 F_order_a2) hZ hw73 hw2 (by decide) (by decide)) q23a q23c (g := (mkF m 2 #[sR a1, sR a2, sU] [(.ref a2), (.ref a1)])) rfl (by rw [hml]; rfl) (Steps.refl _) (argsL := []) (rest := [(.ref a1)]) (lenOf own_pd_1 rfl) rfl (by show 2 * 0 + _ ≤ _; exact Nat.le_of_eq rfl) (hb hby own_d12_2) (fun _ _ => ⟨rfl, e0, (by decide : 0 + 0 ≤ _), (by decide : 0 + 0 ≤ _)⟩)
  dsimp only [Pt.U, Pt.locs, Pt.cells, Pt.slots] at X23 l23 y23 z23 st23 hQ23
  subst l23 y23 z23
  obtain ⟨rfl, N23q, eh23⟩ := hQ23
  have N23 := Fr.app N0 N23q
  have pre24 : ∀ t, own_S p e below T23 m 5 #[sR a1, sR a2, sU] [(.long o0), (.ref a1)] t → R0 t := fun t k => pre22 t (by
    refine st23.trans ?_
    exact k)
  have Q25 : own_QI Z h0 n0 a1 (.ref a2) x1 x2 o0 o1 o2 hd tl sz := ⟨aw1, ao1, au1, ac1, kw1, ko1, cn1, Ex1, Fw1, Fo1, Fu1, Fc1, Fe1, Fh1, Ft1, Fs1, Fn1, Vw1, Ow1, Vo1, Uu1, Uc1, la1, lb1, lc1, ld1, gq1⟩
  have hp26 : (hd = (0 : Int32) ∧ tl = (1 : Int32)) ∨ (hd = (0 : Int32) ∧ tl = (2 : Int32)) ∨ (hd = (0 : Int32) ∧ tl = (3 : Int32)) := hc
  have hp27 : ((1 : Int32) < tl → o0 < o1) ∧ ((2 : Int32) < tl → o1 < o2) := hm
  obtain ⟨cq28, q28, q28'⟩ := Ex1.cell
  obtain ⟨_, _, ⟨T28, L28, k28, n28⟩, -, X28, ⟨Lc28, hQ28, l28, y28, z28⟩, st28⟩ := X23.privateBack hx (y := own_y8) hown (mvT hZ hw91) (mvT hZ hw92) (own_selp hZ hw24 hw93 hw92 (by decide)) (Cond.privateMethod_at (mvP hZ hw93 (args := #[]))) (mvT hZ hw94) (by decide) (backOf (W := 0) (own_rm13j0 l Z a0 hw [] a1 o0 (.ref a2) x1 x2 o1 o2 hd tl sz h0 n0 Z0 Q25 hp26 hp27) hZ hw94 hw25 (by decide) (by decide)) (g := (mkF m 5 #[sR a1, sR a2, sU] [(.long o0), (.ref a1)])) rfl (by rw [hml]; rfl) (Steps.refl _) (a := a1) (by rw [eh23]; exact q28) q28' (argsL := [(.long o0)]) (rest := []) (lenOf own_pd_3 rfl) rfl (by show 2 * 0 + _ ≤ _; exact Nat.le_of_eq rfl) (hb hby own_d12_5) (fun _ _ => ⟨rfl, eh23, (by decide : 0 + 0 ≤ _), (by decide : 0 + 0 ≤ _)⟩)
  dsimp only [Pt.U, Pt.locs, Pt.cells, Pt.slots] at X28 l28 y28 z28 st28 hQ28
  subst l28 y28 z28
  obtain ⟨rfl, N28q, eh28⟩ := hQ28
  have N28 := Fr.app N23 N28q
  have pre29 : ∀ t, own_S p e below T28 m 11 #[sR a1, sR a2, sI 0] [(.ref a1), (.int 0)] t → R0 t := fun t k => pre24 t (by
    refine st28.trans ?_
    refine XS.istoreN X28.here hx rfl (hb hby own_d12_8) rfl (l' := #[sR a1, sR a2, sI 0]) rfl ?_
    refine XS.iloadN X28.here hx rfl (hb hby own_d12_9) rfl ?_
    refine XS.aloadN X28.here hx rfl (hb hby own_d12_10) rfl rfl ?_
    exact k)
  obtain ⟨T30, X30, e30, st30⟩ := getF X28 hx hZ hown (host := "") (Or.inl hw66) Via.refl eh28 Ft1 (g := (mkF m 11 #[sR a1, sR a2, sI 0] [(.ref a1), (.int 0)])) rfl rfl (hb hby own_d12_11)
  have pre31 : ∀ t, own_S p e below T30 m 14 #[sR a1, sR a2, sI 0] [(.int tl), (.int 0)] t → R0 t := fun t k => pre29 t (by
    refine st30 _ ?_
    exact k)
  have hc32 : (0 : Int32) < tl := by rcases hc with ⟨-, rfl⟩ | ⟨-, rfl⟩ | ⟨-, rfl⟩ <;> decide
  have pre33 : ∀ t, own_S p e below T30 m 18 #[sR a1, sR a2, sI 0] [(.ref a1)] t → R0 t := fun t k => pre31 t (by
    refine XS.icmpNo X30.here hx rfl (hb hby own_d12_14) rfl (tlt hc32).2.1 ?_
    refine XS.aloadN X30.here hx rfl (hb hby own_d12_17) rfl rfl ?_
    exact k)
  obtain ⟨T34, X34, e34, st34⟩ := getF X30 hx hZ hown (host := "") (Or.inl hw32) Via.refl e30 Fw1 (g := (mkF m 18 #[sR a1, sR a2, sI 0] [(.ref a1)])) rfl rfl (hb hby own_d12_18)
  have pre35 : ∀ t, own_S p e below T34 m 22 #[sR a1, sR a2, sI 0] [(.int 0), (.ref aw1)] t → R0 t := fun t k => pre33 t (by
    refine st34 _ ?_
    refine XS.iloadN X34.here hx rfl (hb hby own_d12_21) rfl ?_
    exact k)
  obtain ⟨cl36, Ar36, q36, S36, N36, H36, G36⟩ := id Vw1
  have hin36 := inb_of (j := (0 : Int32)) S36 ⟨by decide, by decide⟩
  have pre37 : ∀ t, own_S p e below T34 m 32 #[sR a1, sR a2, sI 0] [(.int 0)] t → R0 t := fun t k => pre35 t (by
    refine X34.aaload hx (j := (0 : Int32)) (v := (.ref a2)) (by rw [e34]; exact Ar36.1) (State.isArrayOf_alike hZ.alike Ar36.2.1) rfl Ar36.2.2 hin36 (H36.at hin36 rfl) (g := (mkF m 22 #[sR a1, sR a2, sI 0] [(.int 0), (.ref aw1)])) rfl rfl (hb hby own_d12_22) _ ?_
    refine XS.aloadN X34.here hx rfl (hb hby own_d12_23) rfl rfl ?_
    refine Jvm.RoadKit.acmp (g := (mkF m 24 #[sR a1, sR a2, sI 0] [(.ref a2), (.ref a2)])) X34 hx rfl rfl rfl (pc0 := 24) (pc' := 27) (same := true) rfl (hb hby own_d12_24) rfl (decide_eq_true rfl) (by decide) (by decide) ?_
    refine XS.iloadN X34.here hx rfl (hb hby own_d12_27) rfl ?_
    refine XS.goto X34.here hx rfl (pc0 := 28) (pc' := 32) rfl (hb hby own_d12_28) (by decide) (by decide) ?_
    exact k)
  obtain ⟨fs, hr, hrun, hended, hW, hsame⟩ := X34.leave (v := some (.int 0)) (fun h => by rw [Bd.returns] at h; cases h)
  refine ⟨_, _, cast (congrFun hR0 _) (pre37 _ (retOut X34 hx Bd.returns rfl (Or.inl ⟨rfl, Or.inl rfl, _, rfl⟩) (hb hby own_d12_32) hr)), hrun, hended, _, _, rfl, ?_, ⟨_, rfl⟩, hW, hsame.mono (by decide) (by decide)⟩
  show own_Q12j0 Z _ _ _ _ _ _ _ _ _ _ h0 n0 _ T34.heap _
  rw [e34]
  exact ⟨rfl, N28, rfl⟩
theorem own_pd_4 : parseMethodDescriptor "(Lcom/example/adlim/adlim/client/Waiter;)I" = some ⟨[(.object "com/example/adlim/adlim/client/Waiter")], some .int⟩ := by decide +kernel
theorem own_pd_5 : parseMethodDescriptor "(I)V" = some ⟨[.int], none⟩ := by decide +kernel
theorem own_d11_0 : decode prog_63_method_9_code 0 = .ok (.aload_n 0, 1) := by decide +kernel
theorem own_d11_1 : decode prog_63_method_9_code 1 = .ok (.aload_n 1, 1) := by decide +kernel
theorem own_d11_2 : decode prog_63_method_9_code 2 = .ok (.invokevirtual 80, 3) := by decide +kernel
theorem own_d11_5 : decode prog_63_method_9_code 5 = .ok (.istore_n 2, 1) := by decide +kernel
theorem own_d11_6 : decode prog_63_method_9_code 6 = .ok (.iload_n 2, 1) := by decide +kernel
theorem own_d11_7 : decode prog_63_method_9_code 7 = .ok (.ifCond .lt 8, 3) := by decide +kernel
theorem own_d11_10 : decode prog_63_method_9_code 10 = .ok (.aload_n 0, 1) := by decide +kernel
theorem own_d11_11 : decode prog_63_method_9_code 11 = .ok (.iload_n 2, 1) := by decide +kernel
theorem own_d11_12 : decode prog_63_method_9_code 12 = .ok (.invokevirtual 76, 3) := by decide +kernel
theorem own_d11_15 : decode prog_63_method_9_code 15 = .ok (.return_, 1) := by decide +kernel
theorem own_ef_11j0 (m : MethodId) (x0 : Addr) (x1 : Addr) : entryFrame m #[(.ref x0), (.ref x1)] 3 = mkF m 0 #[sR x0, sR x1, .unset] [] := by first | (simp [entryFrame, mkF, argsToLocals, Value.category]; done) | rfl
def own_Q11j0 (Z : State) (a1 : Addr) (a2 : Addr) (x1 : Value) (x2 : Value) (o0 : Int64) (o1 : Int64) (o2 : Int64) (hd : Int32) (tl : Int32) (sz : Int32) (h0 : Heap) (n0 : Nat) (v : Option Value) (h : Heap) (L : List Loc) : Prop := v = none ∧ Fr n0 L ∧ own_Low a1 h0 h ∧ own_QI Z h n0 a1 .null x1 x2 o0 o1 o2 hd tl (sz - (1 : Int32))
abbrev own_y10 : MethodName := ⟨"com/example/adlim/adlim/client/WaiterQueue", "withdraw", "(Lcom/example/adlim/adlim/client/Waiter;)V"⟩
set_option maxRecDepth 65536 in
set_option maxHeartbeats 40000000 in
theorem own_rm11j0 (l : Launch) (Z : State) (a0 : Array Value) (hw : ∀ d ∈ tables_1, d.before a0 Z = true) (ws : List Jvm.Cond) (a1 : Addr) (a2 : Addr) (x1 : Value) (x2 : Value) (o0 : Int64) (o1 : Int64) (o2 : Int64) (hd : Int32) (tl : Int32) (sz : Int32) (h0 : Heap) (n0 : Nat) (Z0 : n0 ≤ h0.size) (hQ : own_QI Z h0 n0 a1 (.ref a2) x1 x2 o0 o1 o2 hd tl sz) (E_a2 : Exa Z h0 a2 "com/example/adlim/adlim/client/Waiter") (F_order_a2 : Fld Z h0 a2 "com/example/adlim/adlim/client/Waiter" "order" "J" (.long o0)) (hc : (hd = (0 : Int32) ∧ tl = (1 : Int32)) ∨ (hd = (0 : Int32) ∧ tl = (2 : Int32)) ∨ (hd = (0 : Int32) ∧ tl = (3 : Int32))) (hm : ((1 : Int32) < tl → o0 < o1) ∧ ((2 : Int32) < tl → o1 < o2)) (hlt : a2 < a1) :
    MetFree l own_y10 (head1 (Jvm.Cond.code own_y10 prog_63_method_9_code 3 none :: ws) ({ frames := 2, cells := 0, slots := 0, locals := 31 } : Room)) (fun a U => a = #[(.ref a1), (.ref a2)] ∧ Z.Warmed39 U.vm ∧ U.heap = h0) (fun _ _ _ _ _ => True) (fun _ U o U' => ∃ v L, o = .returned v ∧ own_Q11j0 Z a1 a2 x1 x2 o0 o1 o2 hd tl sz h0 n0 v U'.heap L ∧ FrameEnd U o U' L ({ frames := 2, cells := 0, slots := 0, locals := 31 } : Room).cells ({ frames := 2, cells := 0, slots := 0, locals := 31 } : Room).slots) := by
  refine MetFree.of_bodySF (plainFor_of_name own_pn_2) hisR ?_
  intro p e s m args below meth c s₁ Bd hml0 hP hK
  obtain ⟨rfl, hZ, hh⟩ := hP
  have hw24 := hw _ (List.mem_of_getElem? (i := 24) rfl)
  have hw25 := hw _ (List.mem_of_getElem? (i := 25) rfl)
  have hw87 := hw _ (List.mem_of_getElem? (i := 87) rfl)
  have hw88 := hw _ (List.mem_of_getElem? (i := 88) rfl)
  have hw89 := hw _ (List.mem_of_getElem? (i := 89) rfl)
  have hw90 := hw _ (List.mem_of_getElem? (i := 90) rfl)
  have hw95 := hw _ (List.mem_of_getElem? (i := 95) rfl)
  have hw96 := hw _ (List.mem_of_getElem? (i := 96) rfl)
  have hw97 := hw _ (List.mem_of_getElem? (i := 97) rfl)
  have hw98 := hw _ (List.mem_of_getElem? (i := 98) rfl)
  have hx := Bd.exec
  have hby := Bd.bytes
  have hml : c.maxLocals = 3 := hml0
  have hown : s.vm.findClass "com/example/adlim/adlim/client/WaiterQueue" = some m.cls := findClass_of_methodNamed Bd.named
  have hnm := (name_of_methodNamed Bd.named Bd.method).1
  have X0 : Stand p l e ({ frames := 2, cells := 0, slots := 0, locals := 31 } : Room) s m #[(.ref a1), (.ref a2)] below meth c s₁ [] 0 0 := Stand.of_body Bd
  have e0 : s₁.heap = h0 := by rw [← hh, Bd.state]; rfl
  have N0 := Fr.nil n0
  obtain ⟨R0, hR0⟩ : ∃ R : State → Prop, R = fun t => Steps p.tables e below (s₁.setTop (entryFrame m #[(.ref a1), (.ref a2)] 3)) t := ⟨_, rfl⟩
  have pre0 : ∀ t, Steps p.tables e below (s₁.setTop (mkF m 0 #[sR a1, sR a2, sU] [])) t → R0 t := fun t k => by rw [hR0]; exact castTop (own_ef_11j0 m a1 a2) k
  have f1 : own_Low a1 h0 h0 := own_Low.refl _ _
  have pre2 : ∀ t, own_S p e below s₁ m 2 #[sR a1, sR a2, sU] [(.ref a2), (.ref a1)] t → R0 t := fun t k => pre0 t (by
    refine XS.aloadN X0.here hx rfl (hb hby own_d11_0) rfl rfl ?_
    refine XS.aloadN X0.here hx rfl (hb hby own_d11_1) rfl rfl ?_
    exact k)
  have hp3 : (hd = (0 : Int32) ∧ tl = (1 : Int32)) ∨ (hd = (0 : Int32) ∧ tl = (2 : Int32)) ∨ (hd = (0 : Int32) ∧ tl = (3 : Int32)) := hc
  have hp4 : ((1 : Int32) < tl → o0 < o1) ∧ ((2 : Int32) < tl → o1 < o2) := hm
  have ex6 := own_QI_exa hQ
  obtain ⟨cq5, q5, q5'⟩ := ex6.cell
  obtain ⟨_, _, ⟨T5, L5, k5, n5⟩, -, X5, ⟨Lc5, hQ5, l5, y5, z5⟩, st5⟩ := X0.privateBack hx (y := own_y9) hown (mvT hZ hw87) (mvT hZ hw88) (own_selp hZ hw24 hw89 hw88 (by decide)) (Cond.privateMethod_at (mvP hZ hw89 (args := #[]))) (mvT hZ hw90) (by decide) (backOf (W := 0) (own_rm12j0 l Z a0 hw [] a1 a2 x1 x2 o0 o1 o2 hd tl sz h0 n0 Z0 hQ E_a2 F_order_a2 hp3 hp4) hZ hw90 hw25 (by decide) (by decide)) (g := (mkF m 2 #[sR a1, sR a2, sU] [(.ref a2), (.ref a1)])) rfl (by rw [hml]; rfl) (Steps.refl _) (a := a1) (by rw [e0]; exact q5) q5' (argsL := [(.ref a2)]) (rest := []) (lenOf own_pd_4 rfl) rfl (by show 2 * 0 + _ ≤ _; exact Nat.le_of_eq rfl) (hb hby own_d11_2) (fun _ _ => ⟨rfl, e0, (by decide : 0 + 0 ≤ _), (by decide : 0 + 0 ≤ _)⟩)
  dsimp only [Pt.U, Pt.locs, Pt.cells, Pt.slots] at X5 l5 y5 z5 st5 hQ5
  subst l5 y5 z5
  obtain ⟨rfl, N5q, eh5⟩ := hQ5
  have N5 := Fr.app N0 N5q
  have pre7 : ∀ t, own_S p e below T5 m 12 #[sR a1, sR a2, sI 0] [(.int 0), (.ref a1)] t → R0 t := fun t k => pre2 t (by
    refine st5.trans ?_
    refine XS.istoreN X5.here hx rfl (hb hby own_d11_5) rfl (l' := #[sR a1, sR a2, sI 0]) rfl ?_
    refine XS.iloadN X5.here hx rfl (hb hby own_d11_6) rfl ?_
    refine XS.ifNo X5.here hx rfl (hb hby own_d11_7) rfl ((if0 _ _).trans (flt (by decide : ¬ ((0 : Int32) < (0 : Int32)))).1) ?_
    refine XS.aloadN X5.here hx rfl (hb hby own_d11_10) rfl rfl ?_
    refine XS.iloadN X5.here hx rfl (hb hby own_d11_11) rfl ?_
    exact k)
  have ex9 := own_QI_exa hQ
  obtain ⟨cq8, q8, q8'⟩ := ex9.cell
  obtain ⟨_, _, ⟨T8, L8, k8, n8⟩, -, X8, ⟨Lc8, hQ8, l8, y8, z8⟩, st8⟩ := X5.privateBack hx (y := own_y7) hown (mvT hZ hw95) (mvT hZ hw96) (own_selp hZ hw24 hw97 hw96 (by decide)) (Cond.privateMethod_at (mvP hZ hw97 (args := #[]))) (mvT hZ hw98) (by decide) (backOf (W := 0) (own_rm14j0 l Z a0 hw [] a1 a2 x1 x2 o0 o1 o2 hd tl sz h0 n0 Z0 hQ) hZ hw98 hw25 (by decide) (by decide)) (g := (mkF m 12 #[sR a1, sR a2, sI 0] [(.int 0), (.ref a1)])) rfl (by rw [hml]; rfl) (Steps.refl _) (a := a1) (by rw [eh5]; exact q8) q8' (argsL := [(.int 0)]) (rest := []) (lenOf own_pd_5 rfl) rfl (by show 2 * 0 + _ ≤ _; exact Nat.le_of_eq rfl) (hb hby own_d11_12) (fun _ _ => ⟨rfl, eh5, (by decide : 0 + 0 ≤ _), (by decide : 0 + 0 ≤ _)⟩)
  dsimp only [Pt.U, Pt.locs, Pt.cells, Pt.slots] at X8 l8 y8 z8 st8 hQ8
  subst l8 y8 z8
  obtain ⟨rfl, N8q, Lw8, Qw8⟩ := hQ8
  have f10 := Nat.le_trans Z0 Lw8.1
  have f11 := Lw8.exa E_a2 hlt
  have f12 := Lw8.fld F_order_a2 hlt
  have f13 := f1.trans Lw8
  have Q14 : own_QI Z T8.heap n0 a1 .null x1 x2 o0 o1 o2 hd tl (sz - (1 : Int32)) := Qw8
  have N8 := Fr.app N5 N8q
  have pre15 : ∀ t, own_S p e below T8 m 15 #[sR a1, sR a2, sI 0] [] t → R0 t := fun t k => pre7 t (by
    refine st8.trans ?_
    exact k)
  obtain ⟨fs, hr, hrun, hended, hW, hsame⟩ := X8.leave (v := none) (fun _ => rfl)
  refine ⟨_, _, cast (congrFun hR0 _) (pre15 _ (X8.returnOut hx Bd.returns (hb hby own_d11_15) hr)), hrun, hended, _, _, rfl, ?_, ⟨_, rfl⟩, hW, hsame.mono (by decide) (by decide)⟩
  show own_Q11j0 Z _ _ _ _ _ _ _ _ _ _ h0 n0 _ T8.heap _
  exact ⟨rfl, N8, f13, Q14⟩
theorem own_d13_37 : decode prog_63_method_15_code 37 = .ok (.iload 5, 2) := by decide +kernel
theorem own_d13_39 : decode prog_63_method_15_code 39 = .ok (.iconst 1, 1) := by decide +kernel
theorem own_d13_40 : decode prog_63_method_15_code 40 = .ok (.iadd, 1) := by decide +kernel
theorem own_d13_41 : decode prog_63_method_15_code 41 = .ok (.istore_n 3, 1) := by decide +kernel
theorem own_d13_42 : decode prog_63_method_15_code 42 = .ok (.goto 7, 3) := by decide +kernel
theorem own_ef_13j1 (m : MethodId) (x0 : Addr) (x1 : Int64) : entryFrame m #[(.ref x0), (.long x1)] 6 = mkF m 0 #[sR x0, sJ x1, .second, .unset, .unset, .unset] [] := by first | (simp [entryFrame, mkF, argsToLocals, Value.category]; done) | rfl
def own_Q13j1 (Z : State) (a1 : Addr) (o1 : Int64) (x0 : Value) (x1 : Value) (x2 : Value) (o0 : Int64) (o2 : Int64) (hd : Int32) (tl : Int32) (sz : Int32) (h0 : Heap) (n0 : Nat) (v : Option Value) (h : Heap) (L : List Loc) : Prop := v = some (.int 1) ∧ Fr n0 L ∧ h = h0
set_option maxRecDepth 65536 in
set_option maxHeartbeats 40000000 in
theorem own_rm13j1 (l : Launch) (Z : State) (a0 : Array Value) (hw : ∀ d ∈ tables_1, d.before a0 Z = true) (ws : List Jvm.Cond) (a1 : Addr) (o1 : Int64) (x0 : Value) (x1 : Value) (x2 : Value) (o0 : Int64) (o2 : Int64) (hd : Int32) (tl : Int32) (sz : Int32) (h0 : Heap) (n0 : Nat) (Z0 : n0 ≤ h0.size) (hQ : own_QI Z h0 n0 a1 x0 x1 x2 o0 o1 o2 hd tl sz) (hc : (hd = (0 : Int32) ∧ tl = (2 : Int32)) ∨ (hd = (0 : Int32) ∧ tl = (3 : Int32)) ∨ (hd = (1 : Int32) ∧ tl = (2 : Int32)) ∨ (hd = (1 : Int32) ∧ tl = (3 : Int32))) (hm : ((1 : Int32) < tl → o0 < o1) ∧ ((2 : Int32) < tl → o1 < o2)) :
    MetFree l own_y8 (head1 (Jvm.Cond.code own_y8 prog_63_method_15_code 6 (some .int) :: ws) ({ frames := 0, cells := 0, slots := 0, locals := 0 } : Room)) (fun a U => a = #[(.ref a1), (.long o1)] ∧ Z.Warmed39 U.vm ∧ U.heap = h0) (fun _ _ _ _ _ => True) (fun _ U o U' => ∃ v L, o = .returned v ∧ own_Q13j1 Z a1 o1 x0 x1 x2 o0 o2 hd tl sz h0 n0 v U'.heap L ∧ FrameEnd U o U' L ({ frames := 0, cells := 0, slots := 0, locals := 0 } : Room).cells ({ frames := 0, cells := 0, slots := 0, locals := 0 } : Room).slots) := by
  refine MetFree.of_bodySF (plainFor_of_name own_pn_2) hisR ?_
  intro p e s m args below meth c s₁ Bd hml0 hP hK
  obtain ⟨rfl, hZ, hh⟩ := hP
  have hw35 := hw _ (List.mem_of_getElem? (i := 35) rfl)
  have hw66 := hw _ (List.mem_of_getElem? (i := 66) rfl)
  have hw74 := hw _ (List.mem_of_getElem? (i := 74) rfl)
  have hx := Bd.exec
  have hby := Bd.bytes
  have hml : c.maxLocals = 6 := hml0
  have hown : s.vm.findClass "com/example/adlim/adlim/client/WaiterQueue" = some m.cls := findClass_of_methodNamed Bd.named
  have hnm := (name_of_methodNamed Bd.named Bd.method).1
  have X0 : Stand p l e ({ frames := 0, cells := 0, slots := 0, locals := 0 } : Room) s m #[(.ref a1), (.long o1)] below meth c s₁ [] 0 0 := Stand.of_body Bd
  have e0 : s₁.heap = h0 := by rw [← hh, Bd.state]; rfl
  have N0 := Fr.nil n0
  obtain ⟨R0, hR0⟩ : ∃ R : State → Prop, R = fun t => Steps p.tables e below (s₁.setTop (entryFrame m #[(.ref a1), (.long o1)] 6)) t := ⟨_, rfl⟩
  have pre0 : ∀ t, Steps p.tables e below (s₁.setTop (mkF m 0 #[sR a1, sJ o1, sW, sU, sU, sU] [])) t → R0 t := fun t k => by rw [hR0]; exact castTop (own_ef_13j1 m a1 o1) k
  rcases hc with ⟨rfl, rfl⟩ | ⟨rfl, rfl⟩ | ⟨rfl, rfl⟩ | ⟨rfl, rfl⟩
  · have hq01 := hm.1 (by decide)
    obtain ⟨aw1, ao1, au1, ac1, kw1, ko1, cn1, Ex1, Fw1, Fo1, Fu1, Fc1, Fe1, Fh1, Ft1, Fs1, Fn1, Vw1, Ow1, Vo1, Uu1, Uc1, la1, lb1, lc1, ld1, gq1⟩ := id hQ
    have ne2 : a1 ≠ aw1 := Nat.ne_of_lt la1
    have lt3 : a1 < ao1 := (Nat.lt_trans la1 lb1)
    have ne4 : a1 ≠ ao1 := Nat.ne_of_lt lt3
    have lt5 : a1 < au1 := (Nat.lt_trans (Nat.lt_trans la1 lb1) lc1)
    have ne6 : a1 ≠ au1 := Nat.ne_of_lt lt5
    have lt7 : a1 < ac1 := (Nat.lt_trans (Nat.lt_trans (Nat.lt_trans la1 lb1) lc1) ld1)
    have ne8 : a1 ≠ ac1 := Nat.ne_of_lt lt7
    have ne9 : aw1 ≠ ao1 := Nat.ne_of_lt lb1
    have lt10 : aw1 < au1 := (Nat.lt_trans lb1 lc1)
    have ne11 : aw1 ≠ au1 := Nat.ne_of_lt lt10
    have lt12 : aw1 < ac1 := (Nat.lt_trans (Nat.lt_trans lb1 lc1) ld1)
    have ne13 : aw1 ≠ ac1 := Nat.ne_of_lt lt12
    have ne14 : ao1 ≠ au1 := Nat.ne_of_lt lc1
    have lt15 : ao1 < ac1 := (Nat.lt_trans lc1 ld1)
    have ne16 : ao1 ≠ ac1 := Nat.ne_of_lt lt15
    have ne17 : au1 ≠ ac1 := Nat.ne_of_lt ld1
    have g18 : n0 ≤ aw1 := Nat.le_trans gq1 (Nat.le_of_lt la1)
    have g19 : n0 ≤ ao1 := Nat.le_trans gq1 (Nat.le_of_lt lt3)
    have g20 : n0 ≤ au1 := Nat.le_trans gq1 (Nat.le_of_lt lt5)
    have g21 : n0 ≤ ac1 := Nat.le_trans gq1 (Nat.le_of_lt lt7)
    have pre22 : ∀ t, own_S p e below s₁ m 1 #[sR a1, sJ o1, sW, sU, sU, sU] [(.ref a1)] t → R0 t := fun t k => pre0 t (by
      refine XS.aloadN X0.here hx rfl (hb hby own_d13_0) rfl rfl ?_
      exact k)
    obtain ⟨T23, X23, e23, st23⟩ := getF X0 hx hZ hown (host := "") (Or.inl hw74) Via.refl e0 Fh1 (g := (mkF m 1 #[sR a1, sJ o1, sW, sU, sU, sU] [(.ref a1)])) rfl rfl (hb hby own_d13_1)
    have pre24 : ∀ t, own_S p e below T23 m 6 #[sR a1, sJ o1, sW, sI 0, sU, sU] [(.ref a1)] t → R0 t := fun t k => pre22 t (by
      refine st23 _ ?_
      refine XS.istoreN X23.here hx rfl (hb hby own_d13_4) rfl (l' := #[sR a1, sJ o1, sW, sI 0, sU, sU]) rfl ?_
      refine XS.aloadN X23.here hx rfl (hb hby own_d13_5) rfl rfl ?_
      exact k)
    obtain ⟨T25, X25, e25, st25⟩ := getF X23 hx hZ hown (host := "") (Or.inl hw66) Via.refl e23 Ft1 (g := (mkF m 6 #[sR a1, sJ o1, sW, sI 0, sU, sU] [(.ref a1)])) rfl rfl (hb hby own_d13_6)
    have pre26 : ∀ t, own_S p e below T25 m 26 #[sR a1, sJ o1, sW, sI 0, sI 2, sI 1] [(.ref a1)] t → R0 t := fun t k => pre24 t (by
      refine st25 _ ?_
      refine XS.istore X25.here hx rfl (hb hby own_d13_9) rfl (l' := #[sR a1, sJ o1, sW, sI 0, sI 2, sU]) rfl ?_
      refine XS.iloadN X25.here hx rfl (hb hby own_d13_11) rfl ?_
      refine XS.iload X25.here hx rfl (hb hby own_d13_12) rfl ?_
      refine XS.icmpNo X25.here hx rfl (hb hby own_d13_14) rfl (tlt (by decide : (0 : Int32) < (2 : Int32))).2.1 ?_
      refine XS.iloadN X25.here hx rfl (hb hby own_d13_17) rfl ?_
      refine XS.iload X25.here hx rfl (hb hby own_d13_18) rfl ?_
      refine XS.iadd X25.here hx rfl (hb hby own_d13_20) rfl ?_
      refine XS.iconst X25.here hx rfl (hb hby own_d13_21) ?_
      refine XS.iushr X25.here hx rfl (hb hby own_d13_22) rfl ?_
      refine XS.istore X25.here hx rfl (hb hby own_d13_23) rfl (l' := #[sR a1, sJ o1, sW, sI 0, sI 2, sI 1]) rfl ?_
      refine XS.aloadN X25.here hx rfl (hb hby own_d13_25) rfl rfl ?_
      exact k)
    obtain ⟨T27, X27, e27, st27⟩ := getF X25 hx hZ hown (host := "") (Or.inl hw35) Via.refl e25 Fo1 (g := (mkF m 26 #[sR a1, sJ o1, sW, sI 0, sI 2, sI 1] [(.ref a1)])) rfl rfl (hb hby own_d13_26)
    have pre28 : ∀ t, own_S p e below T27 m 31 #[sR a1, sJ o1, sW, sI 0, sI 2, sI 1] [(.int 1), (.ref ao1)] t → R0 t := fun t k => pre26 t (by
      refine st27 _ ?_
      refine XS.iload X27.here hx rfl (hb hby own_d13_29) rfl ?_
      exact k)
    obtain ⟨cl29, Ar29, q29, S29, N29, H29, G29⟩ := id Vo1
    have hin29 := inb_of (j := (1 : Int32)) S29 ⟨by decide, by decide⟩
    have pre30 : ∀ t, own_S p e below T27 m 34 #[sR a1, sJ o1, sW, sI 0, sI 2, sI 1] [(.int (lcmpW o1 o1))] t → R0 t := fun t k => pre28 t (by
      refine X27.laload hx (j := (1 : Int32)) (v := (.long o1)) (by rw [e27]; exact Ar29.1) (State.isArrayOf_alike hZ.alike Ar29.2.1) Ar29.2.2 hin29 (H29.at hin29 rfl) (g := (mkF m 31 #[sR a1, sJ o1, sW, sI 0, sI 2, sI 1] [(.int 1), (.ref ao1)])) rfl rfl (hb hby own_d13_31) _ ?_
      refine XS.lloadN X27.here hx rfl (hb hby own_d13_32) rfl ?_
      refine XS.lcmp X27.here hx rfl (hb hby own_d13_33) rfl ?_
      exact k)
    have hc31 : ¬ (o1 < o1) := Int64.lt_irrefl
    have pre32 : ∀ t, own_S p e below T27 m 26 #[sR a1, sJ o1, sW, sI 0, sI 1, sI 0] [(.ref a1)] t → R0 t := fun t k => pre30 t (by
      refine XS.ifYes X27.here hx rfl (pc0 := 34) (pc' := 45) rfl (hb hby own_d13_34) rfl ((if0 _ _).trans (flt (mt (lw_lt _ _).mp hc31)).2.1) (by decide) (by decide) ?_
      refine XS.iload X27.here hx rfl (hb hby own_d13_45) rfl ?_
      refine XS.istore X27.here hx rfl (hb hby own_d13_47) rfl (l' := #[sR a1, sJ o1, sW, sI 0, sI 1, sI 1]) rfl ?_
      refine XS.goto X27.here hx rfl (pc0 := 49) (pc' := 11) rfl (hb hby own_d13_49) (by decide) (by decide) ?_
      refine XS.iloadN X27.here hx rfl (hb hby own_d13_11) rfl ?_
      refine XS.iload X27.here hx rfl (hb hby own_d13_12) rfl ?_
      refine XS.icmpNo X27.here hx rfl (hb hby own_d13_14) rfl (tlt (by decide : (0 : Int32) < (1 : Int32))).2.1 ?_
      refine XS.iloadN X27.here hx rfl (hb hby own_d13_17) rfl ?_
      refine XS.iload X27.here hx rfl (hb hby own_d13_18) rfl ?_
      refine XS.iadd X27.here hx rfl (hb hby own_d13_20) rfl ?_
      refine XS.iconst X27.here hx rfl (hb hby own_d13_21) ?_
      refine XS.iushr X27.here hx rfl (hb hby own_d13_22) rfl ?_
      refine XS.istore X27.here hx rfl (hb hby own_d13_23) rfl (l' := #[sR a1, sJ o1, sW, sI 0, sI 1, sI 0]) rfl ?_
      refine XS.aloadN X27.here hx rfl (hb hby own_d13_25) rfl rfl ?_
      exact k)
    obtain ⟨T33, X33, e33, st33⟩ := getF X27 hx hZ hown (host := "") (Or.inl hw35) Via.refl e27 Fo1 (g := (mkF m 26 #[sR a1, sJ o1, sW, sI 0, sI 1, sI 0] [(.ref a1)])) rfl rfl (hb hby own_d13_26)
    have pre34 : ∀ t, own_S p e below T33 m 31 #[sR a1, sJ o1, sW, sI 0, sI 1, sI 0] [(.int 0), (.ref ao1)] t → R0 t := fun t k => pre32 t (by
      refine st33 _ ?_
      refine XS.iload X33.here hx rfl (hb hby own_d13_29) rfl ?_
      exact k)
    obtain ⟨cl35, Ar35, q35, S35, N35, H35, G35⟩ := id Vo1
    have hin35 := inb_of (j := (0 : Int32)) S35 ⟨by decide, by decide⟩
    have pre36 : ∀ t, own_S p e below T33 m 34 #[sR a1, sJ o1, sW, sI 0, sI 1, sI 0] [(.int (lcmpW o0 o1))] t → R0 t := fun t k => pre34 t (by
      refine X33.laload hx (j := (0 : Int32)) (v := (.long o0)) (by rw [e33]; exact Ar35.1) (State.isArrayOf_alike hZ.alike Ar35.2.1) Ar35.2.2 hin35 (H35.at hin35 rfl) (g := (mkF m 31 #[sR a1, sJ o1, sW, sI 0, sI 1, sI 0] [(.int 0), (.ref ao1)])) rfl rfl (hb hby own_d13_31) _ ?_
      refine XS.lloadN X33.here hx rfl (hb hby own_d13_32) rfl ?_
      refine XS.lcmp X33.here hx rfl (hb hby own_d13_33) rfl ?_
      exact k)
    have hc37 : o0 < o1 := hq01
    have pre38 : ∀ t, own_S p e below T33 m 53 #[sR a1, sJ o1, sW, sI 1, sI 1, sI 0] [(.int 1)] t → R0 t := fun t k => pre36 t (by
      refine XS.ifNo X33.here hx rfl (hb hby own_d13_34) rfl ((if0 _ _).trans (tlt ((lw_lt _ _).mpr hc37)).2.1) ?_
      refine XS.iload X33.here hx rfl (hb hby own_d13_37) rfl ?_
      refine XS.iconst X33.here hx rfl (hb hby own_d13_39) ?_
      refine XS.iadd X33.here hx rfl (hb hby own_d13_40) rfl ?_
      refine XS.istoreN X33.here hx rfl (hb hby own_d13_41) rfl (l' := #[sR a1, sJ o1, sW, sI 1, sI 1, sI 0]) rfl ?_
      refine XS.goto X33.here hx rfl (pc0 := 42) (pc' := 49) rfl (hb hby own_d13_42) (by decide) (by decide) ?_
      refine XS.goto X33.here hx rfl (pc0 := 49) (pc' := 11) rfl (hb hby own_d13_49) (by decide) (by decide) ?_
      refine XS.iloadN X33.here hx rfl (hb hby own_d13_11) rfl ?_
      refine XS.iload X33.here hx rfl (hb hby own_d13_12) rfl ?_
      refine XS.icmpYes X33.here hx rfl (pc0 := 14) (pc' := 52) rfl (hb hby own_d13_14) rfl (flt (by decide : ¬ ((1 : Int32) < (1 : Int32)))).2.1 (by decide) (by decide) ?_
      refine XS.iloadN X33.here hx rfl (hb hby own_d13_52) rfl ?_
      exact k)
    obtain ⟨fs, hr, hrun, hended, hW, hsame⟩ := X33.leave (v := some (.int 1)) (fun h => by rw [Bd.returns] at h; cases h)
    refine ⟨_, _, cast (congrFun hR0 _) (pre38 _ (retOut X33 hx Bd.returns rfl (Or.inl ⟨rfl, Or.inl rfl, _, rfl⟩) (hb hby own_d13_53) hr)), hrun, hended, _, _, rfl, ?_, ⟨_, rfl⟩, hW, hsame.mono (by decide) (by decide)⟩
    show own_Q13j1 Z _ _ _ _ _ _ _ _ _ _ h0 n0 _ T33.heap _
    rw [e33]
    exact ⟨rfl, N0, rfl⟩
  · have hq01 := hm.1 (by decide)
    have hq12 := hm.2 (by decide)
    have hq02 := Int64.lt_trans hq01 hq12
    obtain ⟨aw39, ao39, au39, ac39, kw39, ko39, cn39, Ex39, Fw39, Fo39, Fu39, Fc39, Fe39, Fh39, Ft39, Fs39, Fn39, Vw39, Ow39, Vo39, Uu39, Uc39, la39, lb39, lc39, ld39, gq39⟩ := id hQ
    have ne40 : a1 ≠ aw39 := Nat.ne_of_lt la39
    have lt41 : a1 < ao39 := (Nat.lt_trans la39 lb39)
    have ne42 : a1 ≠ ao39 := Nat.ne_of_lt lt41
    have lt43 : a1 < au39 := (Nat.lt_trans (Nat.lt_trans la39 lb39) lc39)
    have ne44 : a1 ≠ au39 := Nat.ne_of_lt lt43
    have lt45 : a1 < ac39 := (Nat.lt_trans (Nat.lt_trans (Nat.lt_trans la39 lb39) lc39) ld39)
    have ne46 : a1 ≠ ac39 := Nat.ne_of_lt lt45
    have ne47 : aw39 ≠ ao39 := Nat.ne_of_lt lb39
    have lt48 : aw39 < au39 := (Nat.lt_trans lb39 lc39)
    have ne49 : aw39 ≠ au39 := Nat.ne_of_lt lt48
    have lt50 : aw39 < ac39 := (Nat.lt_trans (Nat.lt_trans lb39 lc39) ld39)
    have ne51 : aw39 ≠ ac39 := Nat.ne_of_lt lt50
    have ne52 : ao39 ≠ au39 := Nat.ne_of_lt lc39
    have lt53 : ao39 < ac39 := (Nat.lt_trans lc39 ld39)
    have ne54 : ao39 ≠ ac39 := Nat.ne_of_lt lt53
    have ne55 : au39 ≠ ac39 := Nat.ne_of_lt ld39
    have g56 : n0 ≤ aw39 := Nat.le_trans gq39 (Nat.le_of_lt la39)
    have g57 : n0 ≤ ao39 := Nat.le_trans gq39 (Nat.le_of_lt lt41)
    have g58 : n0 ≤ au39 := Nat.le_trans gq39 (Nat.le_of_lt lt43)
    have g59 : n0 ≤ ac39 := Nat.le_trans gq39 (Nat.le_of_lt lt45)
    have pre60 : ∀ t, own_S p e below s₁ m 1 #[sR a1, sJ o1, sW, sU, sU, sU] [(.ref a1)] t → R0 t := fun t k => pre0 t (by
      refine XS.aloadN X0.here hx rfl (hb hby own_d13_0) rfl rfl ?_
      exact k)
    obtain ⟨T61, X61, e61, st61⟩ := getF X0 hx hZ hown (host := "") (Or.inl hw74) Via.refl e0 Fh39 (g := (mkF m 1 #[sR a1, sJ o1, sW, sU, sU, sU] [(.ref a1)])) rfl rfl (hb hby own_d13_1)
    have pre62 : ∀ t, own_S p e below T61 m 6 #[sR a1, sJ o1, sW, sI 0, sU, sU] [(.ref a1)] t → R0 t := fun t k => pre60 t (by
      refine st61 _ ?_
      refine XS.istoreN X61.here hx rfl (hb hby own_d13_4) rfl (l' := #[sR a1, sJ o1, sW, sI 0, sU, sU]) rfl ?_
      refine XS.aloadN X61.here hx rfl (hb hby own_d13_5) rfl rfl ?_
      exact k)
    obtain ⟨T63, X63, e63, st63⟩ := getF X61 hx hZ hown (host := "") (Or.inl hw66) Via.refl e61 Ft39 (g := (mkF m 6 #[sR a1, sJ o1, sW, sI 0, sU, sU] [(.ref a1)])) rfl rfl (hb hby own_d13_6)
    have pre64 : ∀ t, own_S p e below T63 m 26 #[sR a1, sJ o1, sW, sI 0, sI 3, sI 1] [(.ref a1)] t → R0 t := fun t k => pre62 t (by
      refine st63 _ ?_
      refine XS.istore X63.here hx rfl (hb hby own_d13_9) rfl (l' := #[sR a1, sJ o1, sW, sI 0, sI 3, sU]) rfl ?_
      refine XS.iloadN X63.here hx rfl (hb hby own_d13_11) rfl ?_
      refine XS.iload X63.here hx rfl (hb hby own_d13_12) rfl ?_
      refine XS.icmpNo X63.here hx rfl (hb hby own_d13_14) rfl (tlt (by decide : (0 : Int32) < (3 : Int32))).2.1 ?_
      refine XS.iloadN X63.here hx rfl (hb hby own_d13_17) rfl ?_
      refine XS.iload X63.here hx rfl (hb hby own_d13_18) rfl ?_
      refine XS.iadd X63.here hx rfl (hb hby own_d13_20) rfl ?_
      refine XS.iconst X63.here hx rfl (hb hby own_d13_21) ?_
      refine XS.iushr X63.here hx rfl (hb hby own_d13_22) rfl ?_
      refine XS.istore X63.here hx rfl (hb hby own_d13_23) rfl (l' := #[sR a1, sJ o1, sW, sI 0, sI 3, sI 1]) rfl ?_
      refine XS.aloadN X63.here hx rfl (hb hby own_d13_25) rfl rfl ?_
      exact k)
    obtain ⟨T65, X65, e65, st65⟩ := getF X63 hx hZ hown (host := "") (Or.inl hw35) Via.refl e63 Fo39 (g := (mkF m 26 #[sR a1, sJ o1, sW, sI 0, sI 3, sI 1] [(.ref a1)])) rfl rfl (hb hby own_d13_26)
    have pre66 : ∀ t, own_S p e below T65 m 31 #[sR a1, sJ o1, sW, sI 0, sI 3, sI 1] [(.int 1), (.ref ao39)] t → R0 t := fun t k => pre64 t (by
      refine st65 _ ?_
      refine XS.iload X65.here hx rfl (hb hby own_d13_29) rfl ?_
      exact k)
    obtain ⟨cl67, Ar67, q67, S67, N67, H67, G67⟩ := id Vo39
    have hin67 := inb_of (j := (1 : Int32)) S67 ⟨by decide, by decide⟩
    have pre68 : ∀ t, own_S p e below T65 m 34 #[sR a1, sJ o1, sW, sI 0, sI 3, sI 1] [(.int (lcmpW o1 o1))] t → R0 t := fun t k => pre66 t (by
      refine X65.laload hx (j := (1 : Int32)) (v := (.long o1)) (by rw [e65]; exact Ar67.1) (State.isArrayOf_alike hZ.alike Ar67.2.1) Ar67.2.2 hin67 (H67.at hin67 rfl) (g := (mkF m 31 #[sR a1, sJ o1, sW, sI 0, sI 3, sI 1] [(.int 1), (.ref ao39)])) rfl rfl (hb hby own_d13_31) _ ?_
      refine XS.lloadN X65.here hx rfl (hb hby own_d13_32) rfl ?_
      refine XS.lcmp X65.here hx rfl (hb hby own_d13_33) rfl ?_
      exact k)
    have hc69 : ¬ (o1 < o1) := Int64.lt_irrefl
    have pre70 : ∀ t, own_S p e below T65 m 26 #[sR a1, sJ o1, sW, sI 0, sI 1, sI 0] [(.ref a1)] t → R0 t := fun t k => pre68 t (by
      refine XS.ifYes X65.here hx rfl (pc0 := 34) (pc' := 45) rfl (hb hby own_d13_34) rfl ((if0 _ _).trans (flt (mt (lw_lt _ _).mp hc69)).2.1) (by decide) (by decide) ?_
      refine XS.iload X65.here hx rfl (hb hby own_d13_45) rfl ?_
      refine XS.istore X65.here hx rfl (hb hby own_d13_47) rfl (l' := #[sR a1, sJ o1, sW, sI 0, sI 1, sI 1]) rfl ?_
      refine XS.goto X65.here hx rfl (pc0 := 49) (pc' := 11) rfl (hb hby own_d13_49) (by decide) (by decide) ?_
      refine XS.iloadN X65.here hx rfl (hb hby own_d13_11) rfl ?_
      refine XS.iload X65.here hx rfl (hb hby own_d13_12) rfl ?_
      refine XS.icmpNo X65.here hx rfl (hb hby own_d13_14) rfl (tlt (by decide : (0 : Int32) < (1 : Int32))).2.1 ?_
      refine XS.iloadN X65.here hx rfl (hb hby own_d13_17) rfl ?_
      refine XS.iload X65.here hx rfl (hb hby own_d13_18) rfl ?_
      refine XS.iadd X65.here hx rfl (hb hby own_d13_20) rfl ?_
      refine XS.iconst X65.here hx rfl (hb hby own_d13_21) ?_
      refine XS.iushr X65.here hx rfl (hb hby own_d13_22) rfl ?_
      refine XS.istore X65.here hx rfl (hb hby own_d13_23) rfl (l' := #[sR a1, sJ o1, sW, sI 0, sI 1, sI 0]) rfl ?_
      refine XS.aloadN X65.here hx rfl (hb hby own_d13_25) rfl rfl ?_
      exact k)
    obtain ⟨T71, X71, e71, st71⟩ := getF X65 hx hZ hown (host := "") (Or.inl hw35) Via.refl e65 Fo39 (g := (mkF m 26 #[sR a1, sJ o1, sW, sI 0, sI 1, sI 0] [(.ref a1)])) rfl rfl (hb hby own_d13_26)
    have pre72 : ∀ t, own_S p e below T71 m 31 #[sR a1, sJ o1, sW, sI 0, sI 1, sI 0] [(.int 0), (.ref ao39)] t → R0 t := fun t k => pre70 t (by
      refine st71 _ ?_
      refine XS.iload X71.here hx rfl (hb hby own_d13_29) rfl ?_
      exact k)
    obtain ⟨cl73, Ar73, q73, S73, N73, H73, G73⟩ := id Vo39
    have hin73 := inb_of (j := (0 : Int32)) S73 ⟨by decide, by decide⟩
    have pre74 : ∀ t, own_S p e below T71 m 34 #[sR a1, sJ o1, sW, sI 0, sI 1, sI 0] [(.int (lcmpW o0 o1))] t → R0 t := fun t k => pre72 t (by
      refine X71.laload hx (j := (0 : Int32)) (v := (.long o0)) (by rw [e71]; exact Ar73.1) (State.isArrayOf_alike hZ.alike Ar73.2.1) Ar73.2.2 hin73 (H73.at hin73 rfl) (g := (mkF m 31 #[sR a1, sJ o1, sW, sI 0, sI 1, sI 0] [(.int 0), (.ref ao39)])) rfl rfl (hb hby own_d13_31) _ ?_
      refine XS.lloadN X71.here hx rfl (hb hby own_d13_32) rfl ?_
      refine XS.lcmp X71.here hx rfl (hb hby own_d13_33) rfl ?_
      exact k)
    have hc75 : o0 < o1 := hq01
    have pre76 : ∀ t, own_S p e below T71 m 53 #[sR a1, sJ o1, sW, sI 1, sI 1, sI 0] [(.int 1)] t → R0 t := fun t k => pre74 t (by
      refine XS.ifNo X71.here hx rfl (hb hby own_d13_34) rfl ((if0 _ _).trans (tlt ((lw_lt _ _).mpr hc75)).2.1) ?_
      refine XS.iload X71.here hx rfl (hb hby own_d13_37) rfl ?_
      refine XS.iconst X71.here hx rfl (hb hby own_d13_39) ?_
      refine XS.iadd X71.here hx rfl (hb hby own_d13_40) rfl ?_
      refine XS.istoreN X71.here hx rfl (hb hby own_d13_41) rfl (l' := #[sR a1, sJ o1, sW, sI 1, sI 1, sI 0]) rfl ?_
      refine XS.goto X71.here hx rfl (pc0 := 42) (pc' := 49) rfl (hb hby own_d13_42) (by decide) (by decide) ?_
      refine XS.goto X71.here hx rfl (pc0 := 49) (pc' := 11) rfl (hb hby own_d13_49) (by decide) (by decide) ?_
      refine XS.iloadN X71.here hx rfl (hb hby own_d13_11) rfl ?_
      refine XS.iload X71.here hx rfl (hb hby own_d13_12) rfl ?_
      refine XS.icmpYes X71.here hx rfl (pc0 := 14) (pc' := 52) rfl (hb hby own_d13_14) rfl (flt (by decide : ¬ ((1 : Int32) < (1 : Int32)))).2.1 (by decide) (by decide) ?_
      refine XS.iloadN X71.here hx rfl (hb hby own_d13_52) rfl ?_
      exact k)
    obtain ⟨fs, hr, hrun, hended, hW, hsame⟩ := X71.leave (v := some (.int 1)) (fun h => by rw [Bd.returns] at h; cases h)
    refine ⟨_, _, cast (congrFun hR0 _) (pre76 _ (retOut X71 hx Bd.returns rfl (Or.inl ⟨rfl, Or.inl rfl, _, rfl⟩) (hb hby own_d13_53) hr)), hrun, hended, _, _, rfl, ?_, ⟨_, rfl⟩, hW, hsame.mono (by decide) (by decide)⟩
    show own_Q13j1 Z _ _ _ _ _ _ _ _ _ _ h0 n0 _ T71.heap _
    rw [e71]
    exact ⟨rfl, N0, rfl⟩
  · have hq01 := hm.1 (by decide)
    obtain ⟨aw77, ao77, au77, ac77, kw77, ko77, cn77, Ex77, Fw77, Fo77, Fu77, Fc77, Fe77, Fh77, Ft77, Fs77, Fn77, Vw77, Ow77, Vo77, Uu77, Uc77, la77, lb77, lc77, ld77, gq77⟩ := id hQ
    have ne78 : a1 ≠ aw77 := Nat.ne_of_lt la77
    have lt79 : a1 < ao77 := (Nat.lt_trans la77 lb77)
    have ne80 : a1 ≠ ao77 := Nat.ne_of_lt lt79
    have lt81 : a1 < au77 := (Nat.lt_trans (Nat.lt_trans la77 lb77) lc77)
    have ne82 : a1 ≠ au77 := Nat.ne_of_lt lt81
    have lt83 : a1 < ac77 := (Nat.lt_trans (Nat.lt_trans (Nat.lt_trans la77 lb77) lc77) ld77)
    have ne84 : a1 ≠ ac77 := Nat.ne_of_lt lt83
    have ne85 : aw77 ≠ ao77 := Nat.ne_of_lt lb77
    have lt86 : aw77 < au77 := (Nat.lt_trans lb77 lc77)
    have ne87 : aw77 ≠ au77 := Nat.ne_of_lt lt86
    have lt88 : aw77 < ac77 := (Nat.lt_trans (Nat.lt_trans lb77 lc77) ld77)
    have ne89 : aw77 ≠ ac77 := Nat.ne_of_lt lt88
    have ne90 : ao77 ≠ au77 := Nat.ne_of_lt lc77
    have lt91 : ao77 < ac77 := (Nat.lt_trans lc77 ld77)
    have ne92 : ao77 ≠ ac77 := Nat.ne_of_lt lt91
    have ne93 : au77 ≠ ac77 := Nat.ne_of_lt ld77
    have g94 : n0 ≤ aw77 := Nat.le_trans gq77 (Nat.le_of_lt la77)
    have g95 : n0 ≤ ao77 := Nat.le_trans gq77 (Nat.le_of_lt lt79)
    have g96 : n0 ≤ au77 := Nat.le_trans gq77 (Nat.le_of_lt lt81)
    have g97 : n0 ≤ ac77 := Nat.le_trans gq77 (Nat.le_of_lt lt83)
    have pre98 : ∀ t, own_S p e below s₁ m 1 #[sR a1, sJ o1, sW, sU, sU, sU] [(.ref a1)] t → R0 t := fun t k => pre0 t (by
      refine XS.aloadN X0.here hx rfl (hb hby own_d13_0) rfl rfl ?_
      exact k)
    obtain ⟨T99, X99, e99, st99⟩ := getF X0 hx hZ hown (host := "") (Or.inl hw74) Via.refl e0 Fh77 (g := (mkF m 1 #[sR a1, sJ o1, sW, sU, sU, sU] [(.ref a1)])) rfl rfl (hb hby own_d13_1)
    have pre100 : ∀ t, own_S p e below T99 m 6 #[sR a1, sJ o1, sW, sI 1, sU, sU] [(.ref a1)] t → R0 t := fun t k => pre98 t (by
      refine st99 _ ?_
      refine XS.istoreN X99.here hx rfl (hb hby own_d13_4) rfl (l' := #[sR a1, sJ o1, sW, sI 1, sU, sU]) rfl ?_
      refine XS.aloadN X99.here hx rfl (hb hby own_d13_5) rfl rfl ?_
      exact k)
    obtain ⟨T101, X101, e101, st101⟩ := getF X99 hx hZ hown (host := "") (Or.inl hw66) Via.refl e99 Ft77 (g := (mkF m 6 #[sR a1, sJ o1, sW, sI 1, sU, sU] [(.ref a1)])) rfl rfl (hb hby own_d13_6)
    have pre102 : ∀ t, own_S p e below T101 m 26 #[sR a1, sJ o1, sW, sI 1, sI 2, sI 1] [(.ref a1)] t → R0 t := fun t k => pre100 t (by
      refine st101 _ ?_
      refine XS.istore X101.here hx rfl (hb hby own_d13_9) rfl (l' := #[sR a1, sJ o1, sW, sI 1, sI 2, sU]) rfl ?_
      refine XS.iloadN X101.here hx rfl (hb hby own_d13_11) rfl ?_
      refine XS.iload X101.here hx rfl (hb hby own_d13_12) rfl ?_
      refine XS.icmpNo X101.here hx rfl (hb hby own_d13_14) rfl (tlt (by decide : (1 : Int32) < (2 : Int32))).2.1 ?_
      refine XS.iloadN X101.here hx rfl (hb hby own_d13_17) rfl ?_
      refine XS.iload X101.here hx rfl (hb hby own_d13_18) rfl ?_
      refine XS.iadd X101.here hx rfl (hb hby own_d13_20) rfl ?_
      refine XS.iconst X101.here hx rfl (hb hby own_d13_21) ?_
      refine XS.iushr X101.here hx rfl (hb hby own_d13_22) rfl ?_
      refine XS.istore X101.here hx rfl (hb hby own_d13_23) rfl (l' := #[sR a1, sJ o1, sW, sI 1, sI 2, sI 1]) rfl ?_
      refine XS.aloadN X101.here hx rfl (hb hby own_d13_25) rfl rfl ?_
      exact k)
    obtain ⟨T103, X103, e103, st103⟩ := getF X101 hx hZ hown (host := "") (Or.inl hw35) Via.refl e101 Fo77 (g := (mkF m 26 #[sR a1, sJ o1, sW, sI 1, sI 2, sI 1] [(.ref a1)])) rfl rfl (hb hby own_d13_26)
    have pre104 : ∀ t, own_S p e below T103 m 31 #[sR a1, sJ o1, sW, sI 1, sI 2, sI 1] [(.int 1), (.ref ao77)] t → R0 t := fun t k => pre102 t (by
      refine st103 _ ?_
      refine XS.iload X103.here hx rfl (hb hby own_d13_29) rfl ?_
      exact k)
    obtain ⟨cl105, Ar105, q105, S105, N105, H105, G105⟩ := id Vo77
    have hin105 := inb_of (j := (1 : Int32)) S105 ⟨by decide, by decide⟩
    have pre106 : ∀ t, own_S p e below T103 m 34 #[sR a1, sJ o1, sW, sI 1, sI 2, sI 1] [(.int (lcmpW o1 o1))] t → R0 t := fun t k => pre104 t (by
      refine X103.laload hx (j := (1 : Int32)) (v := (.long o1)) (by rw [e103]; exact Ar105.1) (State.isArrayOf_alike hZ.alike Ar105.2.1) Ar105.2.2 hin105 (H105.at hin105 rfl) (g := (mkF m 31 #[sR a1, sJ o1, sW, sI 1, sI 2, sI 1] [(.int 1), (.ref ao77)])) rfl rfl (hb hby own_d13_31) _ ?_
      refine XS.lloadN X103.here hx rfl (hb hby own_d13_32) rfl ?_
      refine XS.lcmp X103.here hx rfl (hb hby own_d13_33) rfl ?_
      exact k)
    have hc107 : ¬ (o1 < o1) := Int64.lt_irrefl
    have pre108 : ∀ t, own_S p e below T103 m 53 #[sR a1, sJ o1, sW, sI 1, sI 1, sI 1] [(.int 1)] t → R0 t := fun t k => pre106 t (by
      refine XS.ifYes X103.here hx rfl (pc0 := 34) (pc' := 45) rfl (hb hby own_d13_34) rfl ((if0 _ _).trans (flt (mt (lw_lt _ _).mp hc107)).2.1) (by decide) (by decide) ?_
      refine XS.iload X103.here hx rfl (hb hby own_d13_45) rfl ?_
      refine XS.istore X103.here hx rfl (hb hby own_d13_47) rfl (l' := #[sR a1, sJ o1, sW, sI 1, sI 1, sI 1]) rfl ?_
      refine XS.goto X103.here hx rfl (pc0 := 49) (pc' := 11) rfl (hb hby own_d13_49) (by decide) (by decide) ?_
      refine XS.iloadN X103.here hx rfl (hb hby own_d13_11) rfl ?_
      refine XS.iload X103.here hx rfl (hb hby own_d13_12) rfl ?_
      refine XS.icmpYes X103.here hx rfl (pc0 := 14) (pc' := 52) rfl (hb hby own_d13_14) rfl (flt (by decide : ¬ ((1 : Int32) < (1 : Int32)))).2.1 (by decide) (by decide) ?_
      refine XS.iloadN X103.here hx rfl (hb hby own_d13_52) rfl ?_
      exact k)
    obtain ⟨fs, hr, hrun, hended, hW, hsame⟩ := X103.leave (v := some (.int 1)) (fun h => by rw [Bd.returns] at h; cases h)
    refine ⟨_, _, cast (congrFun hR0 _) (pre108 _ (retOut X103 hx Bd.returns rfl (Or.inl ⟨rfl, Or.inl rfl, _, rfl⟩) (hb hby own_d13_53) hr)), hrun, hended, _, _, rfl, ?_, ⟨_, rfl⟩, hW, hsame.mono (by decide) (by decide)⟩
    show own_Q13j1 Z _ _ _ _ _ _ _ _ _ _ h0 n0 _ T103.heap _
    rw [e103]
    exact ⟨rfl, N0, rfl⟩
  · have hq01 := hm.1 (by decide)
    have hq12 := hm.2 (by decide)
    have hq02 := Int64.lt_trans hq01 hq12
    obtain ⟨aw109, ao109, au109, ac109, kw109, ko109, cn109, Ex109, Fw109, Fo109, Fu109, Fc109, Fe109, Fh109, Ft109, Fs109, Fn109, Vw109, Ow109, Vo109, Uu109, Uc109, la109, lb109, lc109, ld109, gq109⟩ := id hQ
    have ne110 : a1 ≠ aw109 := Nat.ne_of_lt la109
    have lt111 : a1 < ao109 := (Nat.lt_trans la109 lb109)
    have ne112 : a1 ≠ ao109 := Nat.ne_of_lt lt111
    have lt113 : a1 < au109 := (Nat.lt_trans (Nat.lt_trans la109 lb109) lc109)
    have ne114 : a1 ≠ au109 := Nat.ne_of_lt lt113
    have lt115 : a1 < ac109 := (Nat.lt_trans (Nat.lt_trans (Nat.lt_trans la109 lb109) lc109) ld109)
    have ne116 : a1 ≠ ac109 := Nat.ne_of_lt lt115
    have ne117 : aw109 ≠ ao109 := Nat.ne_of_lt lb109
    have lt118 : aw109 < au109 := (Nat.lt_trans lb109 lc109)
    have ne119 : aw109 ≠ au109 := Nat.ne_of_lt lt118
    have lt120 : aw109 < ac109 := (Nat.lt_trans (Nat.lt_trans lb109 lc109) ld109)
    have ne121 : aw109 ≠ ac109 := Nat.ne_of_lt lt120
    have ne122 : ao109 ≠ au109 := Nat.ne_of_lt lc109
    have lt123 : ao109 < ac109 := (Nat.lt_trans lc109 ld109)
    have ne124 : ao109 ≠ ac109 := Nat.ne_of_lt lt123
    have ne125 : au109 ≠ ac109 := Nat.ne_of_lt ld109
    have g126 : n0 ≤ aw109 := Nat.le_trans gq109 (Nat.le_of_lt la109)
    have g127 : n0 ≤ ao109 := Nat.le_trans gq109 (Nat.le_of_lt lt111)
    have g128 : n0 ≤ au109 := Nat.le_trans gq109 (Nat.le_of_lt lt113)
    have g129 : n0 ≤ ac109 := Nat.le_trans gq109 (Nat.le_of_lt lt115)
    have pre130 : ∀ t, own_S p e below s₁ m 1 #[sR a1, sJ o1, sW, sU, sU, sU] [(.ref a1)] t → R0 t := fun t k => pre0 t (by
      refine XS.aloadN X0.here hx rfl (hb hby own_d13_0) rfl rfl ?_
      exact k)
    obtain ⟨T131, X131, e131, st131⟩ := getF X0 hx hZ hown (host := "") (Or.inl hw74) Via.refl e0 Fh109 (g := (mkF m 1 #[sR a1, sJ o1, sW, sU, sU, sU] [(.ref a1)])) rfl rfl (hb hby own_d13_1)
    have pre132 : ∀ t, own_S p e below T131 m 6 #[sR a1, sJ o1, sW, sI 1, sU, sU] [(.ref a1)] t → R0 t := fun t k => pre130 t (by
      refine st131 _ ?_
      refine XS.istoreN X131.here hx rfl (hb hby own_d13_4) rfl (l' := #[sR a1, sJ o1, sW, sI 1, sU, sU]) rfl ?_
      refine XS.aloadN X131.here hx rfl (hb hby own_d13_5) rfl rfl ?_
      exact k)
    obtain ⟨T133, X133, e133, st133⟩ := getF X131 hx hZ hown (host := "") (Or.inl hw66) Via.refl e131 Ft109 (g := (mkF m 6 #[sR a1, sJ o1, sW, sI 1, sU, sU] [(.ref a1)])) rfl rfl (hb hby own_d13_6)
    have pre134 : ∀ t, own_S p e below T133 m 26 #[sR a1, sJ o1, sW, sI 1, sI 3, sI 2] [(.ref a1)] t → R0 t := fun t k => pre132 t (by
      refine st133 _ ?_
      refine XS.istore X133.here hx rfl (hb hby own_d13_9) rfl (l' := #[sR a1, sJ o1, sW, sI 1, sI 3, sU]) rfl ?_
      refine XS.iloadN X133.here hx rfl (hb hby own_d13_11) rfl ?_
      refine XS.iload X133.here hx rfl (hb hby own_d13_12) rfl ?_
      refine XS.icmpNo X133.here hx rfl (hb hby own_d13_14) rfl (tlt (by decide : (1 : Int32) < (3 : Int32))).2.1 ?_
      refine XS.iloadN X133.here hx rfl (hb hby own_d13_17) rfl ?_
      refine XS.iload X133.here hx rfl (hb hby own_d13_18) rfl ?_
      refine XS.iadd X133.here hx rfl (hb hby own_d13_20) rfl ?_
      refine XS.iconst X133.here hx rfl (hb hby own_d13_21) ?_
      refine XS.iushr X133.here hx rfl (hb hby own_d13_22) rfl ?_
      refine XS.istore X133.here hx rfl (hb hby own_d13_23) rfl (l' := #[sR a1, sJ o1, sW, sI 1, sI 3, sI 2]) rfl ?_
      refine XS.aloadN X133.here hx rfl (hb hby own_d13_25) rfl rfl ?_
      exact k)
    obtain ⟨T135, X135, e135, st135⟩ := getF X133 hx hZ hown (host := "") (Or.inl hw35) Via.refl e133 Fo109 (g := (mkF m 26 #[sR a1, sJ o1, sW, sI 1, sI 3, sI 2] [(.ref a1)])) rfl rfl (hb hby own_d13_26)
    have pre136 : ∀ t, own_S p e below T135 m 31 #[sR a1, sJ o1, sW, sI 1, sI 3, sI 2] [(.int 2), (.ref ao109)] t → R0 t := fun t k => pre134 t (by
      refine st135 _ ?_
      refine XS.iload X135.here hx rfl (hb hby own_d13_29) rfl ?_
      exact k)
    obtain ⟨cl137, Ar137, q137, S137, N137, H137, G137⟩ := id Vo109
    have hin137 := inb_of (j := (2 : Int32)) S137 ⟨by decide, by decide⟩
    have pre138 : ∀ t, own_S p e below T135 m 34 #[sR a1, sJ o1, sW, sI 1, sI 3, sI 2] [(.int (lcmpW o2 o1))] t → R0 t := fun t k => pre136 t (by
      refine X135.laload hx (j := (2 : Int32)) (v := (.long o2)) (by rw [e135]; exact Ar137.1) (State.isArrayOf_alike hZ.alike Ar137.2.1) Ar137.2.2 hin137 (H137.at hin137 rfl) (g := (mkF m 31 #[sR a1, sJ o1, sW, sI 1, sI 3, sI 2] [(.int 2), (.ref ao109)])) rfl rfl (hb hby own_d13_31) _ ?_
      refine XS.lloadN X135.here hx rfl (hb hby own_d13_32) rfl ?_
      refine XS.lcmp X135.here hx rfl (hb hby own_d13_33) rfl ?_
      exact k)
    have hc139 : ¬ (o2 < o1) := fun q => Int64.lt_irrefl (Int64.lt_trans q hq12)
    have pre140 : ∀ t, own_S p e below T135 m 26 #[sR a1, sJ o1, sW, sI 1, sI 2, sI 1] [(.ref a1)] t → R0 t := fun t k => pre138 t (by
      refine XS.ifYes X135.here hx rfl (pc0 := 34) (pc' := 45) rfl (hb hby own_d13_34) rfl ((if0 _ _).trans (flt (mt (lw_lt _ _).mp hc139)).2.1) (by decide) (by decide) ?_
      refine XS.iload X135.here hx rfl (hb hby own_d13_45) rfl ?_
      refine XS.istore X135.here hx rfl (hb hby own_d13_47) rfl (l' := #[sR a1, sJ o1, sW, sI 1, sI 2, sI 2]) rfl ?_
      refine XS.goto X135.here hx rfl (pc0 := 49) (pc' := 11) rfl (hb hby own_d13_49) (by decide) (by decide) ?_
      refine XS.iloadN X135.here hx rfl (hb hby own_d13_11) rfl ?_
      refine XS.iload X135.here hx rfl (hb hby own_d13_12) rfl ?_
      refine XS.icmpNo X135.here hx rfl (hb hby own_d13_14) rfl (tlt (by decide : (1 : Int32) < (2 : Int32))).2.1 ?_
      refine XS.iloadN X135.here hx rfl (hb hby own_d13_17) rfl ?_
      refine XS.iload X135.here hx rfl (hb hby own_d13_18) rfl ?_
      refine XS.iadd X135.here hx rfl (hb hby own_d13_20) rfl ?_
      refine XS.iconst X135.here hx rfl (hb hby own_d13_21) ?_
      refine XS.iushr X135.here hx rfl (hb hby own_d13_22) rfl ?_
      refine XS.istore X135.here hx rfl (hb hby own_d13_23) rfl (l' := #[sR a1, sJ o1, sW, sI 1, sI 2, sI 1]) rfl ?_
      refine XS.aloadN X135.here hx rfl (hb hby own_d13_25) rfl rfl ?_
      exact k)
    obtain ⟨T141, X141, e141, st141⟩ := getF X135 hx hZ hown (host := "") (Or.inl hw35) Via.refl e135 Fo109 (g := (mkF m 26 #[sR a1, sJ o1, sW, sI 1, sI 2, sI 1] [(.ref a1)])) rfl rfl (hb hby own_d13_26)
    have pre142 : ∀ t, own_S p e below T141 m 31 #[sR a1, sJ o1, sW, sI 1, sI 2, sI 1] [(.int 1), (.ref ao109)] t → R0 t := fun t k => pre140 t (by
      refine st141 _ ?_
      refine XS.iload X141.here hx rfl (hb hby own_d13_29) rfl ?_
      exact k)
    obtain ⟨cl143, Ar143, q143, S143, N143, H143, G143⟩ := id Vo109
    have hin143 := inb_of (j := (1 : Int32)) S143 ⟨by decide, by decide⟩
    have pre144 : ∀ t, own_S p e below T141 m 34 #[sR a1, sJ o1, sW, sI 1, sI 2, sI 1] [(.int (lcmpW o1 o1))] t → R0 t := fun t k => pre142 t (by
      refine X141.laload hx (j := (1 : Int32)) (v := (.long o1)) (by rw [e141]; exact Ar143.1) (State.isArrayOf_alike hZ.alike Ar143.2.1) Ar143.2.2 hin143 (H143.at hin143 rfl) (g := (mkF m 31 #[sR a1, sJ o1, sW, sI 1, sI 2, sI 1] [(.int 1), (.ref ao109)])) rfl rfl (hb hby own_d13_31) _ ?_
      refine XS.lloadN X141.here hx rfl (hb hby own_d13_32) rfl ?_
      refine XS.lcmp X141.here hx rfl (hb hby own_d13_33) rfl ?_
      exact k)
    have hc145 : ¬ (o1 < o1) := Int64.lt_irrefl
    have pre146 : ∀ t, own_S p e below T141 m 53 #[sR a1, sJ o1, sW, sI 1, sI 1, sI 1] [(.int 1)] t → R0 t := fun t k => pre144 t (by
      refine XS.ifYes X141.here hx rfl (pc0 := 34) (pc' := 45) rfl (hb hby own_d13_34) rfl ((if0 _ _).trans (flt (mt (lw_lt _ _).mp hc145)).2.1) (by decide) (by decide) ?_
      refine XS.iload X141.here hx rfl (hb hby own_d13_45) rfl ?_
      refine XS.istore X141.here hx rfl (hb hby own_d13_47) rfl (l' := #[sR a1, sJ o1, sW, sI 1, sI 1, sI 1]) rfl ?_
      refine XS.goto X141.here hx rfl (pc0 := 49) (pc' := 11) rfl (hb hby own_d13_49) (by decide) (by decide) ?_
      refine XS.iloadN X141.here hx rfl (hb hby own_d13_11) rfl ?_
      refine XS.iload X141.here hx rfl (hb hby own_d13_12) rfl ?_
      refine XS.icmpYes X141.here hx rfl (pc0 := 14) (pc' := 52) rfl (hb hby own_d13_14) rfl (flt (by decide : ¬ ((1 : Int32) < (1 : Int32)))).2.1 (by decide) (by decide) ?_
      refine XS.iloadN X141.here hx rfl (hb hby own_d13_52) rfl ?_
      exact k)
    obtain ⟨fs, hr, hrun, hended, hW, hsame⟩ := X141.leave (v := some (.int 1)) (fun h => by rw [Bd.returns] at h; cases h)
    refine ⟨_, _, cast (congrFun hR0 _) (pre146 _ (retOut X141 hx Bd.returns rfl (Or.inl ⟨rfl, Or.inl rfl, _, rfl⟩) (hb hby own_d13_53) hr)), hrun, hended, _, _, rfl, ?_, ⟨_, rfl⟩, hW, hsame.mono (by decide) (by decide)⟩
    show own_Q13j1 Z _ _ _ _ _ _ _ _ _ _ h0 n0 _ T141.heap _
    rw [e141]
    exact ⟨rfl, N0, rfl⟩
theorem own_ef_12j1 (m : MethodId) (x0 : Addr) (x1 : Addr) : entryFrame m #[(.ref x0), (.ref x1)] 3 = mkF m 0 #[sR x0, sR x1, .unset] [] := by first | (simp [entryFrame, mkF, argsToLocals, Value.category]; done) | rfl
def own_Q12j1 (Z : State) (a1 : Addr) (a2 : Addr) (x0 : Value) (x2 : Value) (o0 : Int64) (o1 : Int64) (o2 : Int64) (hd : Int32) (tl : Int32) (sz : Int32) (h0 : Heap) (n0 : Nat) (v : Option Value) (h : Heap) (L : List Loc) : Prop := v = some (.int 1) ∧ Fr n0 L ∧ h = h0
set_option maxRecDepth 65536 in
set_option maxHeartbeats 40000000 in
theorem own_rm12j1 (l : Launch) (Z : State) (a0 : Array Value) (hw : ∀ d ∈ tables_1, d.before a0 Z = true) (ws : List Jvm.Cond) (a1 : Addr) (a2 : Addr) (x0 : Value) (x2 : Value) (o0 : Int64) (o1 : Int64) (o2 : Int64) (hd : Int32) (tl : Int32) (sz : Int32) (h0 : Heap) (n0 : Nat) (Z0 : n0 ≤ h0.size) (hQ : own_QI Z h0 n0 a1 x0 (.ref a2) x2 o0 o1 o2 hd tl sz) (E_a2 : Exa Z h0 a2 "com/example/adlim/adlim/client/Waiter") (F_order_a2 : Fld Z h0 a2 "com/example/adlim/adlim/client/Waiter" "order" "J" (.long o1)) (hc : (hd = (0 : Int32) ∧ tl = (2 : Int32)) ∨ (hd = (0 : Int32) ∧ tl = (3 : Int32)) ∨ (hd = (1 : Int32) ∧ tl = (2 : Int32)) ∨ (hd = (1 : Int32) ∧ tl = (3 : Int32))) (hm : ((1 : Int32) < tl → o0 < o1) ∧ ((2 : Int32) < tl → o1 < o2)) :
    MetFree l own_y9 (head1 (Jvm.Cond.code own_y9 prog_63_method_14_code 3 (some .int) :: ws) ({ frames := 1, cells := 0, slots := 0, locals := 17 } : Room)) (fun a U => a = #[(.ref a1), (.ref a2)] ∧ Z.Warmed39 U.vm ∧ U.heap = h0) (fun _ _ _ _ _ => True) (fun _ U o U' => ∃ v L, o = .returned v ∧ own_Q12j1 Z a1 a2 x0 x2 o0 o1 o2 hd tl sz h0 n0 v U'.heap L ∧ FrameEnd U o U' L ({ frames := 1, cells := 0, slots := 0, locals := 17 } : Room).cells ({ frames := 1, cells := 0, slots := 0, locals := 17 } : Room).slots) := by
  refine MetFree.of_bodySF (plainFor_of_name own_pn_2) hisR ?_
  intro p e s m args below meth c s₁ Bd hml0 hP hK
  obtain ⟨rfl, hZ, hh⟩ := hP
  have hw2 := hw _ (List.mem_of_getElem? (i := 2) rfl)
  have hw24 := hw _ (List.mem_of_getElem? (i := 24) rfl)
  have hw25 := hw _ (List.mem_of_getElem? (i := 25) rfl)
  have hw32 := hw _ (List.mem_of_getElem? (i := 32) rfl)
  have hw66 := hw _ (List.mem_of_getElem? (i := 66) rfl)
  have hw69 := hw _ (List.mem_of_getElem? (i := 69) rfl)
  have hw70 := hw _ (List.mem_of_getElem? (i := 70) rfl)
  have hw71 := hw _ (List.mem_of_getElem? (i := 71) rfl)
  have hw72 := hw _ (List.mem_of_getElem? (i := 72) rfl)
  have hw73 := hw _ (List.mem_of_getElem? (i := 73) rfl)
  have hw91 := hw _ (List.mem_of_getElem? (i := 91) rfl)
  have hw92 := hw _ (List.mem_of_getElem? (i := 92) rfl)
  have hw93 := hw _ (List.mem_of_getElem? (i := 93) rfl)
  have hw94 := hw _ (List.mem_of_getElem? (i := 94) rfl)
  have hx := Bd.exec
  have hby := Bd.bytes
  have hml : c.maxLocals = 3 := hml0
  have hown : s.vm.findClass "com/example/adlim/adlim/client/WaiterQueue" = some m.cls := findClass_of_methodNamed Bd.named
  have hnm := (name_of_methodNamed Bd.named Bd.method).1
  have X0 : Stand p l e ({ frames := 1, cells := 0, slots := 0, locals := 17 } : Room) s m #[(.ref a1), (.ref a2)] below meth c s₁ [] 0 0 := Stand.of_body Bd
  have e0 : s₁.heap = h0 := by rw [← hh, Bd.state]; rfl
  have N0 := Fr.nil n0
  obtain ⟨R0, hR0⟩ : ∃ R : State → Prop, R = fun t => Steps p.tables e below (s₁.setTop (entryFrame m #[(.ref a1), (.ref a2)] 3)) t := ⟨_, rfl⟩
  have pre0 : ∀ t, Steps p.tables e below (s₁.setTop (mkF m 0 #[sR a1, sR a2, sU] [])) t → R0 t := fun t k => by rw [hR0]; exact castTop (own_ef_12j1 m a1 a2) k
  obtain ⟨aw1, ao1, au1, ac1, kw1, ko1, cn1, Ex1, Fw1, Fo1, Fu1, Fc1, Fe1, Fh1, Ft1, Fs1, Fn1, Vw1, Ow1, Vo1, Uu1, Uc1, la1, lb1, lc1, ld1, gq1⟩ := id hQ
  have ne2 : a1 ≠ aw1 := Nat.ne_of_lt la1
  have lt3 : a1 < ao1 := (Nat.lt_trans la1 lb1)
  have ne4 : a1 ≠ ao1 := Nat.ne_of_lt lt3
  have lt5 : a1 < au1 := (Nat.lt_trans (Nat.lt_trans la1 lb1) lc1)
  have ne6 : a1 ≠ au1 := Nat.ne_of_lt lt5
  have lt7 : a1 < ac1 := (Nat.lt_trans (Nat.lt_trans (Nat.lt_trans la1 lb1) lc1) ld1)
  have ne8 : a1 ≠ ac1 := Nat.ne_of_lt lt7
  have ne9 : aw1 ≠ ao1 := Nat.ne_of_lt lb1
  have lt10 : aw1 < au1 := (Nat.lt_trans lb1 lc1)
  have ne11 : aw1 ≠ au1 := Nat.ne_of_lt lt10
  have lt12 : aw1 < ac1 := (Nat.lt_trans (Nat.lt_trans lb1 lc1) ld1)
  have ne13 : aw1 ≠ ac1 := Nat.ne_of_lt lt12
  have ne14 : ao1 ≠ au1 := Nat.ne_of_lt lc1
  have lt15 : ao1 < ac1 := (Nat.lt_trans lc1 ld1)
  have ne16 : ao1 ≠ ac1 := Nat.ne_of_lt lt15
  have ne17 : au1 ≠ ac1 := Nat.ne_of_lt ld1
  have g18 : n0 ≤ aw1 := Nat.le_trans gq1 (Nat.le_of_lt la1)
  have g19 : n0 ≤ ao1 := Nat.le_trans gq1 (Nat.le_of_lt lt3)
  have g20 : n0 ≤ au1 := Nat.le_trans gq1 (Nat.le_of_lt lt5)
  have g21 : n0 ≤ ac1 := Nat.le_trans gq1 (Nat.le_of_lt lt7)
  have pre22 : ∀ t, own_S p e below s₁ m 2 #[sR a1, sR a2, sU] [(.ref a2), (.ref a1)] t → R0 t := fun t k => pre0 t (by
    refine XS.aloadN X0.here hx rfl (hb hby own_d12_0) rfl rfl ?_
    refine XS.aloadN X0.here hx rfl (hb hby own_d12_1) rfl rfl ?_
    exact k)
  obtain ⟨cq23, kq23, q23a, q23b, q23c⟩ := isOf hZ e0 E_a2
  obtain ⟨_, _, ⟨T23, L23, k23, n23⟩, -, X23, ⟨Lc23, hQ23, l23, y23, z23⟩, st23⟩ := X0.virtualBack hx (y := own_y2) (z := own_y2) hown (mvT hZ hw69) (mvT hZ hw70) (notFace_of_selects (args := #[]) (mvT hZ hw72)) (mvT hZ hw72) (mvT hZ hw71) (by decide) (backOf (W := 1) (own_rm9 l Z a0 hw [] a2 o1 h0 n0 Z0 F_order_a2) hZ hw73 hw2 (by decide) (by decide)) q23a q23c (g := (mkF m 2 #[sR a1, sR a2, sU] [(.ref a2), (.ref a1)])) rfl (by rw [hml]; rfl) (Steps.refl _) (argsL := []) (rest := [(.ref a1)]) (lenOf own_pd_1 rfl) rfl (by show 2 * 0 + _ ≤ _; exact Nat.le_of_eq rfl) (hb hby own_d12_2) (fun _ _ => ⟨rfl, e0, (by decide : 0 + 0 ≤ _), (by decide : 0 + 0 ≤ _)⟩)
  dsimp only [Pt.U, Pt.locs, Pt.cells, Pt.slots] at X23 l23 y23 z23 st23 hQ23
  subst l23 y23 z23
  obtain ⟨rfl, N23q, eh23⟩ := hQ23
  have N23 := Fr.app N0 N23q
  have pre24 : ∀ t, own_S p e below T23 m 5 #[sR a1, sR a2, sU] [(.long o1), (.ref a1)] t → R0 t := fun t k => pre22 t (by
    refine st23.trans ?_
    exact k)
  have Q25 : own_QI Z h0 n0 a1 x0 (.ref a2) x2 o0 o1 o2 hd tl sz := ⟨aw1, ao1, au1, ac1, kw1, ko1, cn1, Ex1, Fw1, Fo1, Fu1, Fc1, Fe1, Fh1, Ft1, Fs1, Fn1, Vw1, Ow1, Vo1, Uu1, Uc1, la1, lb1, lc1, ld1, gq1⟩
  have hp26 : (hd = (0 : Int32) ∧ tl = (2 : Int32)) ∨ (hd = (0 : Int32) ∧ tl = (3 : Int32)) ∨ (hd = (1 : Int32) ∧ tl = (2 : Int32)) ∨ (hd = (1 : Int32) ∧ tl = (3 : Int32)) := hc
  have hp27 : ((1 : Int32) < tl → o0 < o1) ∧ ((2 : Int32) < tl → o1 < o2) := hm
  obtain ⟨cq28, q28, q28'⟩ := Ex1.cell
  obtain ⟨_, _, ⟨T28, L28, k28, n28⟩, -, X28, ⟨Lc28, hQ28, l28, y28, z28⟩, st28⟩ := X23.privateBack hx (y := own_y8) hown (mvT hZ hw91) (mvT hZ hw92) (own_selp hZ hw24 hw93 hw92 (by decide)) (Cond.privateMethod_at (mvP hZ hw93 (args := #[]))) (mvT hZ hw94) (by decide) (backOf (W := 0) (own_rm13j1 l Z a0 hw [] a1 o1 x0 (.ref a2) x2 o0 o2 hd tl sz h0 n0 Z0 Q25 hp26 hp27) hZ hw94 hw25 (by decide) (by decide)) (g := (mkF m 5 #[sR a1, sR a2, sU] [(.long o1), (.ref a1)])) rfl (by rw [hml]; rfl) (Steps.refl _) (a := a1) (by rw [eh23]; exact q28) q28' (argsL := [(.long o1)]) (rest := []) (lenOf own_pd_3 rfl) rfl (by show 2 * 0 + _ ≤ _; exact Nat.le_of_eq rfl) (hb hby own_d12_5) (fun _ _ => ⟨rfl, eh23, (by decide : 0 + 0 ≤ _), (by decide : 0 + 0 ≤ _)⟩)
  dsimp only [Pt.U, Pt.locs, Pt.cells, Pt.slots] at X28 l28 y28 z28 st28 hQ28
  subst l28 y28 z28
  obtain ⟨rfl, N28q, eh28⟩ := hQ28
  have N28 := Fr.app N23 N28q
  have pre29 : ∀ t, own_S p e below T28 m 11 #[sR a1, sR a2, sI 1] [(.ref a1), (.int 1)] t → R0 t := fun t k => pre24 t (by
    refine st28.trans ?_
    refine XS.istoreN X28.here hx rfl (hb hby own_d12_8) rfl (l' := #[sR a1, sR a2, sI 1]) rfl ?_
    refine XS.iloadN X28.here hx rfl (hb hby own_d12_9) rfl ?_
    refine XS.aloadN X28.here hx rfl (hb hby own_d12_10) rfl rfl ?_
    exact k)
  obtain ⟨T30, X30, e30, st30⟩ := getF X28 hx hZ hown (host := "") (Or.inl hw66) Via.refl eh28 Ft1 (g := (mkF m 11 #[sR a1, sR a2, sI 1] [(.ref a1), (.int 1)])) rfl rfl (hb hby own_d12_11)
  have pre31 : ∀ t, own_S p e below T30 m 14 #[sR a1, sR a2, sI 1] [(.int tl), (.int 1)] t → R0 t := fun t k => pre29 t (by
    refine st30 _ ?_
    exact k)
  have hc32 : (1 : Int32) < tl := by rcases hc with ⟨-, rfl⟩ | ⟨-, rfl⟩ | ⟨-, rfl⟩ | ⟨-, rfl⟩ <;> decide
  have pre33 : ∀ t, own_S p e below T30 m 18 #[sR a1, sR a2, sI 1] [(.ref a1)] t → R0 t := fun t k => pre31 t (by
    refine XS.icmpNo X30.here hx rfl (hb hby own_d12_14) rfl (tlt hc32).2.1 ?_
    refine XS.aloadN X30.here hx rfl (hb hby own_d12_17) rfl rfl ?_
    exact k)
  obtain ⟨T34, X34, e34, st34⟩ := getF X30 hx hZ hown (host := "") (Or.inl hw32) Via.refl e30 Fw1 (g := (mkF m 18 #[sR a1, sR a2, sI 1] [(.ref a1)])) rfl rfl (hb hby own_d12_18)
  have pre35 : ∀ t, own_S p e below T34 m 22 #[sR a1, sR a2, sI 1] [(.int 1), (.ref aw1)] t → R0 t := fun t k => pre33 t (by
    refine st34 _ ?_
    refine XS.iloadN X34.here hx rfl (hb hby own_d12_21) rfl ?_
    exact k)
  obtain ⟨cl36, Ar36, q36, S36, N36, H36, G36⟩ := id Vw1
  have hin36 := inb_of (j := (1 : Int32)) S36 ⟨by decide, by decide⟩
  have pre37 : ∀ t, own_S p e below T34 m 32 #[sR a1, sR a2, sI 1] [(.int 1)] t → R0 t := fun t k => pre35 t (by
    refine X34.aaload hx (j := (1 : Int32)) (v := (.ref a2)) (by rw [e34]; exact Ar36.1) (State.isArrayOf_alike hZ.alike Ar36.2.1) rfl Ar36.2.2 hin36 (H36.at hin36 rfl) (g := (mkF m 22 #[sR a1, sR a2, sI 1] [(.int 1), (.ref aw1)])) rfl rfl (hb hby own_d12_22) _ ?_
    refine XS.aloadN X34.here hx rfl (hb hby own_d12_23) rfl rfl ?_
    refine Jvm.RoadKit.acmp (g := (mkF m 24 #[sR a1, sR a2, sI 1] [(.ref a2), (.ref a2)])) X34 hx rfl rfl rfl (pc0 := 24) (pc' := 27) (same := true) rfl (hb hby own_d12_24) rfl (decide_eq_true rfl) (by decide) (by decide) ?_
    refine XS.iloadN X34.here hx rfl (hb hby own_d12_27) rfl ?_
    refine XS.goto X34.here hx rfl (pc0 := 28) (pc' := 32) rfl (hb hby own_d12_28) (by decide) (by decide) ?_
    exact k)
  obtain ⟨fs, hr, hrun, hended, hW, hsame⟩ := X34.leave (v := some (.int 1)) (fun h => by rw [Bd.returns] at h; cases h)
  refine ⟨_, _, cast (congrFun hR0 _) (pre37 _ (retOut X34 hx Bd.returns rfl (Or.inl ⟨rfl, Or.inl rfl, _, rfl⟩) (hb hby own_d12_32) hr)), hrun, hended, _, _, rfl, ?_, ⟨_, rfl⟩, hW, hsame.mono (by decide) (by decide)⟩
  show own_Q12j1 Z _ _ _ _ _ _ _ _ _ _ h0 n0 _ T34.heap _
  rw [e34]
  exact ⟨rfl, N28, rfl⟩
theorem own_ef_11j1 (m : MethodId) (x0 : Addr) (x1 : Addr) : entryFrame m #[(.ref x0), (.ref x1)] 3 = mkF m 0 #[sR x0, sR x1, .unset] [] := by first | (simp [entryFrame, mkF, argsToLocals, Value.category]; done) | rfl
def own_Q11j1 (Z : State) (a1 : Addr) (a2 : Addr) (x0 : Value) (x2 : Value) (o0 : Int64) (o1 : Int64) (o2 : Int64) (hd : Int32) (tl : Int32) (sz : Int32) (h0 : Heap) (n0 : Nat) (v : Option Value) (h : Heap) (L : List Loc) : Prop := v = none ∧ Fr n0 L ∧ own_Low a1 h0 h ∧ own_QI Z h n0 a1 x0 .null x2 o0 o1 o2 hd tl (sz - (1 : Int32))
set_option maxRecDepth 65536 in
set_option maxHeartbeats 40000000 in
theorem own_rm11j1 (l : Launch) (Z : State) (a0 : Array Value) (hw : ∀ d ∈ tables_1, d.before a0 Z = true) (ws : List Jvm.Cond) (a1 : Addr) (a2 : Addr) (x0 : Value) (x2 : Value) (o0 : Int64) (o1 : Int64) (o2 : Int64) (hd : Int32) (tl : Int32) (sz : Int32) (h0 : Heap) (n0 : Nat) (Z0 : n0 ≤ h0.size) (hQ : own_QI Z h0 n0 a1 x0 (.ref a2) x2 o0 o1 o2 hd tl sz) (E_a2 : Exa Z h0 a2 "com/example/adlim/adlim/client/Waiter") (F_order_a2 : Fld Z h0 a2 "com/example/adlim/adlim/client/Waiter" "order" "J" (.long o1)) (hc : (hd = (0 : Int32) ∧ tl = (2 : Int32)) ∨ (hd = (0 : Int32) ∧ tl = (3 : Int32)) ∨ (hd = (1 : Int32) ∧ tl = (2 : Int32)) ∨ (hd = (1 : Int32) ∧ tl = (3 : Int32))) (hm : ((1 : Int32) < tl → o0 < o1) ∧ ((2 : Int32) < tl → o1 < o2)) (hlt : a2 < a1) :
    MetFree l own_y10 (head1 (Jvm.Cond.code own_y10 prog_63_method_9_code 3 none :: ws) ({ frames := 2, cells := 0, slots := 0, locals := 31 } : Room)) (fun a U => a = #[(.ref a1), (.ref a2)] ∧ Z.Warmed39 U.vm ∧ U.heap = h0) (fun _ _ _ _ _ => True) (fun _ U o U' => ∃ v L, o = .returned v ∧ own_Q11j1 Z a1 a2 x0 x2 o0 o1 o2 hd tl sz h0 n0 v U'.heap L ∧ FrameEnd U o U' L ({ frames := 2, cells := 0, slots := 0, locals := 31 } : Room).cells ({ frames := 2, cells := 0, slots := 0, locals := 31 } : Room).slots) := by
  refine MetFree.of_bodySF (plainFor_of_name own_pn_2) hisR ?_
  intro p e s m args below meth c s₁ Bd hml0 hP hK
  obtain ⟨rfl, hZ, hh⟩ := hP
  have hw24 := hw _ (List.mem_of_getElem? (i := 24) rfl)
  have hw25 := hw _ (List.mem_of_getElem? (i := 25) rfl)
  have hw87 := hw _ (List.mem_of_getElem? (i := 87) rfl)
  have hw88 := hw _ (List.mem_of_getElem? (i := 88) rfl)
  have hw89 := hw _ (List.mem_of_getElem? (i := 89) rfl)
  have hw90 := hw _ (List.mem_of_getElem? (i := 90) rfl)
  have hw95 := hw _ (List.mem_of_getElem? (i := 95) rfl)
  have hw96 := hw _ (List.mem_of_getElem? (i := 96) rfl)
  have hw97 := hw _ (List.mem_of_getElem? (i := 97) rfl)
  have hw98 := hw _ (List.mem_of_getElem? (i := 98) rfl)
  have hx := Bd.exec
  have hby := Bd.bytes
  have hml : c.maxLocals = 3 := hml0
  have hown : s.vm.findClass "com/example/adlim/adlim/client/WaiterQueue" = some m.cls := findClass_of_methodNamed Bd.named
  have hnm := (name_of_methodNamed Bd.named Bd.method).1
  have X0 : Stand p l e ({ frames := 2, cells := 0, slots := 0, locals := 31 } : Room) s m #[(.ref a1), (.ref a2)] below meth c s₁ [] 0 0 := Stand.of_body Bd
  have e0 : s₁.heap = h0 := by rw [← hh, Bd.state]; rfl
  have N0 := Fr.nil n0
  obtain ⟨R0, hR0⟩ : ∃ R : State → Prop, R = fun t => Steps p.tables e below (s₁.setTop (entryFrame m #[(.ref a1), (.ref a2)] 3)) t := ⟨_, rfl⟩
  have pre0 : ∀ t, Steps p.tables e below (s₁.setTop (mkF m 0 #[sR a1, sR a2, sU] [])) t → R0 t := fun t k => by rw [hR0]; exact castTop (own_ef_11j1 m a1 a2) k
  have f1 : own_Low a1 h0 h0 := own_Low.refl _ _
  have pre2 : ∀ t, own_S p e below s₁ m 2 #[sR a1, sR a2, sU] [(.ref a2), (.ref a1)] t → R0 t := fun t k => pre0 t (by
    refine XS.aloadN X0.here hx rfl (hb hby own_d11_0) rfl rfl ?_
    refine XS.aloadN X0.here hx rfl (hb hby own_d11_1) rfl rfl ?_
    exact k)
  have hp3 : (hd = (0 : Int32) ∧ tl = (2 : Int32)) ∨ (hd = (0 : Int32) ∧ tl = (3 : Int32)) ∨ (hd = (1 : Int32) ∧ tl = (2 : Int32)) ∨ (hd = (1 : Int32) ∧ tl = (3 : Int32)) := hc
  have hp4 : ((1 : Int32) < tl → o0 < o1) ∧ ((2 : Int32) < tl → o1 < o2) := hm
  have ex6 := own_QI_exa hQ
  obtain ⟨cq5, q5, q5'⟩ := ex6.cell
  obtain ⟨_, _, ⟨T5, L5, k5, n5⟩, -, X5, ⟨Lc5, hQ5, l5, y5, z5⟩, st5⟩ := X0.privateBack hx (y := own_y9) hown (mvT hZ hw87) (mvT hZ hw88) (own_selp hZ hw24 hw89 hw88 (by decide)) (Cond.privateMethod_at (mvP hZ hw89 (args := #[]))) (mvT hZ hw90) (by decide) (backOf (W := 0) (own_rm12j1 l Z a0 hw [] a1 a2 x0 x2 o0 o1 o2 hd tl sz h0 n0 Z0 hQ E_a2 F_order_a2 hp3 hp4) hZ hw90 hw25 (by decide) (by decide)) (g := (mkF m 2 #[sR a1, sR a2, sU] [(.ref a2), (.ref a1)])) rfl (by rw [hml]; rfl) (Steps.refl _) (a := a1) (by rw [e0]; exact q5) q5' (argsL := [(.ref a2)]) (rest := []) (lenOf own_pd_4 rfl) rfl (by show 2 * 0 + _ ≤ _; exact Nat.le_of_eq rfl) (hb hby own_d11_2) (fun _ _ => ⟨rfl, e0, (by decide : 0 + 0 ≤ _), (by decide : 0 + 0 ≤ _)⟩)
  dsimp only [Pt.U, Pt.locs, Pt.cells, Pt.slots] at X5 l5 y5 z5 st5 hQ5
  subst l5 y5 z5
  obtain ⟨rfl, N5q, eh5⟩ := hQ5
  have N5 := Fr.app N0 N5q
  have pre7 : ∀ t, own_S p e below T5 m 12 #[sR a1, sR a2, sI 1] [(.int 1), (.ref a1)] t → R0 t := fun t k => pre2 t (by
    refine st5.trans ?_
    refine XS.istoreN X5.here hx rfl (hb hby own_d11_5) rfl (l' := #[sR a1, sR a2, sI 1]) rfl ?_
    refine XS.iloadN X5.here hx rfl (hb hby own_d11_6) rfl ?_
    refine XS.ifNo X5.here hx rfl (hb hby own_d11_7) rfl ((if0 _ _).trans (flt (by decide : ¬ ((1 : Int32) < (0 : Int32)))).1) ?_
    refine XS.aloadN X5.here hx rfl (hb hby own_d11_10) rfl rfl ?_
    refine XS.iloadN X5.here hx rfl (hb hby own_d11_11) rfl ?_
    exact k)
  have ex9 := own_QI_exa hQ
  obtain ⟨cq8, q8, q8'⟩ := ex9.cell
  obtain ⟨_, _, ⟨T8, L8, k8, n8⟩, -, X8, ⟨Lc8, hQ8, l8, y8, z8⟩, st8⟩ := X5.privateBack hx (y := own_y7) hown (mvT hZ hw95) (mvT hZ hw96) (own_selp hZ hw24 hw97 hw96 (by decide)) (Cond.privateMethod_at (mvP hZ hw97 (args := #[]))) (mvT hZ hw98) (by decide) (backOf (W := 0) (own_rm14j1 l Z a0 hw [] a1 x0 a2 x2 o0 o1 o2 hd tl sz h0 n0 Z0 hQ) hZ hw98 hw25 (by decide) (by decide)) (g := (mkF m 12 #[sR a1, sR a2, sI 1] [(.int 1), (.ref a1)])) rfl (by rw [hml]; rfl) (Steps.refl _) (a := a1) (by rw [eh5]; exact q8) q8' (argsL := [(.int 1)]) (rest := []) (lenOf own_pd_5 rfl) rfl (by show 2 * 0 + _ ≤ _; exact Nat.le_of_eq rfl) (hb hby own_d11_12) (fun _ _ => ⟨rfl, eh5, (by decide : 0 + 0 ≤ _), (by decide : 0 + 0 ≤ _)⟩)
  dsimp only [Pt.U, Pt.locs, Pt.cells, Pt.slots] at X8 l8 y8 z8 st8 hQ8
  subst l8 y8 z8
  obtain ⟨rfl, N8q, Lw8, Qw8⟩ := hQ8
  have f10 := Nat.le_trans Z0 Lw8.1
  have f11 := Lw8.exa E_a2 hlt
  have f12 := Lw8.fld F_order_a2 hlt
  have f13 := f1.trans Lw8
  have Q14 : own_QI Z T8.heap n0 a1 x0 .null x2 o0 o1 o2 hd tl (sz - (1 : Int32)) := Qw8
  have N8 := Fr.app N5 N8q
  have pre15 : ∀ t, own_S p e below T8 m 15 #[sR a1, sR a2, sI 1] [] t → R0 t := fun t k => pre7 t (by
    refine st8.trans ?_
    exact k)
  obtain ⟨fs, hr, hrun, hended, hW, hsame⟩ := X8.leave (v := none) (fun _ => rfl)
  refine ⟨_, _, cast (congrFun hR0 _) (pre15 _ (X8.returnOut hx Bd.returns (hb hby own_d11_15) hr)), hrun, hended, _, _, rfl, ?_, ⟨_, rfl⟩, hW, hsame.mono (by decide) (by decide)⟩
  show own_Q11j1 Z _ _ _ _ _ _ _ _ _ _ h0 n0 _ T8.heap _
  exact ⟨rfl, N8, f13, Q14⟩
theorem own_ef_13j2 (m : MethodId) (x0 : Addr) (x1 : Int64) : entryFrame m #[(.ref x0), (.long x1)] 6 = mkF m 0 #[sR x0, sJ x1, .second, .unset, .unset, .unset] [] := by first | (simp [entryFrame, mkF, argsToLocals, Value.category]; done) | rfl
def own_Q13j2 (Z : State) (a1 : Addr) (o2 : Int64) (x0 : Value) (x1 : Value) (x2 : Value) (o0 : Int64) (o1 : Int64) (hd : Int32) (tl : Int32) (sz : Int32) (h0 : Heap) (n0 : Nat) (v : Option Value) (h : Heap) (L : List Loc) : Prop := v = some (.int 2) ∧ Fr n0 L ∧ h = h0
set_option maxRecDepth 65536 in
set_option maxHeartbeats 40000000 in
theorem own_rm13j2 (l : Launch) (Z : State) (a0 : Array Value) (hw : ∀ d ∈ tables_1, d.before a0 Z = true) (ws : List Jvm.Cond) (a1 : Addr) (o2 : Int64) (x0 : Value) (x1 : Value) (x2 : Value) (o0 : Int64) (o1 : Int64) (hd : Int32) (tl : Int32) (sz : Int32) (h0 : Heap) (n0 : Nat) (Z0 : n0 ≤ h0.size) (hQ : own_QI Z h0 n0 a1 x0 x1 x2 o0 o1 o2 hd tl sz) (hc : (hd = (0 : Int32) ∧ tl = (3 : Int32)) ∨ (hd = (2 : Int32) ∧ tl = (3 : Int32))) (hm : ((1 : Int32) < tl → o0 < o1) ∧ ((2 : Int32) < tl → o1 < o2)) :
    MetFree l own_y8 (head1 (Jvm.Cond.code own_y8 prog_63_method_15_code 6 (some .int) :: ws) ({ frames := 0, cells := 0, slots := 0, locals := 0 } : Room)) (fun a U => a = #[(.ref a1), (.long o2)] ∧ Z.Warmed39 U.vm ∧ U.heap = h0) (fun _ _ _ _ _ => True) (fun _ U o U' => ∃ v L, o = .returned v ∧ own_Q13j2 Z a1 o2 x0 x1 x2 o0 o1 hd tl sz h0 n0 v U'.heap L ∧ FrameEnd U o U' L ({ frames := 0, cells := 0, slots := 0, locals := 0 } : Room).cells ({ frames := 0, cells := 0, slots := 0, locals := 0 } : Room).slots) := by
  refine MetFree.of_bodySF (plainFor_of_name own_pn_2) hisR ?_
  intro p e s m args below meth c s₁ Bd hml0 hP hK
  obtain ⟨rfl, hZ, hh⟩ := hP
  have hw35 := hw _ (List.mem_of_getElem? (i := 35) rfl)
  have hw66 := hw _ (List.mem_of_getElem? (i := 66) rfl)
  have hw74 := hw _ (List.mem_of_getElem? (i := 74) rfl)
  have hx := Bd.exec
  have hby := Bd.bytes
  have hml : c.maxLocals = 6 := hml0
  have hown : s.vm.findClass "com/example/adlim/adlim/client/WaiterQueue" = some m.cls := findClass_of_methodNamed Bd.named
  have hnm := (name_of_methodNamed Bd.named Bd.method).1
  have X0 : Stand p l e ({ frames := 0, cells := 0, slots := 0, locals := 0 } : Room) s m #[(.ref a1), (.long o2)] below meth c s₁ [] 0 0 := Stand.of_body Bd
  have e0 : s₁.heap = h0 := by rw [← hh, Bd.state]; rfl
  have N0 := Fr.nil n0
  obtain ⟨R0, hR0⟩ : ∃ R : State → Prop, R = fun t => Steps p.tables e below (s₁.setTop (entryFrame m #[(.ref a1), (.long o2)] 6)) t := ⟨_, rfl⟩
  have pre0 : ∀ t, Steps p.tables e below (s₁.setTop (mkF m 0 #[sR a1, sJ o2, sW, sU, sU, sU] [])) t → R0 t := fun t k => by rw [hR0]; exact castTop (own_ef_13j2 m a1 o2) k
  rcases hc with ⟨rfl, rfl⟩ | ⟨rfl, rfl⟩
  · have hq01 := hm.1 (by decide)
    have hq12 := hm.2 (by decide)
    have hq02 := Int64.lt_trans hq01 hq12
    obtain ⟨aw1, ao1, au1, ac1, kw1, ko1, cn1, Ex1, Fw1, Fo1, Fu1, Fc1, Fe1, Fh1, Ft1, Fs1, Fn1, Vw1, Ow1, Vo1, Uu1, Uc1, la1, lb1, lc1, ld1, gq1⟩ := id hQ
    have ne2 : a1 ≠ aw1 := Nat.ne_of_lt la1
    have lt3 : a1 < ao1 := (Nat.lt_trans la1 lb1)
    have ne4 : a1 ≠ ao1 := Nat.ne_of_lt lt3
    have lt5 : a1 < au1 := (Nat.lt_trans (Nat.lt_trans la1 lb1) lc1)
    have ne6 : a1 ≠ au1 := Nat.ne_of_lt lt5
    have lt7 : a1 < ac1 := (Nat.lt_trans (Nat.lt_trans (Nat.lt_trans la1 lb1) lc1) ld1)
    have ne8 : a1 ≠ ac1 := Nat.ne_of_lt lt7
    have ne9 : aw1 ≠ ao1 := Nat.ne_of_lt lb1
    have lt10 : aw1 < au1 := (Nat.lt_trans lb1 lc1)
    have ne11 : aw1 ≠ au1 := Nat.ne_of_lt lt10
    have lt12 : aw1 < ac1 := (Nat.lt_trans (Nat.lt_trans lb1 lc1) ld1)
    have ne13 : aw1 ≠ ac1 := Nat.ne_of_lt lt12
    have ne14 : ao1 ≠ au1 := Nat.ne_of_lt lc1
    have lt15 : ao1 < ac1 := (Nat.lt_trans lc1 ld1)
    have ne16 : ao1 ≠ ac1 := Nat.ne_of_lt lt15
    have ne17 : au1 ≠ ac1 := Nat.ne_of_lt ld1
    have g18 : n0 ≤ aw1 := Nat.le_trans gq1 (Nat.le_of_lt la1)
    have g19 : n0 ≤ ao1 := Nat.le_trans gq1 (Nat.le_of_lt lt3)
    have g20 : n0 ≤ au1 := Nat.le_trans gq1 (Nat.le_of_lt lt5)
    have g21 : n0 ≤ ac1 := Nat.le_trans gq1 (Nat.le_of_lt lt7)
    have pre22 : ∀ t, own_S p e below s₁ m 1 #[sR a1, sJ o2, sW, sU, sU, sU] [(.ref a1)] t → R0 t := fun t k => pre0 t (by
      refine XS.aloadN X0.here hx rfl (hb hby own_d13_0) rfl rfl ?_
      exact k)
    obtain ⟨T23, X23, e23, st23⟩ := getF X0 hx hZ hown (host := "") (Or.inl hw74) Via.refl e0 Fh1 (g := (mkF m 1 #[sR a1, sJ o2, sW, sU, sU, sU] [(.ref a1)])) rfl rfl (hb hby own_d13_1)
    have pre24 : ∀ t, own_S p e below T23 m 6 #[sR a1, sJ o2, sW, sI 0, sU, sU] [(.ref a1)] t → R0 t := fun t k => pre22 t (by
      refine st23 _ ?_
      refine XS.istoreN X23.here hx rfl (hb hby own_d13_4) rfl (l' := #[sR a1, sJ o2, sW, sI 0, sU, sU]) rfl ?_
      refine XS.aloadN X23.here hx rfl (hb hby own_d13_5) rfl rfl ?_
      exact k)
    obtain ⟨T25, X25, e25, st25⟩ := getF X23 hx hZ hown (host := "") (Or.inl hw66) Via.refl e23 Ft1 (g := (mkF m 6 #[sR a1, sJ o2, sW, sI 0, sU, sU] [(.ref a1)])) rfl rfl (hb hby own_d13_6)
    have pre26 : ∀ t, own_S p e below T25 m 26 #[sR a1, sJ o2, sW, sI 0, sI 3, sI 1] [(.ref a1)] t → R0 t := fun t k => pre24 t (by
      refine st25 _ ?_
      refine XS.istore X25.here hx rfl (hb hby own_d13_9) rfl (l' := #[sR a1, sJ o2, sW, sI 0, sI 3, sU]) rfl ?_
      refine XS.iloadN X25.here hx rfl (hb hby own_d13_11) rfl ?_
      refine XS.iload X25.here hx rfl (hb hby own_d13_12) rfl ?_
      refine XS.icmpNo X25.here hx rfl (hb hby own_d13_14) rfl (tlt (by decide : (0 : Int32) < (3 : Int32))).2.1 ?_
      refine XS.iloadN X25.here hx rfl (hb hby own_d13_17) rfl ?_
      refine XS.iload X25.here hx rfl (hb hby own_d13_18) rfl ?_
      refine XS.iadd X25.here hx rfl (hb hby own_d13_20) rfl ?_
      refine XS.iconst X25.here hx rfl (hb hby own_d13_21) ?_
      refine XS.iushr X25.here hx rfl (hb hby own_d13_22) rfl ?_
      refine XS.istore X25.here hx rfl (hb hby own_d13_23) rfl (l' := #[sR a1, sJ o2, sW, sI 0, sI 3, sI 1]) rfl ?_
      refine XS.aloadN X25.here hx rfl (hb hby own_d13_25) rfl rfl ?_
      exact k)
    obtain ⟨T27, X27, e27, st27⟩ := getF X25 hx hZ hown (host := "") (Or.inl hw35) Via.refl e25 Fo1 (g := (mkF m 26 #[sR a1, sJ o2, sW, sI 0, sI 3, sI 1] [(.ref a1)])) rfl rfl (hb hby own_d13_26)
    have pre28 : ∀ t, own_S p e below T27 m 31 #[sR a1, sJ o2, sW, sI 0, sI 3, sI 1] [(.int 1), (.ref ao1)] t → R0 t := fun t k => pre26 t (by
      refine st27 _ ?_
      refine XS.iload X27.here hx rfl (hb hby own_d13_29) rfl ?_
      exact k)
    obtain ⟨cl29, Ar29, q29, S29, N29, H29, G29⟩ := id Vo1
    have hin29 := inb_of (j := (1 : Int32)) S29 ⟨by decide, by decide⟩
    have pre30 : ∀ t, own_S p e below T27 m 34 #[sR a1, sJ o2, sW, sI 0, sI 3, sI 1] [(.int (lcmpW o1 o2))] t → R0 t := fun t k => pre28 t (by
      refine X27.laload hx (j := (1 : Int32)) (v := (.long o1)) (by rw [e27]; exact Ar29.1) (State.isArrayOf_alike hZ.alike Ar29.2.1) Ar29.2.2 hin29 (H29.at hin29 rfl) (g := (mkF m 31 #[sR a1, sJ o2, sW, sI 0, sI 3, sI 1] [(.int 1), (.ref ao1)])) rfl rfl (hb hby own_d13_31) _ ?_
      refine XS.lloadN X27.here hx rfl (hb hby own_d13_32) rfl ?_
      refine XS.lcmp X27.here hx rfl (hb hby own_d13_33) rfl ?_
      exact k)
    have hc31 : o1 < o2 := hq12
    have pre32 : ∀ t, own_S p e below T27 m 26 #[sR a1, sJ o2, sW, sI 2, sI 3, sI 2] [(.ref a1)] t → R0 t := fun t k => pre30 t (by
      refine XS.ifNo X27.here hx rfl (hb hby own_d13_34) rfl ((if0 _ _).trans (tlt ((lw_lt _ _).mpr hc31)).2.1) ?_
      refine XS.iload X27.here hx rfl (hb hby own_d13_37) rfl ?_
      refine XS.iconst X27.here hx rfl (hb hby own_d13_39) ?_
      refine XS.iadd X27.here hx rfl (hb hby own_d13_40) rfl ?_
      refine XS.istoreN X27.here hx rfl (hb hby own_d13_41) rfl (l' := #[sR a1, sJ o2, sW, sI 2, sI 3, sI 1]) rfl ?_
      refine XS.goto X27.here hx rfl (pc0 := 42) (pc' := 49) rfl (hb hby own_d13_42) (by decide) (by decide) ?_
      refine XS.goto X27.here hx rfl (pc0 := 49) (pc' := 11) rfl (hb hby own_d13_49) (by decide) (by decide) ?_
      refine XS.iloadN X27.here hx rfl (hb hby own_d13_11) rfl ?_
      refine XS.iload X27.here hx rfl (hb hby own_d13_12) rfl ?_
      refine XS.icmpNo X27.here hx rfl (hb hby own_d13_14) rfl (tlt (by decide : (2 : Int32) < (3 : Int32))).2.1 ?_
      refine XS.iloadN X27.here hx rfl (hb hby own_d13_17) rfl ?_
      refine XS.iload X27.here hx rfl (hb hby own_d13_18) rfl ?_
      refine XS.iadd X27.here hx rfl (hb hby own_d13_20) rfl ?_
      refine XS.iconst X27.here hx rfl (hb hby own_d13_21) ?_
      refine XS.iushr X27.here hx rfl (hb hby own_d13_22) rfl ?_
      refine XS.istore X27.here hx rfl (hb hby own_d13_23) rfl (l' := #[sR a1, sJ o2, sW, sI 2, sI 3, sI 2]) rfl ?_
      refine XS.aloadN X27.here hx rfl (hb hby own_d13_25) rfl rfl ?_
      exact k)
    obtain ⟨T33, X33, e33, st33⟩ := getF X27 hx hZ hown (host := "") (Or.inl hw35) Via.refl e27 Fo1 (g := (mkF m 26 #[sR a1, sJ o2, sW, sI 2, sI 3, sI 2] [(.ref a1)])) rfl rfl (hb hby own_d13_26)
    have pre34 : ∀ t, own_S p e below T33 m 31 #[sR a1, sJ o2, sW, sI 2, sI 3, sI 2] [(.int 2), (.ref ao1)] t → R0 t := fun t k => pre32 t (by
      refine st33 _ ?_
      refine XS.iload X33.here hx rfl (hb hby own_d13_29) rfl ?_
      exact k)
    obtain ⟨cl35, Ar35, q35, S35, N35, H35, G35⟩ := id Vo1
    have hin35 := inb_of (j := (2 : Int32)) S35 ⟨by decide, by decide⟩
    have pre36 : ∀ t, own_S p e below T33 m 34 #[sR a1, sJ o2, sW, sI 2, sI 3, sI 2] [(.int (lcmpW o2 o2))] t → R0 t := fun t k => pre34 t (by
      refine X33.laload hx (j := (2 : Int32)) (v := (.long o2)) (by rw [e33]; exact Ar35.1) (State.isArrayOf_alike hZ.alike Ar35.2.1) Ar35.2.2 hin35 (H35.at hin35 rfl) (g := (mkF m 31 #[sR a1, sJ o2, sW, sI 2, sI 3, sI 2] [(.int 2), (.ref ao1)])) rfl rfl (hb hby own_d13_31) _ ?_
      refine XS.lloadN X33.here hx rfl (hb hby own_d13_32) rfl ?_
      refine XS.lcmp X33.here hx rfl (hb hby own_d13_33) rfl ?_
      exact k)
    have hc37 : ¬ (o2 < o2) := Int64.lt_irrefl
    have pre38 : ∀ t, own_S p e below T33 m 53 #[sR a1, sJ o2, sW, sI 2, sI 2, sI 2] [(.int 2)] t → R0 t := fun t k => pre36 t (by
      refine XS.ifYes X33.here hx rfl (pc0 := 34) (pc' := 45) rfl (hb hby own_d13_34) rfl ((if0 _ _).trans (flt (mt (lw_lt _ _).mp hc37)).2.1) (by decide) (by decide) ?_
      refine XS.iload X33.here hx rfl (hb hby own_d13_45) rfl ?_
      refine XS.istore X33.here hx rfl (hb hby own_d13_47) rfl (l' := #[sR a1, sJ o2, sW, sI 2, sI 2, sI 2]) rfl ?_
      refine XS.goto X33.here hx rfl (pc0 := 49) (pc' := 11) rfl (hb hby own_d13_49) (by decide) (by decide) ?_
      refine XS.iloadN X33.here hx rfl (hb hby own_d13_11) rfl ?_
      refine XS.iload X33.here hx rfl (hb hby own_d13_12) rfl ?_
      refine XS.icmpYes X33.here hx rfl (pc0 := 14) (pc' := 52) rfl (hb hby own_d13_14) rfl (flt (by decide : ¬ ((2 : Int32) < (2 : Int32)))).2.1 (by decide) (by decide) ?_
      refine XS.iloadN X33.here hx rfl (hb hby own_d13_52) rfl ?_
      exact k)
    obtain ⟨fs, hr, hrun, hended, hW, hsame⟩ := X33.leave (v := some (.int 2)) (fun h => by rw [Bd.returns] at h; cases h)
    refine ⟨_, _, cast (congrFun hR0 _) (pre38 _ (retOut X33 hx Bd.returns rfl (Or.inl ⟨rfl, Or.inl rfl, _, rfl⟩) (hb hby own_d13_53) hr)), hrun, hended, _, _, rfl, ?_, ⟨_, rfl⟩, hW, hsame.mono (by decide) (by decide)⟩
    show own_Q13j2 Z _ _ _ _ _ _ _ _ _ _ h0 n0 _ T33.heap _
    rw [e33]
    exact ⟨rfl, N0, rfl⟩
  · have hq01 := hm.1 (by decide)
    have hq12 := hm.2 (by decide)
    have hq02 := Int64.lt_trans hq01 hq12
    obtain ⟨aw39, ao39, au39, ac39, kw39, ko39, cn39, Ex39, Fw39, Fo39, Fu39, Fc39, Fe39, Fh39, Ft39, Fs39, Fn39, Vw39, Ow39, Vo39, Uu39, Uc39, la39, lb39, lc39, ld39, gq39⟩ := id hQ
    have ne40 : a1 ≠ aw39 := Nat.ne_of_lt la39
    have lt41 : a1 < ao39 := (Nat.lt_trans la39 lb39)
    have ne42 : a1 ≠ ao39 := Nat.ne_of_lt lt41
    have lt43 : a1 < au39 := (Nat.lt_trans (Nat.lt_trans la39 lb39) lc39)
    have ne44 : a1 ≠ au39 := Nat.ne_of_lt lt43
    have lt45 : a1 < ac39 := (Nat.lt_trans (Nat.lt_trans (Nat.lt_trans la39 lb39) lc39) ld39)
    have ne46 : a1 ≠ ac39 := Nat.ne_of_lt lt45
    have ne47 : aw39 ≠ ao39 := Nat.ne_of_lt lb39
    have lt48 : aw39 < au39 := (Nat.lt_trans lb39 lc39)
    have ne49 : aw39 ≠ au39 := Nat.ne_of_lt lt48
    have lt50 : aw39 < ac39 := (Nat.lt_trans (Nat.lt_trans lb39 lc39) ld39)
    have ne51 : aw39 ≠ ac39 := Nat.ne_of_lt lt50
    have ne52 : ao39 ≠ au39 := Nat.ne_of_lt lc39
    have lt53 : ao39 < ac39 := (Nat.lt_trans lc39 ld39)
    have ne54 : ao39 ≠ ac39 := Nat.ne_of_lt lt53
    have ne55 : au39 ≠ ac39 := Nat.ne_of_lt ld39
    have g56 : n0 ≤ aw39 := Nat.le_trans gq39 (Nat.le_of_lt la39)
    have g57 : n0 ≤ ao39 := Nat.le_trans gq39 (Nat.le_of_lt lt41)
    have g58 : n0 ≤ au39 := Nat.le_trans gq39 (Nat.le_of_lt lt43)
    have g59 : n0 ≤ ac39 := Nat.le_trans gq39 (Nat.le_of_lt lt45)
    have pre60 : ∀ t, own_S p e below s₁ m 1 #[sR a1, sJ o2, sW, sU, sU, sU] [(.ref a1)] t → R0 t := fun t k => pre0 t (by
      refine XS.aloadN X0.here hx rfl (hb hby own_d13_0) rfl rfl ?_
      exact k)
    obtain ⟨T61, X61, e61, st61⟩ := getF X0 hx hZ hown (host := "") (Or.inl hw74) Via.refl e0 Fh39 (g := (mkF m 1 #[sR a1, sJ o2, sW, sU, sU, sU] [(.ref a1)])) rfl rfl (hb hby own_d13_1)
    have pre62 : ∀ t, own_S p e below T61 m 6 #[sR a1, sJ o2, sW, sI 2, sU, sU] [(.ref a1)] t → R0 t := fun t k => pre60 t (by
      refine st61 _ ?_
      refine XS.istoreN X61.here hx rfl (hb hby own_d13_4) rfl (l' := #[sR a1, sJ o2, sW, sI 2, sU, sU]) rfl ?_
      refine XS.aloadN X61.here hx rfl (hb hby own_d13_5) rfl rfl ?_
      exact k)
    obtain ⟨T63, X63, e63, st63⟩ := getF X61 hx hZ hown (host := "") (Or.inl hw66) Via.refl e61 Ft39 (g := (mkF m 6 #[sR a1, sJ o2, sW, sI 2, sU, sU] [(.ref a1)])) rfl rfl (hb hby own_d13_6)
    have pre64 : ∀ t, own_S p e below T63 m 26 #[sR a1, sJ o2, sW, sI 2, sI 3, sI 2] [(.ref a1)] t → R0 t := fun t k => pre62 t (by
      refine st63 _ ?_
      refine XS.istore X63.here hx rfl (hb hby own_d13_9) rfl (l' := #[sR a1, sJ o2, sW, sI 2, sI 3, sU]) rfl ?_
      refine XS.iloadN X63.here hx rfl (hb hby own_d13_11) rfl ?_
      refine XS.iload X63.here hx rfl (hb hby own_d13_12) rfl ?_
      refine XS.icmpNo X63.here hx rfl (hb hby own_d13_14) rfl (tlt (by decide : (2 : Int32) < (3 : Int32))).2.1 ?_
      refine XS.iloadN X63.here hx rfl (hb hby own_d13_17) rfl ?_
      refine XS.iload X63.here hx rfl (hb hby own_d13_18) rfl ?_
      refine XS.iadd X63.here hx rfl (hb hby own_d13_20) rfl ?_
      refine XS.iconst X63.here hx rfl (hb hby own_d13_21) ?_
      refine XS.iushr X63.here hx rfl (hb hby own_d13_22) rfl ?_
      refine XS.istore X63.here hx rfl (hb hby own_d13_23) rfl (l' := #[sR a1, sJ o2, sW, sI 2, sI 3, sI 2]) rfl ?_
      refine XS.aloadN X63.here hx rfl (hb hby own_d13_25) rfl rfl ?_
      exact k)
    obtain ⟨T65, X65, e65, st65⟩ := getF X63 hx hZ hown (host := "") (Or.inl hw35) Via.refl e63 Fo39 (g := (mkF m 26 #[sR a1, sJ o2, sW, sI 2, sI 3, sI 2] [(.ref a1)])) rfl rfl (hb hby own_d13_26)
    have pre66 : ∀ t, own_S p e below T65 m 31 #[sR a1, sJ o2, sW, sI 2, sI 3, sI 2] [(.int 2), (.ref ao39)] t → R0 t := fun t k => pre64 t (by
      refine st65 _ ?_
      refine XS.iload X65.here hx rfl (hb hby own_d13_29) rfl ?_
      exact k)
    obtain ⟨cl67, Ar67, q67, S67, N67, H67, G67⟩ := id Vo39
    have hin67 := inb_of (j := (2 : Int32)) S67 ⟨by decide, by decide⟩
    have pre68 : ∀ t, own_S p e below T65 m 34 #[sR a1, sJ o2, sW, sI 2, sI 3, sI 2] [(.int (lcmpW o2 o2))] t → R0 t := fun t k => pre66 t (by
      refine X65.laload hx (j := (2 : Int32)) (v := (.long o2)) (by rw [e65]; exact Ar67.1) (State.isArrayOf_alike hZ.alike Ar67.2.1) Ar67.2.2 hin67 (H67.at hin67 rfl) (g := (mkF m 31 #[sR a1, sJ o2, sW, sI 2, sI 3, sI 2] [(.int 2), (.ref ao39)])) rfl rfl (hb hby own_d13_31) _ ?_
      refine XS.lloadN X65.here hx rfl (hb hby own_d13_32) rfl ?_
      refine XS.lcmp X65.here hx rfl (hb hby own_d13_33) rfl ?_
      exact k)
    have hc69 : ¬ (o2 < o2) := Int64.lt_irrefl
    have pre70 : ∀ t, own_S p e below T65 m 53 #[sR a1, sJ o2, sW, sI 2, sI 2, sI 2] [(.int 2)] t → R0 t := fun t k => pre68 t (by
      refine XS.ifYes X65.here hx rfl (pc0 := 34) (pc' := 45) rfl (hb hby own_d13_34) rfl ((if0 _ _).trans (flt (mt (lw_lt _ _).mp hc69)).2.1) (by decide) (by decide) ?_
      refine XS.iload X65.here hx rfl (hb hby own_d13_45) rfl ?_
      refine XS.istore X65.here hx rfl (hb hby own_d13_47) rfl (l' := #[sR a1, sJ o2, sW, sI 2, sI 2, sI 2]) rfl ?_
      refine XS.goto X65.here hx rfl (pc0 := 49) (pc' := 11) rfl (hb hby own_d13_49) (by decide) (by decide) ?_
      refine XS.iloadN X65.here hx rfl (hb hby own_d13_11) rfl ?_
      refine XS.iload X65.here hx rfl (hb hby own_d13_12) rfl ?_
      refine XS.icmpYes X65.here hx rfl (pc0 := 14) (pc' := 52) rfl (hb hby own_d13_14) rfl (flt (by decide : ¬ ((2 : Int32) < (2 : Int32)))).2.1 (by decide) (by decide) ?_
      refine XS.iloadN X65.here hx rfl (hb hby own_d13_52) rfl ?_
      exact k)
    obtain ⟨fs, hr, hrun, hended, hW, hsame⟩ := X65.leave (v := some (.int 2)) (fun h => by rw [Bd.returns] at h; cases h)
    refine ⟨_, _, cast (congrFun hR0 _) (pre70 _ (retOut X65 hx Bd.returns rfl (Or.inl ⟨rfl, Or.inl rfl, _, rfl⟩) (hb hby own_d13_53) hr)), hrun, hended, _, _, rfl, ?_, ⟨_, rfl⟩, hW, hsame.mono (by decide) (by decide)⟩
    show own_Q13j2 Z _ _ _ _ _ _ _ _ _ _ h0 n0 _ T65.heap _
    rw [e65]
    exact ⟨rfl, N0, rfl⟩
theorem own_ef_12j2 (m : MethodId) (x0 : Addr) (x1 : Addr) : entryFrame m #[(.ref x0), (.ref x1)] 3 = mkF m 0 #[sR x0, sR x1, .unset] [] := by first | (simp [entryFrame, mkF, argsToLocals, Value.category]; done) | rfl
def own_Q12j2 (Z : State) (a1 : Addr) (a2 : Addr) (x0 : Value) (x1 : Value) (o0 : Int64) (o1 : Int64) (o2 : Int64) (hd : Int32) (tl : Int32) (sz : Int32) (h0 : Heap) (n0 : Nat) (v : Option Value) (h : Heap) (L : List Loc) : Prop := v = some (.int 2) ∧ Fr n0 L ∧ h = h0
set_option maxRecDepth 65536 in
set_option maxHeartbeats 40000000 in
theorem own_rm12j2 (l : Launch) (Z : State) (a0 : Array Value) (hw : ∀ d ∈ tables_1, d.before a0 Z = true) (ws : List Jvm.Cond) (a1 : Addr) (a2 : Addr) (x0 : Value) (x1 : Value) (o0 : Int64) (o1 : Int64) (o2 : Int64) (hd : Int32) (tl : Int32) (sz : Int32) (h0 : Heap) (n0 : Nat) (Z0 : n0 ≤ h0.size) (hQ : own_QI Z h0 n0 a1 x0 x1 (.ref a2) o0 o1 o2 hd tl sz) (E_a2 : Exa Z h0 a2 "com/example/adlim/adlim/client/Waiter") (F_order_a2 : Fld Z h0 a2 "com/example/adlim/adlim/client/Waiter" "order" "J" (.long o2)) (hc : (hd = (0 : Int32) ∧ tl = (3 : Int32)) ∨ (hd = (2 : Int32) ∧ tl = (3 : Int32))) (hm : ((1 : Int32) < tl → o0 < o1) ∧ ((2 : Int32) < tl → o1 < o2)) :
    MetFree l own_y9 (head1 (Jvm.Cond.code own_y9 prog_63_method_14_code 3 (some .int) :: ws) ({ frames := 1, cells := 0, slots := 0, locals := 17 } : Room)) (fun a U => a = #[(.ref a1), (.ref a2)] ∧ Z.Warmed39 U.vm ∧ U.heap = h0) (fun _ _ _ _ _ => True) (fun _ U o U' => ∃ v L, o = .returned v ∧ own_Q12j2 Z a1 a2 x0 x1 o0 o1 o2 hd tl sz h0 n0 v U'.heap L ∧ FrameEnd U o U' L ({ frames := 1, cells := 0, slots := 0, locals := 17 } : Room).cells ({ frames := 1, cells := 0, slots := 0, locals := 17 } : Room).slots) := by
  refine MetFree.of_bodySF (plainFor_of_name own_pn_2) hisR ?_
  intro p e s m args below meth c s₁ Bd hml0 hP hK
  obtain ⟨rfl, hZ, hh⟩ := hP
  have hw2 := hw _ (List.mem_of_getElem? (i := 2) rfl)
  have hw24 := hw _ (List.mem_of_getElem? (i := 24) rfl)
  have hw25 := hw _ (List.mem_of_getElem? (i := 25) rfl)
  have hw32 := hw _ (List.mem_of_getElem? (i := 32) rfl)
  have hw66 := hw _ (List.mem_of_getElem? (i := 66) rfl)
  have hw69 := hw _ (List.mem_of_getElem? (i := 69) rfl)
  have hw70 := hw _ (List.mem_of_getElem? (i := 70) rfl)
  have hw71 := hw _ (List.mem_of_getElem? (i := 71) rfl)
  have hw72 := hw _ (List.mem_of_getElem? (i := 72) rfl)
  have hw73 := hw _ (List.mem_of_getElem? (i := 73) rfl)
  have hw91 := hw _ (List.mem_of_getElem? (i := 91) rfl)
  have hw92 := hw _ (List.mem_of_getElem? (i := 92) rfl)
  have hw93 := hw _ (List.mem_of_getElem? (i := 93) rfl)
  have hw94 := hw _ (List.mem_of_getElem? (i := 94) rfl)
  have hx := Bd.exec
  have hby := Bd.bytes
  have hml : c.maxLocals = 3 := hml0
  have hown : s.vm.findClass "com/example/adlim/adlim/client/WaiterQueue" = some m.cls := findClass_of_methodNamed Bd.named
  have hnm := (name_of_methodNamed Bd.named Bd.method).1
  have X0 : Stand p l e ({ frames := 1, cells := 0, slots := 0, locals := 17 } : Room) s m #[(.ref a1), (.ref a2)] below meth c s₁ [] 0 0 := Stand.of_body Bd
  have e0 : s₁.heap = h0 := by rw [← hh, Bd.state]; rfl
  have N0 := Fr.nil n0
  obtain ⟨R0, hR0⟩ : ∃ R : State → Prop, R = fun t => Steps p.tables e below (s₁.setTop (entryFrame m #[(.ref a1), (.ref a2)] 3)) t := ⟨_, rfl⟩
  have pre0 : ∀ t, Steps p.tables e below (s₁.setTop (mkF m 0 #[sR a1, sR a2, sU] [])) t → R0 t := fun t k => by rw [hR0]; exact castTop (own_ef_12j2 m a1 a2) k
  obtain ⟨aw1, ao1, au1, ac1, kw1, ko1, cn1, Ex1, Fw1, Fo1, Fu1, Fc1, Fe1, Fh1, Ft1, Fs1, Fn1, Vw1, Ow1, Vo1, Uu1, Uc1, la1, lb1, lc1, ld1, gq1⟩ := id hQ
  have ne2 : a1 ≠ aw1 := Nat.ne_of_lt la1
  have lt3 : a1 < ao1 := (Nat.lt_trans la1 lb1)
  have ne4 : a1 ≠ ao1 := Nat.ne_of_lt lt3
  have lt5 : a1 < au1 := (Nat.lt_trans (Nat.lt_trans la1 lb1) lc1)
  have ne6 : a1 ≠ au1 := Nat.ne_of_lt lt5
  have lt7 : a1 < ac1 := (Nat.lt_trans (Nat.lt_trans (Nat.lt_trans la1 lb1) lc1) ld1)
  have ne8 : a1 ≠ ac1 := Nat.ne_of_lt lt7
  have ne9 : aw1 ≠ ao1 := Nat.ne_of_lt lb1
  have lt10 : aw1 < au1 := (Nat.lt_trans lb1 lc1)
  have ne11 : aw1 ≠ au1 := Nat.ne_of_lt lt10
  have lt12 : aw1 < ac1 := (Nat.lt_trans (Nat.lt_trans lb1 lc1) ld1)
  have ne13 : aw1 ≠ ac1 := Nat.ne_of_lt lt12
  have ne14 : ao1 ≠ au1 := Nat.ne_of_lt lc1
  have lt15 : ao1 < ac1 := (Nat.lt_trans lc1 ld1)
  have ne16 : ao1 ≠ ac1 := Nat.ne_of_lt lt15
  have ne17 : au1 ≠ ac1 := Nat.ne_of_lt ld1
  have g18 : n0 ≤ aw1 := Nat.le_trans gq1 (Nat.le_of_lt la1)
  have g19 : n0 ≤ ao1 := Nat.le_trans gq1 (Nat.le_of_lt lt3)
  have g20 : n0 ≤ au1 := Nat.le_trans gq1 (Nat.le_of_lt lt5)
  have g21 : n0 ≤ ac1 := Nat.le_trans gq1 (Nat.le_of_lt lt7)
  have pre22 : ∀ t, own_S p e below s₁ m 2 #[sR a1, sR a2, sU] [(.ref a2), (.ref a1)] t → R0 t := fun t k => pre0 t (by
    refine XS.aloadN X0.here hx rfl (hb hby own_d12_0) rfl rfl ?_
    refine XS.aloadN X0.here hx rfl (hb hby own_d12_1) rfl rfl ?_
    exact k)
  obtain ⟨cq23, kq23, q23a, q23b, q23c⟩ := isOf hZ e0 E_a2
  obtain ⟨_, _, ⟨T23, L23, k23, n23⟩, -, X23, ⟨Lc23, hQ23, l23, y23, z23⟩, st23⟩ := X0.virtualBack hx (y := own_y2) (z := own_y2) hown (mvT hZ hw69) (mvT hZ hw70) (notFace_of_selects (args := #[]) (mvT hZ hw72)) (mvT hZ hw72) (mvT hZ hw71) (by decide) (backOf (W := 1) (own_rm9 l Z a0 hw [] a2 o2 h0 n0 Z0 F_order_a2) hZ hw73 hw2 (by decide) (by decide)) q23a q23c (g := (mkF m 2 #[sR a1, sR a2, sU] [(.ref a2), (.ref a1)])) rfl (by rw [hml]; rfl) (Steps.refl _) (argsL := []) (rest := [(.ref a1)]) (lenOf own_pd_1 rfl) rfl (by show 2 * 0 + _ ≤ _; exact Nat.le_of_eq rfl) (hb hby own_d12_2) (fun _ _ => ⟨rfl, e0, (by decide : 0 + 0 ≤ _), (by decide : 0 + 0 ≤ _)⟩)
  dsimp only [Pt.U, Pt.locs, Pt.cells, Pt.slots] at X23 l23 y23 z23 st23 hQ23
  subst l23 y23 z23
  obtain ⟨rfl, N23q, eh23⟩ := hQ23
  have N23 := Fr.app N0 N23q
  have pre24 : ∀ t, own_S p e below T23 m 5 #[sR a1, sR a2, sU] [(.long o2), (.ref a1)] t → R0 t := fun t k => pre22 t (by
    refine st23.trans ?_
    exact k)
  have Q25 : own_QI Z h0 n0 a1 x0 x1 (.ref a2) o0 o1 o2 hd tl sz := ⟨aw1, ao1, au1, ac1, kw1, ko1, cn1, Ex1, Fw1, Fo1, Fu1, Fc1, Fe1, Fh1, Ft1, Fs1, Fn1, Vw1, Ow1, Vo1, Uu1, Uc1, la1, lb1, lc1, ld1, gq1⟩
  have hp26 : (hd = (0 : Int32) ∧ tl = (3 : Int32)) ∨ (hd = (2 : Int32) ∧ tl = (3 : Int32)) := hc
  have hp27 : ((1 : Int32) < tl → o0 < o1) ∧ ((2 : Int32) < tl → o1 < o2) := hm
  obtain ⟨cq28, q28, q28'⟩ := Ex1.cell
  obtain ⟨_, _, ⟨T28, L28, k28, n28⟩, -, X28, ⟨Lc28, hQ28, l28, y28, z28⟩, st28⟩ := X23.privateBack hx (y := own_y8) hown (mvT hZ hw91) (mvT hZ hw92) (own_selp hZ hw24 hw93 hw92 (by decide)) (Cond.privateMethod_at (mvP hZ hw93 (args := #[]))) (mvT hZ hw94) (by decide) (backOf (W := 0) (own_rm13j2 l Z a0 hw [] a1 o2 x0 x1 (.ref a2) o0 o1 hd tl sz h0 n0 Z0 Q25 hp26 hp27) hZ hw94 hw25 (by decide) (by decide)) (g := (mkF m 5 #[sR a1, sR a2, sU] [(.long o2), (.ref a1)])) rfl (by rw [hml]; rfl) (Steps.refl _) (a := a1) (by rw [eh23]; exact q28) q28' (argsL := [(.long o2)]) (rest := []) (lenOf own_pd_3 rfl) rfl (by show 2 * 0 + _ ≤ _; exact Nat.le_of_eq rfl) (hb hby own_d12_5) (fun _ _ => ⟨rfl, eh23, (by decide : 0 + 0 ≤ _), (by decide : 0 + 0 ≤ _)⟩)
  dsimp only [Pt.U, Pt.locs, Pt.cells, Pt.slots] at X28 l28 y28 z28 st28 hQ28
  subst l28 y28 z28
  obtain ⟨rfl, N28q, eh28⟩ := hQ28
  have N28 := Fr.app N23 N28q
  have pre29 : ∀ t, own_S p e below T28 m 11 #[sR a1, sR a2, sI 2] [(.ref a1), (.int 2)] t → R0 t := fun t k => pre24 t (by
    refine st28.trans ?_
    refine XS.istoreN X28.here hx rfl (hb hby own_d12_8) rfl (l' := #[sR a1, sR a2, sI 2]) rfl ?_
    refine XS.iloadN X28.here hx rfl (hb hby own_d12_9) rfl ?_
    refine XS.aloadN X28.here hx rfl (hb hby own_d12_10) rfl rfl ?_
    exact k)
  obtain ⟨T30, X30, e30, st30⟩ := getF X28 hx hZ hown (host := "") (Or.inl hw66) Via.refl eh28 Ft1 (g := (mkF m 11 #[sR a1, sR a2, sI 2] [(.ref a1), (.int 2)])) rfl rfl (hb hby own_d12_11)
  have pre31 : ∀ t, own_S p e below T30 m 14 #[sR a1, sR a2, sI 2] [(.int tl), (.int 2)] t → R0 t := fun t k => pre29 t (by
    refine st30 _ ?_
    exact k)
  have hc32 : (2 : Int32) < tl := by rcases hc with ⟨-, rfl⟩ | ⟨-, rfl⟩ <;> decide
  have pre33 : ∀ t, own_S p e below T30 m 18 #[sR a1, sR a2, sI 2] [(.ref a1)] t → R0 t := fun t k => pre31 t (by
    refine XS.icmpNo X30.here hx rfl (hb hby own_d12_14) rfl (tlt hc32).2.1 ?_
    refine XS.aloadN X30.here hx rfl (hb hby own_d12_17) rfl rfl ?_
    exact k)
  obtain ⟨T34, X34, e34, st34⟩ := getF X30 hx hZ hown (host := "") (Or.inl hw32) Via.refl e30 Fw1 (g := (mkF m 18 #[sR a1, sR a2, sI 2] [(.ref a1)])) rfl rfl (hb hby own_d12_18)
  have pre35 : ∀ t, own_S p e below T34 m 22 #[sR a1, sR a2, sI 2] [(.int 2), (.ref aw1)] t → R0 t := fun t k => pre33 t (by
    refine st34 _ ?_
    refine XS.iloadN X34.here hx rfl (hb hby own_d12_21) rfl ?_
    exact k)
  obtain ⟨cl36, Ar36, q36, S36, N36, H36, G36⟩ := id Vw1
  have hin36 := inb_of (j := (2 : Int32)) S36 ⟨by decide, by decide⟩
  have pre37 : ∀ t, own_S p e below T34 m 32 #[sR a1, sR a2, sI 2] [(.int 2)] t → R0 t := fun t k => pre35 t (by
    refine X34.aaload hx (j := (2 : Int32)) (v := (.ref a2)) (by rw [e34]; exact Ar36.1) (State.isArrayOf_alike hZ.alike Ar36.2.1) rfl Ar36.2.2 hin36 (H36.at hin36 rfl) (g := (mkF m 22 #[sR a1, sR a2, sI 2] [(.int 2), (.ref aw1)])) rfl rfl (hb hby own_d12_22) _ ?_
    refine XS.aloadN X34.here hx rfl (hb hby own_d12_23) rfl rfl ?_
    refine Jvm.RoadKit.acmp (g := (mkF m 24 #[sR a1, sR a2, sI 2] [(.ref a2), (.ref a2)])) X34 hx rfl rfl rfl (pc0 := 24) (pc' := 27) (same := true) rfl (hb hby own_d12_24) rfl (decide_eq_true rfl) (by decide) (by decide) ?_
    refine XS.iloadN X34.here hx rfl (hb hby own_d12_27) rfl ?_
    refine XS.goto X34.here hx rfl (pc0 := 28) (pc' := 32) rfl (hb hby own_d12_28) (by decide) (by decide) ?_
    exact k)
  obtain ⟨fs, hr, hrun, hended, hW, hsame⟩ := X34.leave (v := some (.int 2)) (fun h => by rw [Bd.returns] at h; cases h)
  refine ⟨_, _, cast (congrFun hR0 _) (pre37 _ (retOut X34 hx Bd.returns rfl (Or.inl ⟨rfl, Or.inl rfl, _, rfl⟩) (hb hby own_d12_32) hr)), hrun, hended, _, _, rfl, ?_, ⟨_, rfl⟩, hW, hsame.mono (by decide) (by decide)⟩
  show own_Q12j2 Z _ _ _ _ _ _ _ _ _ _ h0 n0 _ T34.heap _
  rw [e34]
  exact ⟨rfl, N28, rfl⟩
theorem own_ef_11j2 (m : MethodId) (x0 : Addr) (x1 : Addr) : entryFrame m #[(.ref x0), (.ref x1)] 3 = mkF m 0 #[sR x0, sR x1, .unset] [] := by first | (simp [entryFrame, mkF, argsToLocals, Value.category]; done) | rfl
def own_Q11j2 (Z : State) (a1 : Addr) (a2 : Addr) (x0 : Value) (x1 : Value) (o0 : Int64) (o1 : Int64) (o2 : Int64) (hd : Int32) (tl : Int32) (sz : Int32) (h0 : Heap) (n0 : Nat) (v : Option Value) (h : Heap) (L : List Loc) : Prop := v = none ∧ Fr n0 L ∧ own_Low a1 h0 h ∧ own_QI Z h n0 a1 x0 x1 .null o0 o1 o2 hd tl (sz - (1 : Int32))
set_option maxRecDepth 65536 in
set_option maxHeartbeats 40000000 in
theorem own_rm11j2 (l : Launch) (Z : State) (a0 : Array Value) (hw : ∀ d ∈ tables_1, d.before a0 Z = true) (ws : List Jvm.Cond) (a1 : Addr) (a2 : Addr) (x0 : Value) (x1 : Value) (o0 : Int64) (o1 : Int64) (o2 : Int64) (hd : Int32) (tl : Int32) (sz : Int32) (h0 : Heap) (n0 : Nat) (Z0 : n0 ≤ h0.size) (hQ : own_QI Z h0 n0 a1 x0 x1 (.ref a2) o0 o1 o2 hd tl sz) (E_a2 : Exa Z h0 a2 "com/example/adlim/adlim/client/Waiter") (F_order_a2 : Fld Z h0 a2 "com/example/adlim/adlim/client/Waiter" "order" "J" (.long o2)) (hc : (hd = (0 : Int32) ∧ tl = (3 : Int32)) ∨ (hd = (2 : Int32) ∧ tl = (3 : Int32))) (hm : ((1 : Int32) < tl → o0 < o1) ∧ ((2 : Int32) < tl → o1 < o2)) (hlt : a2 < a1) :
    MetFree l own_y10 (head1 (Jvm.Cond.code own_y10 prog_63_method_9_code 3 none :: ws) ({ frames := 2, cells := 0, slots := 0, locals := 31 } : Room)) (fun a U => a = #[(.ref a1), (.ref a2)] ∧ Z.Warmed39 U.vm ∧ U.heap = h0) (fun _ _ _ _ _ => True) (fun _ U o U' => ∃ v L, o = .returned v ∧ own_Q11j2 Z a1 a2 x0 x1 o0 o1 o2 hd tl sz h0 n0 v U'.heap L ∧ FrameEnd U o U' L ({ frames := 2, cells := 0, slots := 0, locals := 31 } : Room).cells ({ frames := 2, cells := 0, slots := 0, locals := 31 } : Room).slots) := by
  refine MetFree.of_bodySF (plainFor_of_name own_pn_2) hisR ?_
  intro p e s m args below meth c s₁ Bd hml0 hP hK
  obtain ⟨rfl, hZ, hh⟩ := hP
  have hw24 := hw _ (List.mem_of_getElem? (i := 24) rfl)
  have hw25 := hw _ (List.mem_of_getElem? (i := 25) rfl)
  have hw87 := hw _ (List.mem_of_getElem? (i := 87) rfl)
  have hw88 := hw _ (List.mem_of_getElem? (i := 88) rfl)
  have hw89 := hw _ (List.mem_of_getElem? (i := 89) rfl)
  have hw90 := hw _ (List.mem_of_getElem? (i := 90) rfl)
  have hw95 := hw _ (List.mem_of_getElem? (i := 95) rfl)
  have hw96 := hw _ (List.mem_of_getElem? (i := 96) rfl)
  have hw97 := hw _ (List.mem_of_getElem? (i := 97) rfl)
  have hw98 := hw _ (List.mem_of_getElem? (i := 98) rfl)
  have hx := Bd.exec
  have hby := Bd.bytes
  have hml : c.maxLocals = 3 := hml0
  have hown : s.vm.findClass "com/example/adlim/adlim/client/WaiterQueue" = some m.cls := findClass_of_methodNamed Bd.named
  have hnm := (name_of_methodNamed Bd.named Bd.method).1
  have X0 : Stand p l e ({ frames := 2, cells := 0, slots := 0, locals := 31 } : Room) s m #[(.ref a1), (.ref a2)] below meth c s₁ [] 0 0 := Stand.of_body Bd
  have e0 : s₁.heap = h0 := by rw [← hh, Bd.state]; rfl
  have N0 := Fr.nil n0
  obtain ⟨R0, hR0⟩ : ∃ R : State → Prop, R = fun t => Steps p.tables e below (s₁.setTop (entryFrame m #[(.ref a1), (.ref a2)] 3)) t := ⟨_, rfl⟩
  have pre0 : ∀ t, Steps p.tables e below (s₁.setTop (mkF m 0 #[sR a1, sR a2, sU] [])) t → R0 t := fun t k => by rw [hR0]; exact castTop (own_ef_11j2 m a1 a2) k
  have f1 : own_Low a1 h0 h0 := own_Low.refl _ _
  have pre2 : ∀ t, own_S p e below s₁ m 2 #[sR a1, sR a2, sU] [(.ref a2), (.ref a1)] t → R0 t := fun t k => pre0 t (by
    refine XS.aloadN X0.here hx rfl (hb hby own_d11_0) rfl rfl ?_
    refine XS.aloadN X0.here hx rfl (hb hby own_d11_1) rfl rfl ?_
    exact k)
  have hp3 : (hd = (0 : Int32) ∧ tl = (3 : Int32)) ∨ (hd = (2 : Int32) ∧ tl = (3 : Int32)) := hc
  have hp4 : ((1 : Int32) < tl → o0 < o1) ∧ ((2 : Int32) < tl → o1 < o2) := hm
  have ex6 := own_QI_exa hQ
  obtain ⟨cq5, q5, q5'⟩ := ex6.cell
  obtain ⟨_, _, ⟨T5, L5, k5, n5⟩, -, X5, ⟨Lc5, hQ5, l5, y5, z5⟩, st5⟩ := X0.privateBack hx (y := own_y9) hown (mvT hZ hw87) (mvT hZ hw88) (own_selp hZ hw24 hw89 hw88 (by decide)) (Cond.privateMethod_at (mvP hZ hw89 (args := #[]))) (mvT hZ hw90) (by decide) (backOf (W := 0) (own_rm12j2 l Z a0 hw [] a1 a2 x0 x1 o0 o1 o2 hd tl sz h0 n0 Z0 hQ E_a2 F_order_a2 hp3 hp4) hZ hw90 hw25 (by decide) (by decide)) (g := (mkF m 2 #[sR a1, sR a2, sU] [(.ref a2), (.ref a1)])) rfl (by rw [hml]; rfl) (Steps.refl _) (a := a1) (by rw [e0]; exact q5) q5' (argsL := [(.ref a2)]) (rest := []) (lenOf own_pd_4 rfl) rfl (by show 2 * 0 + _ ≤ _; exact Nat.le_of_eq rfl) (hb hby own_d11_2) (fun _ _ => ⟨rfl, e0, (by decide : 0 + 0 ≤ _), (by decide : 0 + 0 ≤ _)⟩)
  dsimp only [Pt.U, Pt.locs, Pt.cells, Pt.slots] at X5 l5 y5 z5 st5 hQ5
  subst l5 y5 z5
  obtain ⟨rfl, N5q, eh5⟩ := hQ5
  have N5 := Fr.app N0 N5q
  have pre7 : ∀ t, own_S p e below T5 m 12 #[sR a1, sR a2, sI 2] [(.int 2), (.ref a1)] t → R0 t := fun t k => pre2 t (by
    refine st5.trans ?_
    refine XS.istoreN X5.here hx rfl (hb hby own_d11_5) rfl (l' := #[sR a1, sR a2, sI 2]) rfl ?_
    refine XS.iloadN X5.here hx rfl (hb hby own_d11_6) rfl ?_
    refine XS.ifNo X5.here hx rfl (hb hby own_d11_7) rfl ((if0 _ _).trans (flt (by decide : ¬ ((2 : Int32) < (0 : Int32)))).1) ?_
    refine XS.aloadN X5.here hx rfl (hb hby own_d11_10) rfl rfl ?_
    refine XS.iloadN X5.here hx rfl (hb hby own_d11_11) rfl ?_
    exact k)
  have ex9 := own_QI_exa hQ
  obtain ⟨cq8, q8, q8'⟩ := ex9.cell
  obtain ⟨_, _, ⟨T8, L8, k8, n8⟩, -, X8, ⟨Lc8, hQ8, l8, y8, z8⟩, st8⟩ := X5.privateBack hx (y := own_y7) hown (mvT hZ hw95) (mvT hZ hw96) (own_selp hZ hw24 hw97 hw96 (by decide)) (Cond.privateMethod_at (mvP hZ hw97 (args := #[]))) (mvT hZ hw98) (by decide) (backOf (W := 0) (own_rm14j2 l Z a0 hw [] a1 x0 x1 a2 o0 o1 o2 hd tl sz h0 n0 Z0 hQ) hZ hw98 hw25 (by decide) (by decide)) (g := (mkF m 12 #[sR a1, sR a2, sI 2] [(.int 2), (.ref a1)])) rfl (by rw [hml]; rfl) (Steps.refl _) (a := a1) (by rw [eh5]; exact q8) q8' (argsL := [(.int 2)]) (rest := []) (lenOf own_pd_5 rfl) rfl (by show 2 * 0 + _ ≤ _; exact Nat.le_of_eq rfl) (hb hby own_d11_12) (fun _ _ => ⟨rfl, eh5, (by decide : 0 + 0 ≤ _), (by decide : 0 + 0 ≤ _)⟩)
  dsimp only [Pt.U, Pt.locs, Pt.cells, Pt.slots] at X8 l8 y8 z8 st8 hQ8
  subst l8 y8 z8
  obtain ⟨rfl, N8q, Lw8, Qw8⟩ := hQ8
  have f10 := Nat.le_trans Z0 Lw8.1
  have f11 := Lw8.exa E_a2 hlt
  have f12 := Lw8.fld F_order_a2 hlt
  have f13 := f1.trans Lw8
  have Q14 : own_QI Z T8.heap n0 a1 x0 x1 .null o0 o1 o2 hd tl (sz - (1 : Int32)) := Qw8
  have N8 := Fr.app N5 N8q
  have pre15 : ∀ t, own_S p e below T8 m 15 #[sR a1, sR a2, sI 2] [] t → R0 t := fun t k => pre7 t (by
    refine st8.trans ?_
    exact k)
  obtain ⟨fs, hr, hrun, hended, hW, hsame⟩ := X8.leave (v := none) (fun _ => rfl)
  refine ⟨_, _, cast (congrFun hR0 _) (pre15 _ (X8.returnOut hx Bd.returns (hb hby own_d11_15) hr)), hrun, hended, _, _, rfl, ?_, ⟨_, rfl⟩, hW, hsame.mono (by decide) (by decide)⟩
  show own_Q11j2 Z _ _ _ _ _ _ _ _ _ _ h0 n0 _ T8.heap _
  exact ⟨rfl, N8, f13, Q14⟩
theorem own_d6_0 : decode prog_63_method_7_code 0 = .ok (.aload_n 0, 1) := by decide +kernel
theorem own_d6_1 : decode prog_63_method_7_code 1 = .ok (.getfield 53, 3) := by decide +kernel
theorem own_d6_4 : decode prog_63_method_7_code 4 = .ok (.ifCond .ne 5, 3) := by decide +kernel
theorem own_d6_7 : decode prog_63_method_7_code 7 = .ok (.aconst_null, 1) := by decide +kernel
theorem own_d6_8 : decode prog_63_method_7_code 8 = .ok (.areturn, 1) := by decide +kernel
theorem own_ef_6z (m : MethodId) (x0 : Addr) : entryFrame m #[(.ref x0)] 1 = mkF m 0 #[sR x0] [] := by first | (simp [entryFrame, mkF, argsToLocals, Value.category]; done) | rfl
def own_Q6z (Z : State) (a1 : Addr) (x0 : Value) (x1 : Value) (x2 : Value) (o0 : Int64) (o1 : Int64) (o2 : Int64) (hd : Int32) (tl : Int32) (sz : Int32) (h0 : Heap) (n0 : Nat) (v : Option Value) (h : Heap) (L : List Loc) : Prop := v = some .null ∧ Fr n0 L ∧ h = h0
abbrev own_y11 : MethodName := ⟨"com/example/adlim/adlim/client/WaiterQueue", "peek", "()Lcom/example/adlim/adlim/client/Waiter;"⟩
set_option maxRecDepth 65536 in
set_option maxHeartbeats 40000000 in
theorem own_rm6z (l : Launch) (Z : State) (a0 : Array Value) (hw : ∀ d ∈ tables_1, d.before a0 Z = true) (ws : List Jvm.Cond) (a1 : Addr) (x0 : Value) (x1 : Value) (x2 : Value) (o0 : Int64) (o1 : Int64) (o2 : Int64) (hd : Int32) (tl : Int32) (sz : Int32) (h0 : Heap) (n0 : Nat) (Z0 : n0 ≤ h0.size) (hQ : own_QI Z h0 n0 a1 x0 x1 x2 o0 o1 o2 hd tl sz) (hsz : sz = (0 : Int32)) :
    MetFree l own_y11 (head1 (Jvm.Cond.code own_y11 prog_63_method_7_code 1 (some (.object "com/example/adlim/adlim/client/Waiter")) :: ws) ({ frames := 0, cells := 0, slots := 0, locals := 0 } : Room)) (fun a U => a = #[(.ref a1)] ∧ Z.Warmed39 U.vm ∧ U.heap = h0) (fun _ _ _ _ _ => True) (fun _ U o U' => ∃ v L, o = .returned v ∧ own_Q6z Z a1 x0 x1 x2 o0 o1 o2 hd tl sz h0 n0 v U'.heap L ∧ FrameEnd U o U' L ({ frames := 0, cells := 0, slots := 0, locals := 0 } : Room).cells ({ frames := 0, cells := 0, slots := 0, locals := 0 } : Room).slots) := by
  refine MetFree.of_bodySF (plainFor_of_name own_pn_2) hisR ?_
  intro p e s m args below meth c s₁ Bd hml0 hP hK
  obtain ⟨rfl, hZ, hh⟩ := hP
  have hw54 := hw _ (List.mem_of_getElem? (i := 54) rfl)
  have hx := Bd.exec
  have hby := Bd.bytes
  have hml : c.maxLocals = 1 := hml0
  have hown : s.vm.findClass "com/example/adlim/adlim/client/WaiterQueue" = some m.cls := findClass_of_methodNamed Bd.named
  have hnm := (name_of_methodNamed Bd.named Bd.method).1
  have X0 : Stand p l e ({ frames := 0, cells := 0, slots := 0, locals := 0 } : Room) s m #[(.ref a1)] below meth c s₁ [] 0 0 := Stand.of_body Bd
  have e0 : s₁.heap = h0 := by rw [← hh, Bd.state]; rfl
  have N0 := Fr.nil n0
  obtain ⟨R0, hR0⟩ : ∃ R : State → Prop, R = fun t => Steps p.tables e below (s₁.setTop (entryFrame m #[(.ref a1)] 1)) t := ⟨_, rfl⟩
  have pre0 : ∀ t, Steps p.tables e below (s₁.setTop (mkF m 0 #[sR a1] [])) t → R0 t := fun t k => by rw [hR0]; exact castTop (own_ef_6z m a1) k
  obtain ⟨aw1, ao1, au1, ac1, kw1, ko1, cn1, Ex1, Fw1, Fo1, Fu1, Fc1, Fe1, Fh1, Ft1, Fs1, Fn1, Vw1, Ow1, Vo1, Uu1, Uc1, la1, lb1, lc1, ld1, gq1⟩ := id hQ
  have ne2 : a1 ≠ aw1 := Nat.ne_of_lt la1
  have lt3 : a1 < ao1 := (Nat.lt_trans la1 lb1)
  have ne4 : a1 ≠ ao1 := Nat.ne_of_lt lt3
  have lt5 : a1 < au1 := (Nat.lt_trans (Nat.lt_trans la1 lb1) lc1)
  have ne6 : a1 ≠ au1 := Nat.ne_of_lt lt5
  have lt7 : a1 < ac1 := (Nat.lt_trans (Nat.lt_trans (Nat.lt_trans la1 lb1) lc1) ld1)
  have ne8 : a1 ≠ ac1 := Nat.ne_of_lt lt7
  have ne9 : aw1 ≠ ao1 := Nat.ne_of_lt lb1
  have lt10 : aw1 < au1 := (Nat.lt_trans lb1 lc1)
  have ne11 : aw1 ≠ au1 := Nat.ne_of_lt lt10
  have lt12 : aw1 < ac1 := (Nat.lt_trans (Nat.lt_trans lb1 lc1) ld1)
  have ne13 : aw1 ≠ ac1 := Nat.ne_of_lt lt12
  have ne14 : ao1 ≠ au1 := Nat.ne_of_lt lc1
  have lt15 : ao1 < ac1 := (Nat.lt_trans lc1 ld1)
  have ne16 : ao1 ≠ ac1 := Nat.ne_of_lt lt15
  have ne17 : au1 ≠ ac1 := Nat.ne_of_lt ld1
  have g18 : n0 ≤ aw1 := Nat.le_trans gq1 (Nat.le_of_lt la1)
  have g19 : n0 ≤ ao1 := Nat.le_trans gq1 (Nat.le_of_lt lt3)
  have g20 : n0 ≤ au1 := Nat.le_trans gq1 (Nat.le_of_lt lt5)
  have g21 : n0 ≤ ac1 := Nat.le_trans gq1 (Nat.le_of_lt lt7)
  have pre22 : ∀ t, own_S p e below s₁ m 1 #[sR a1] [(.ref a1)] t → R0 t := fun t k => pre0 t (by
    refine XS.aloadN X0.here hx rfl (hb hby own_d6_0) rfl rfl ?_
    exact k)
  obtain ⟨T23, X23, e23, st23⟩ := getF X0 hx hZ hown (host := "") (Or.inl hw54) Via.refl e0 Fs1 (g := (mkF m 1 #[sR a1] [(.ref a1)])) rfl rfl (hb hby own_d6_1)
  have pre24 : ∀ t, own_S p e below T23 m 4 #[sR a1] [(.int sz)] t → R0 t := fun t k => pre22 t (by
    refine st23 _ ?_
    exact k)
  have hc25 : sz = (0 : Int32) := hsz
  have pre26 : ∀ t, own_S p e below T23 m 8 #[sR a1] [.null] t → R0 t := fun t k => pre24 t (by
    refine XS.ifNo X23.here hx rfl (hb hby own_d6_4) rfl ((if0 _ _).trans (teq hc25).2) ?_
    refine XS.aconstNull X23.here hx rfl (hb hby own_d6_7) ?_
    exact k)
  obtain ⟨fs, hr, hrun, hended, hW, hsame⟩ := X23.leave (v := some .null) (fun h => by rw [Bd.returns] at h; cases h)
  refine ⟨_, _, cast (congrFun hR0 _) (pre26 _ (retOut X23 hx Bd.returns rfl (Or.inr (Or.inr (Or.inr (Or.inr ⟨rfl, rfl, rfl⟩)))) (hb hby own_d6_8) hr)), hrun, hended, _, _, rfl, ?_, ⟨_, rfl⟩, hW, hsame.mono (by decide) (by decide)⟩
  show own_Q6z Z _ _ _ _ _ _ _ _ _ _ h0 n0 _ T23.heap _
  rw [e23]
  exact ⟨rfl, N0, rfl⟩
theorem own_d6_9 : decode prog_63_method_7_code 9 = .ok (.aload_n 0, 1) := by decide +kernel
theorem own_d6_10 : decode prog_63_method_7_code 10 = .ok (.getfield 14, 3) := by decide +kernel
theorem own_d6_13 : decode prog_63_method_7_code 13 = .ok (.aload_n 0, 1) := by decide +kernel
theorem own_d6_14 : decode prog_63_method_7_code 14 = .ok (.getfield 62, 3) := by decide +kernel
theorem own_d6_17 : decode prog_63_method_7_code 17 = .ok (.aaload, 1) := by decide +kernel
theorem own_d6_18 : decode prog_63_method_7_code 18 = .ok (.ifnonnull 16, 3) := by decide +kernel
theorem own_d6_34 : decode prog_63_method_7_code 34 = .ok (.aload_n 0, 1) := by decide +kernel
theorem own_d6_35 : decode prog_63_method_7_code 35 = .ok (.getfield 14, 3) := by decide +kernel
theorem own_d6_38 : decode prog_63_method_7_code 38 = .ok (.aload_n 0, 1) := by decide +kernel
theorem own_d6_39 : decode prog_63_method_7_code 39 = .ok (.getfield 62, 3) := by decide +kernel
theorem own_d6_42 : decode prog_63_method_7_code 42 = .ok (.aaload, 1) := by decide +kernel
theorem own_d6_43 : decode prog_63_method_7_code 43 = .ok (.areturn, 1) := by decide +kernel
theorem own_ef_6h0f0 (m : MethodId) (x0 : Addr) : entryFrame m #[(.ref x0)] 1 = mkF m 0 #[sR x0] [] := by first | (simp [entryFrame, mkF, argsToLocals, Value.category]; done) | rfl
def own_Q6h0f0 (Z : State) (a1 : Addr) (ax : Addr) (x1 : Value) (x2 : Value) (o0 : Int64) (o1 : Int64) (o2 : Int64) (tl : Int32) (sz : Int32) (h0 : Heap) (n0 : Nat) (v : Option Value) (h : Heap) (L : List Loc) : Prop := v = some (.ref ax) ∧ Fr n0 L ∧ own_Low a1 h0 h ∧ own_QI Z h n0 a1 (.ref ax) x1 x2 o0 o1 o2 (0 : Int32) tl sz
set_option maxRecDepth 65536 in
set_option maxHeartbeats 40000000 in
theorem own_rm6h0f0 (l : Launch) (Z : State) (a0 : Array Value) (hw : ∀ d ∈ tables_1, d.before a0 Z = true) (ws : List Jvm.Cond) (a1 : Addr) (ax : Addr) (x1 : Value) (x2 : Value) (o0 : Int64) (o1 : Int64) (o2 : Int64) (tl : Int32) (sz : Int32) (h0 : Heap) (n0 : Nat) (Z0 : n0 ≤ h0.size) (hQ : own_QI Z h0 n0 a1 (.ref ax) x1 x2 o0 o1 o2 (0 : Int32) tl sz) (hsz : ¬ (sz = (0 : Int32))) :
    MetFree l own_y11 (head1 (Jvm.Cond.code own_y11 prog_63_method_7_code 1 (some (.object "com/example/adlim/adlim/client/Waiter")) :: ws) ({ frames := 0, cells := 0, slots := 0, locals := 0 } : Room)) (fun a U => a = #[(.ref a1)] ∧ Z.Warmed39 U.vm ∧ U.heap = h0) (fun _ _ _ _ _ => True) (fun _ U o U' => ∃ v L, o = .returned v ∧ own_Q6h0f0 Z a1 ax x1 x2 o0 o1 o2 tl sz h0 n0 v U'.heap L ∧ FrameEnd U o U' L ({ frames := 0, cells := 0, slots := 0, locals := 0 } : Room).cells ({ frames := 0, cells := 0, slots := 0, locals := 0 } : Room).slots) := by
  refine MetFree.of_bodySF (plainFor_of_name own_pn_2) hisR ?_
  intro p e s m args below meth c s₁ Bd hml0 hP hK
  obtain ⟨rfl, hZ, hh⟩ := hP
  have hw32 := hw _ (List.mem_of_getElem? (i := 32) rfl)
  have hw54 := hw _ (List.mem_of_getElem? (i := 54) rfl)
  have hw74 := hw _ (List.mem_of_getElem? (i := 74) rfl)
  have hx := Bd.exec
  have hby := Bd.bytes
  have hml : c.maxLocals = 1 := hml0
  have hown : s.vm.findClass "com/example/adlim/adlim/client/WaiterQueue" = some m.cls := findClass_of_methodNamed Bd.named
  have hnm := (name_of_methodNamed Bd.named Bd.method).1
  have X0 : Stand p l e ({ frames := 0, cells := 0, slots := 0, locals := 0 } : Room) s m #[(.ref a1)] below meth c s₁ [] 0 0 := Stand.of_body Bd
  have e0 : s₁.heap = h0 := by rw [← hh, Bd.state]; rfl
  have N0 := Fr.nil n0
  obtain ⟨R0, hR0⟩ : ∃ R : State → Prop, R = fun t => Steps p.tables e below (s₁.setTop (entryFrame m #[(.ref a1)] 1)) t := ⟨_, rfl⟩
  have pre0 : ∀ t, Steps p.tables e below (s₁.setTop (mkF m 0 #[sR a1] [])) t → R0 t := fun t k => by rw [hR0]; exact castTop (own_ef_6h0f0 m a1) k
  have f1 : own_Low a1 h0 h0 := own_Low.refl _ _
  obtain ⟨aw2, ao2, au2, ac2, kw2, ko2, cn2, Ex2, Fw2, Fo2, Fu2, Fc2, Fe2, Fh2, Ft2, Fs2, Fn2, Vw2, Ow2, Vo2, Uu2, Uc2, la2, lb2, lc2, ld2, gq2⟩ := id hQ
  have ne3 : a1 ≠ aw2 := Nat.ne_of_lt la2
  have lt4 : a1 < ao2 := (Nat.lt_trans la2 lb2)
  have ne5 : a1 ≠ ao2 := Nat.ne_of_lt lt4
  have lt6 : a1 < au2 := (Nat.lt_trans (Nat.lt_trans la2 lb2) lc2)
  have ne7 : a1 ≠ au2 := Nat.ne_of_lt lt6
  have lt8 : a1 < ac2 := (Nat.lt_trans (Nat.lt_trans (Nat.lt_trans la2 lb2) lc2) ld2)
  have ne9 : a1 ≠ ac2 := Nat.ne_of_lt lt8
  have ne10 : aw2 ≠ ao2 := Nat.ne_of_lt lb2
  have lt11 : aw2 < au2 := (Nat.lt_trans lb2 lc2)
  have ne12 : aw2 ≠ au2 := Nat.ne_of_lt lt11
  have lt13 : aw2 < ac2 := (Nat.lt_trans (Nat.lt_trans lb2 lc2) ld2)
  have ne14 : aw2 ≠ ac2 := Nat.ne_of_lt lt13
  have ne15 : ao2 ≠ au2 := Nat.ne_of_lt lc2
  have lt16 : ao2 < ac2 := (Nat.lt_trans lc2 ld2)
  have ne17 : ao2 ≠ ac2 := Nat.ne_of_lt lt16
  have ne18 : au2 ≠ ac2 := Nat.ne_of_lt ld2
  have g19 : n0 ≤ aw2 := Nat.le_trans gq2 (Nat.le_of_lt la2)
  have g20 : n0 ≤ ao2 := Nat.le_trans gq2 (Nat.le_of_lt lt4)
  have g21 : n0 ≤ au2 := Nat.le_trans gq2 (Nat.le_of_lt lt6)
  have g22 : n0 ≤ ac2 := Nat.le_trans gq2 (Nat.le_of_lt lt8)
  have pre23 : ∀ t, own_S p e below s₁ m 1 #[sR a1] [(.ref a1)] t → R0 t := fun t k => pre0 t (by
    refine XS.aloadN X0.here hx rfl (hb hby own_d6_0) rfl rfl ?_
    exact k)
  obtain ⟨T24, X24, e24, st24⟩ := getF X0 hx hZ hown (host := "") (Or.inl hw54) Via.refl e0 Fs2 (g := (mkF m 1 #[sR a1] [(.ref a1)])) rfl rfl (hb hby own_d6_1)
  have pre25 : ∀ t, own_S p e below T24 m 4 #[sR a1] [(.int sz)] t → R0 t := fun t k => pre23 t (by
    refine st24 _ ?_
    exact k)
  have hc26 : ¬ (sz = (0 : Int32)) := hsz
  have pre27 : ∀ t, own_S p e below T24 m 10 #[sR a1] [(.ref a1)] t → R0 t := fun t k => pre25 t (by
    refine XS.ifYes X24.here hx rfl (pc0 := 4) (pc' := 9) rfl (hb hby own_d6_4) rfl ((if0 _ _).trans (feq hc26).2) (by decide) (by decide) ?_
    refine XS.aloadN X24.here hx rfl (hb hby own_d6_9) rfl rfl ?_
    exact k)
  obtain ⟨T28, X28, e28, st28⟩ := getF X24 hx hZ hown (host := "") (Or.inl hw32) Via.refl e24 Fw2 (g := (mkF m 10 #[sR a1] [(.ref a1)])) rfl rfl (hb hby own_d6_10)
  have pre29 : ∀ t, own_S p e below T28 m 14 #[sR a1] [(.ref a1), (.ref aw2)] t → R0 t := fun t k => pre27 t (by
    refine st28 _ ?_
    refine XS.aloadN X28.here hx rfl (hb hby own_d6_13) rfl rfl ?_
    exact k)
  obtain ⟨T30, X30, e30, st30⟩ := getF X28 hx hZ hown (host := "") (Or.inl hw74) Via.refl e28 Fh2 (g := (mkF m 14 #[sR a1] [(.ref a1), (.ref aw2)])) rfl rfl (hb hby own_d6_14)
  have pre31 : ∀ t, own_S p e below T30 m 17 #[sR a1] [(.int 0), (.ref aw2)] t → R0 t := fun t k => pre29 t (by
    refine st30 _ ?_
    exact k)
  obtain ⟨cl32, Ar32, q32, S32, N32, H32, G32⟩ := id Vw2
  have hin32 := inb_of (j := (0 : Int32)) S32 ⟨by decide, by decide⟩
  have pre33 : ∀ t, own_S p e below T30 m 35 #[sR a1] [(.ref a1)] t → R0 t := fun t k => pre31 t (by
    refine X30.aaload hx (j := (0 : Int32)) (v := (.ref ax)) (by rw [e30]; exact Ar32.1) (State.isArrayOf_alike hZ.alike Ar32.2.1) rfl Ar32.2.2 hin32 (H32.at hin32 rfl) (g := (mkF m 17 #[sR a1] [(.int 0), (.ref aw2)])) rfl rfl (hb hby own_d6_17) _ ?_
    refine XS.ifnonnullYes X30.here hx rfl (pc0 := 18) (pc' := 34) rfl (hb hby own_d6_18) rfl (by decide) (by decide) ?_
    refine XS.aloadN X30.here hx rfl (hb hby own_d6_34) rfl rfl ?_
    exact k)
  obtain ⟨T34, X34, e34, st34⟩ := getF X30 hx hZ hown (host := "") (Or.inl hw32) Via.refl e30 Fw2 (g := (mkF m 35 #[sR a1] [(.ref a1)])) rfl rfl (hb hby own_d6_35)
  have pre35 : ∀ t, own_S p e below T34 m 39 #[sR a1] [(.ref a1), (.ref aw2)] t → R0 t := fun t k => pre33 t (by
    refine st34 _ ?_
    refine XS.aloadN X34.here hx rfl (hb hby own_d6_38) rfl rfl ?_
    exact k)
  obtain ⟨T36, X36, e36, st36⟩ := getF X34 hx hZ hown (host := "") (Or.inl hw74) Via.refl e34 Fh2 (g := (mkF m 39 #[sR a1] [(.ref a1), (.ref aw2)])) rfl rfl (hb hby own_d6_39)
  have pre37 : ∀ t, own_S p e below T36 m 42 #[sR a1] [(.int 0), (.ref aw2)] t → R0 t := fun t k => pre35 t (by
    refine st36 _ ?_
    exact k)
  obtain ⟨cl38, Ar38, q38, S38, N38, H38, G38⟩ := id Vw2
  have hin38 := inb_of (j := (0 : Int32)) S38 ⟨by decide, by decide⟩
  have pre39 : ∀ t, own_S p e below T36 m 43 #[sR a1] [(.ref ax)] t → R0 t := fun t k => pre37 t (by
    refine X36.aaload hx (j := (0 : Int32)) (v := (.ref ax)) (by rw [e36]; exact Ar38.1) (State.isArrayOf_alike hZ.alike Ar38.2.1) rfl Ar38.2.2 hin38 (H38.at hin38 rfl) (g := (mkF m 42 #[sR a1] [(.int 0), (.ref aw2)])) rfl rfl (hb hby own_d6_42) _ ?_
    exact k)
  obtain ⟨fs, hr, hrun, hended, hW, hsame⟩ := X36.leave (v := some (.ref ax)) (fun h => by rw [Bd.returns] at h; cases h)
  refine ⟨_, _, cast (congrFun hR0 _) (pre39 _ (retOut X36 hx Bd.returns rfl (Or.inr (Or.inr (Or.inr (Or.inr ⟨rfl, rfl, rfl⟩)))) (hb hby own_d6_43) hr)), hrun, hended, _, _, rfl, ?_, ⟨_, rfl⟩, hW, hsame.mono (by decide) (by decide)⟩
  show own_Q6h0f0 Z _ _ _ _ _ _ _ _ _ h0 n0 _ T36.heap _
  rw [e36]
  have Q40 : own_QI Z h0 n0 a1 (.ref ax) x1 x2 o0 o1 o2 (0 : Int32) tl sz := ⟨aw2, ao2, au2, ac2, kw2, ko2, cn2, Ex2, Fw2, Fo2, Fu2, Fc2, Fe2, Fh2, Ft2, Fs2, Fn2, Vw2, Ow2, Vo2, Uu2, Uc2, la2, lb2, lc2, ld2, gq2⟩
  exact ⟨rfl, N0, f1, Q40⟩
theorem own_d6_21 : decode prog_63_method_7_code 21 = .ok (.aload_n 0, 1) := by decide +kernel
theorem own_d6_22 : decode prog_63_method_7_code 22 = .ok (.dup, 1) := by decide +kernel
theorem own_d6_23 : decode prog_63_method_7_code 23 = .ok (.getfield 62, 3) := by decide +kernel
theorem own_d6_26 : decode prog_63_method_7_code 26 = .ok (.iconst 1, 1) := by decide +kernel
theorem own_d6_27 : decode prog_63_method_7_code 27 = .ok (.iadd, 1) := by decide +kernel
theorem own_d6_28 : decode prog_63_method_7_code 28 = .ok (.putfield 62, 3) := by decide +kernel
theorem own_d6_31 : decode prog_63_method_7_code 31 = .ok (.goto (-22), 3) := by decide +kernel
theorem own_ef_6h0f1 (m : MethodId) (x0 : Addr) : entryFrame m #[(.ref x0)] 1 = mkF m 0 #[sR x0] [] := by first | (simp [entryFrame, mkF, argsToLocals, Value.category]; done) | rfl
def own_Q6h0f1 (Z : State) (a1 : Addr) (ax : Addr) (x2 : Value) (o0 : Int64) (o1 : Int64) (o2 : Int64) (tl : Int32) (sz : Int32) (h0 : Heap) (n0 : Nat) (v : Option Value) (h : Heap) (L : List Loc) : Prop := v = some (.ref ax) ∧ Fr n0 L ∧ own_Low a1 h0 h ∧ own_QI Z h n0 a1 .null (.ref ax) x2 o0 o1 o2 (1 : Int32) tl sz
set_option maxRecDepth 65536 in
set_option maxHeartbeats 40000000 in
theorem own_rm6h0f1 (l : Launch) (Z : State) (a0 : Array Value) (hw : ∀ d ∈ tables_1, d.before a0 Z = true) (ws : List Jvm.Cond) (a1 : Addr) (ax : Addr) (x2 : Value) (o0 : Int64) (o1 : Int64) (o2 : Int64) (tl : Int32) (sz : Int32) (h0 : Heap) (n0 : Nat) (Z0 : n0 ≤ h0.size) (hQ : own_QI Z h0 n0 a1 .null (.ref ax) x2 o0 o1 o2 (0 : Int32) tl sz) (hsz : ¬ (sz = (0 : Int32))) :
    MetFree l own_y11 (head1 (Jvm.Cond.code own_y11 prog_63_method_7_code 1 (some (.object "com/example/adlim/adlim/client/Waiter")) :: ws) ({ frames := 0, cells := 0, slots := 0, locals := 0 } : Room)) (fun a U => a = #[(.ref a1)] ∧ Z.Warmed39 U.vm ∧ U.heap = h0) (fun _ _ _ _ _ => True) (fun _ U o U' => ∃ v L, o = .returned v ∧ own_Q6h0f1 Z a1 ax x2 o0 o1 o2 tl sz h0 n0 v U'.heap L ∧ FrameEnd U o U' L ({ frames := 0, cells := 0, slots := 0, locals := 0 } : Room).cells ({ frames := 0, cells := 0, slots := 0, locals := 0 } : Room).slots) := by
  refine MetFree.of_bodySF (plainFor_of_name own_pn_2) hisR ?_
  intro p e s m args below meth c s₁ Bd hml0 hP hK
  obtain ⟨rfl, hZ, hh⟩ := hP
  have hw24 := hw _ (List.mem_of_getElem? (i := 24) rfl)
  have hw32 := hw _ (List.mem_of_getElem? (i := 32) rfl)
  have hw33 := hw _ (List.mem_of_getElem? (i := 33) rfl)
  have hw36 := hw _ (List.mem_of_getElem? (i := 36) rfl)
  have hw39 := hw _ (List.mem_of_getElem? (i := 39) rfl)
  have hw42 := hw _ (List.mem_of_getElem? (i := 42) rfl)
  have hw44 := hw _ (List.mem_of_getElem? (i := 44) rfl)
  have hw54 := hw _ (List.mem_of_getElem? (i := 54) rfl)
  have hw55 := hw _ (List.mem_of_getElem? (i := 55) rfl)
  have hw67 := hw _ (List.mem_of_getElem? (i := 67) rfl)
  have hw74 := hw _ (List.mem_of_getElem? (i := 74) rfl)
  have hw75 := hw _ (List.mem_of_getElem? (i := 75) rfl)
  have hw81 := hw _ (List.mem_of_getElem? (i := 81) rfl)
  have hx := Bd.exec
  have hby := Bd.bytes
  have hml : c.maxLocals = 1 := hml0
  have hown : s.vm.findClass "com/example/adlim/adlim/client/WaiterQueue" = some m.cls := findClass_of_methodNamed Bd.named
  have hnm := (name_of_methodNamed Bd.named Bd.method).1
  have X0 : Stand p l e ({ frames := 0, cells := 0, slots := 0, locals := 0 } : Room) s m #[(.ref a1)] below meth c s₁ [] 0 0 := Stand.of_body Bd
  have e0 : s₁.heap = h0 := by rw [← hh, Bd.state]; rfl
  have N0 := Fr.nil n0
  obtain ⟨R0, hR0⟩ : ∃ R : State → Prop, R = fun t => Steps p.tables e below (s₁.setTop (entryFrame m #[(.ref a1)] 1)) t := ⟨_, rfl⟩
  have pre0 : ∀ t, Steps p.tables e below (s₁.setTop (mkF m 0 #[sR a1] [])) t → R0 t := fun t k => by rw [hR0]; exact castTop (own_ef_6h0f1 m a1) k
  have f1 : own_Low a1 h0 h0 := own_Low.refl _ _
  obtain ⟨aw2, ao2, au2, ac2, kw2, ko2, cn2, Ex2, Fw2, Fo2, Fu2, Fc2, Fe2, Fh2, Ft2, Fs2, Fn2, Vw2, Ow2, Vo2, Uu2, Uc2, la2, lb2, lc2, ld2, gq2⟩ := id hQ
  have ne3 : a1 ≠ aw2 := Nat.ne_of_lt la2
  have lt4 : a1 < ao2 := (Nat.lt_trans la2 lb2)
  have ne5 : a1 ≠ ao2 := Nat.ne_of_lt lt4
  have lt6 : a1 < au2 := (Nat.lt_trans (Nat.lt_trans la2 lb2) lc2)
  have ne7 : a1 ≠ au2 := Nat.ne_of_lt lt6
  have lt8 : a1 < ac2 := (Nat.lt_trans (Nat.lt_trans (Nat.lt_trans la2 lb2) lc2) ld2)
  have ne9 : a1 ≠ ac2 := Nat.ne_of_lt lt8
  have ne10 : aw2 ≠ ao2 := Nat.ne_of_lt lb2
  have lt11 : aw2 < au2 := (Nat.lt_trans lb2 lc2)
  have ne12 : aw2 ≠ au2 := Nat.ne_of_lt lt11
  have lt13 : aw2 < ac2 := (Nat.lt_trans (Nat.lt_trans lb2 lc2) ld2)
  have ne14 : aw2 ≠ ac2 := Nat.ne_of_lt lt13
  have ne15 : ao2 ≠ au2 := Nat.ne_of_lt lc2
  have lt16 : ao2 < ac2 := (Nat.lt_trans lc2 ld2)
  have ne17 : ao2 ≠ ac2 := Nat.ne_of_lt lt16
  have ne18 : au2 ≠ ac2 := Nat.ne_of_lt ld2
  have g19 : n0 ≤ aw2 := Nat.le_trans gq2 (Nat.le_of_lt la2)
  have g20 : n0 ≤ ao2 := Nat.le_trans gq2 (Nat.le_of_lt lt4)
  have g21 : n0 ≤ au2 := Nat.le_trans gq2 (Nat.le_of_lt lt6)
  have g22 : n0 ≤ ac2 := Nat.le_trans gq2 (Nat.le_of_lt lt8)
  have pre23 : ∀ t, own_S p e below s₁ m 1 #[sR a1] [(.ref a1)] t → R0 t := fun t k => pre0 t (by
    refine XS.aloadN X0.here hx rfl (hb hby own_d6_0) rfl rfl ?_
    exact k)
  obtain ⟨T24, X24, e24, st24⟩ := getF X0 hx hZ hown (host := "") (Or.inl hw54) Via.refl e0 Fs2 (g := (mkF m 1 #[sR a1] [(.ref a1)])) rfl rfl (hb hby own_d6_1)
  have pre25 : ∀ t, own_S p e below T24 m 4 #[sR a1] [(.int sz)] t → R0 t := fun t k => pre23 t (by
    refine st24 _ ?_
    exact k)
  have hc26 : ¬ (sz = (0 : Int32)) := hsz
  have pre27 : ∀ t, own_S p e below T24 m 10 #[sR a1] [(.ref a1)] t → R0 t := fun t k => pre25 t (by
    refine XS.ifYes X24.here hx rfl (pc0 := 4) (pc' := 9) rfl (hb hby own_d6_4) rfl ((if0 _ _).trans (feq hc26).2) (by decide) (by decide) ?_
    refine XS.aloadN X24.here hx rfl (hb hby own_d6_9) rfl rfl ?_
    exact k)
  obtain ⟨T28, X28, e28, st28⟩ := getF X24 hx hZ hown (host := "") (Or.inl hw32) Via.refl e24 Fw2 (g := (mkF m 10 #[sR a1] [(.ref a1)])) rfl rfl (hb hby own_d6_10)
  have pre29 : ∀ t, own_S p e below T28 m 14 #[sR a1] [(.ref a1), (.ref aw2)] t → R0 t := fun t k => pre27 t (by
    refine st28 _ ?_
    refine XS.aloadN X28.here hx rfl (hb hby own_d6_13) rfl rfl ?_
    exact k)
  obtain ⟨T30, X30, e30, st30⟩ := getF X28 hx hZ hown (host := "") (Or.inl hw74) Via.refl e28 Fh2 (g := (mkF m 14 #[sR a1] [(.ref a1), (.ref aw2)])) rfl rfl (hb hby own_d6_14)
  have pre31 : ∀ t, own_S p e below T30 m 17 #[sR a1] [(.int 0), (.ref aw2)] t → R0 t := fun t k => pre29 t (by
    refine st30 _ ?_
    exact k)
  obtain ⟨cl32, Ar32, q32, S32, N32, H32, G32⟩ := id Vw2
  have hin32 := inb_of (j := (0 : Int32)) S32 ⟨by decide, by decide⟩
  have pre33 : ∀ t, own_S p e below T30 m 23 #[sR a1] [(.ref a1), (.ref a1)] t → R0 t := fun t k => pre31 t (by
    refine X30.aaload hx (j := (0 : Int32)) (v := .null) (by rw [e30]; exact Ar32.1) (State.isArrayOf_alike hZ.alike Ar32.2.1) rfl Ar32.2.2 hin32 (H32.at hin32 rfl) (g := (mkF m 17 #[sR a1] [(.int 0), (.ref aw2)])) rfl rfl (hb hby own_d6_17) _ ?_
    refine XS.ifnonnullNo X30.here hx rfl (hb hby own_d6_18) rfl ?_
    refine XS.aloadN X30.here hx rfl (hb hby own_d6_21) rfl rfl ?_
    refine XS.dup X30.here hx rfl (hb hby own_d6_22) rfl rfl ?_
    exact k)
  obtain ⟨T34, X34, e34, st34⟩ := getF X30 hx hZ hown (host := "") (Or.inl hw74) Via.refl e30 Fh2 (g := (mkF m 23 #[sR a1] [(.ref a1), (.ref a1)])) rfl rfl (hb hby own_d6_23)
  have pre35 : ∀ t, own_S p e below T34 m 28 #[sR a1] [(.int 1), (.ref a1)] t → R0 t := fun t k => pre33 t (by
    refine st34 _ ?_
    refine XS.iconst X34.here hx rfl (hb hby own_d6_26) ?_
    refine XS.iadd X34.here hx rfl (hb hby own_d6_27) rfl ?_
    exact k)
  obtain ⟨T36, h36, X36, e36, W36, st36⟩ := putF X34 hx hZ hown (host := "") (Or.inl hw74) Via.refl e34 Fh2 Ex2 (Or.inl hw75) hw24 (ty := .int) (by decide) rfl rfl (g := (mkF m 28 #[sR a1] [(.int 1), (.ref a1)])) rfl rfl (hb hby own_d6_28)
  have f37 := Nat.le_trans Z0 (Keep.of_wr W36).1
  have f38 := Ex2.wr W36
  have f39 := Fw2.other W36 (Or.inr (slot_ne (Or.inl hw33) (Or.inl hw75) (by decide) (t := (.array (.object "com/example/adlim/adlim/client/Waiter"))) (t' := .int) (by decide) (by decide)))
  have f40 := Fo2.other W36 (Or.inr (slot_ne (Or.inl hw36) (Or.inl hw75) (by decide) (t := (.array .long)) (t' := .int) (by decide) (by decide)))
  have f41 := Fu2.other W36 (Or.inr (slot_ne (Or.inl hw39) (Or.inl hw75) (by decide) (t := (.array .boolean)) (t' := .int) (by decide) (by decide)))
  have f42 := Fc2.other W36 (Or.inr (slot_ne (Or.inl hw42) (Or.inl hw75) (by decide) (t := (.array .int)) (t' := .int) (by decide) (by decide)))
  have f43 := Fe2.other W36 (Or.inr (slot_ne (Or.inr hw44) (Or.inl hw75) (by decide) (t := (.object "com/example/adlim/adlim/client/CeilingQueue")) (t' := .int) (by decide) (by decide)))
  have f44 := Ft2.other W36 (Or.inr (slot_ne (Or.inl hw67) (Or.inl hw75) (by decide) (t := .int) (t' := .int) (by decide) (by decide)))
  have f45 := Fs2.other W36 (Or.inr (slot_ne (Or.inl hw55) (Or.inl hw75) (by decide) (t := .int) (t' := .int) (by decide) (by decide)))
  have f46 := Fn2.other W36 (Or.inr (slot_ne (Or.inl hw81) (Or.inl hw75) (by decide) (t := .int) (t' := .int) (by decide) (by decide)))
  have f47 := Vw2.other W36 (Ne.symm ne3)
  have f48 := Vo2.other W36 (Ne.symm ne5)
  have f49 := Uu2.other W36 (Ne.symm ne7)
  have f50 := Uc2.other W36 (Ne.symm ne9)
  have f51 : own_Low a1 h0 h36 := f1.wr W36 (Nat.le_refl _)
  have f52 := Fh2.same W36
  have N53 := Fr.snoc X36 N0 gq2
  have pre54 : ∀ t, own_S p e below T36 m 10 #[sR a1] [(.ref a1)] t → R0 t := fun t k => pre35 t (by
    refine st36 _ ?_
    refine XS.goto X36.here hx rfl (pc0 := 31) (pc' := 9) rfl (hb hby own_d6_31) (by decide) (by decide) ?_
    refine XS.aloadN X36.here hx rfl (hb hby own_d6_9) rfl rfl ?_
    exact k)
  obtain ⟨T55, X55, e55, st55⟩ := getF X36 hx hZ hown (host := "") (Or.inl hw32) Via.refl e36 f39 (g := (mkF m 10 #[sR a1] [(.ref a1)])) rfl rfl (hb hby own_d6_10)
  have pre56 : ∀ t, own_S p e below T55 m 14 #[sR a1] [(.ref a1), (.ref aw2)] t → R0 t := fun t k => pre54 t (by
    refine st55 _ ?_
    refine XS.aloadN X55.here hx rfl (hb hby own_d6_13) rfl rfl ?_
    exact k)
  obtain ⟨T57, X57, e57, st57⟩ := getF X55 hx hZ hown (host := "") (Or.inl hw74) Via.refl e55 f52 (g := (mkF m 14 #[sR a1] [(.ref a1), (.ref aw2)])) rfl rfl (hb hby own_d6_14)
  have pre58 : ∀ t, own_S p e below T57 m 17 #[sR a1] [(.int 1), (.ref aw2)] t → R0 t := fun t k => pre56 t (by
    refine st57 _ ?_
    exact k)
  obtain ⟨cl59, Ar59, q59, S59, N59, H59, G59⟩ := id f47
  have hin59 := inb_of (j := (1 : Int32)) S59 ⟨by decide, by decide⟩
  have pre60 : ∀ t, own_S p e below T57 m 35 #[sR a1] [(.ref a1)] t → R0 t := fun t k => pre58 t (by
    refine X57.aaload hx (j := (1 : Int32)) (v := (.ref ax)) (by rw [e57]; exact Ar59.1) (State.isArrayOf_alike hZ.alike Ar59.2.1) rfl Ar59.2.2 hin59 (H59.at hin59 rfl) (g := (mkF m 17 #[sR a1] [(.int 1), (.ref aw2)])) rfl rfl (hb hby own_d6_17) _ ?_
    refine XS.ifnonnullYes X57.here hx rfl (pc0 := 18) (pc' := 34) rfl (hb hby own_d6_18) rfl (by decide) (by decide) ?_
    refine XS.aloadN X57.here hx rfl (hb hby own_d6_34) rfl rfl ?_
    exact k)
  obtain ⟨T61, X61, e61, st61⟩ := getF X57 hx hZ hown (host := "") (Or.inl hw32) Via.refl e57 f39 (g := (mkF m 35 #[sR a1] [(.ref a1)])) rfl rfl (hb hby own_d6_35)
  have pre62 : ∀ t, own_S p e below T61 m 39 #[sR a1] [(.ref a1), (.ref aw2)] t → R0 t := fun t k => pre60 t (by
    refine st61 _ ?_
    refine XS.aloadN X61.here hx rfl (hb hby own_d6_38) rfl rfl ?_
    exact k)
  obtain ⟨T63, X63, e63, st63⟩ := getF X61 hx hZ hown (host := "") (Or.inl hw74) Via.refl e61 f52 (g := (mkF m 39 #[sR a1] [(.ref a1), (.ref aw2)])) rfl rfl (hb hby own_d6_39)
  have pre64 : ∀ t, own_S p e below T63 m 42 #[sR a1] [(.int 1), (.ref aw2)] t → R0 t := fun t k => pre62 t (by
    refine st63 _ ?_
    exact k)
  obtain ⟨cl65, Ar65, q65, S65, N65, H65, G65⟩ := id f47
  have hin65 := inb_of (j := (1 : Int32)) S65 ⟨by decide, by decide⟩
  have pre66 : ∀ t, own_S p e below T63 m 43 #[sR a1] [(.ref ax)] t → R0 t := fun t k => pre64 t (by
    refine X63.aaload hx (j := (1 : Int32)) (v := (.ref ax)) (by rw [e63]; exact Ar65.1) (State.isArrayOf_alike hZ.alike Ar65.2.1) rfl Ar65.2.2 hin65 (H65.at hin65 rfl) (g := (mkF m 42 #[sR a1] [(.int 1), (.ref aw2)])) rfl rfl (hb hby own_d6_42) _ ?_
    exact k)
  obtain ⟨fs, hr, hrun, hended, hW, hsame⟩ := X63.leave (v := some (.ref ax)) (fun h => by rw [Bd.returns] at h; cases h)
  refine ⟨_, _, cast (congrFun hR0 _) (pre66 _ (retOut X63 hx Bd.returns rfl (Or.inr (Or.inr (Or.inr (Or.inr ⟨rfl, rfl, rfl⟩)))) (hb hby own_d6_43) hr)), hrun, hended, _, _, rfl, ?_, ⟨_, rfl⟩, hW, hsame.mono (by decide) (by decide)⟩
  show own_Q6h0f1 Z _ _ _ _ _ _ _ _ h0 n0 _ T63.heap _
  rw [e63]
  have Q67 : own_QI Z h36 n0 a1 .null (.ref ax) x2 o0 o1 o2 (1 : Int32) tl sz := ⟨aw2, ao2, au2, ac2, kw2, ko2, cn2, f38, f39, f40, f41, f42, f43, f52, f44, f45, f46, f47, Ow2, f48, f49, f50, la2, lb2, lc2, ld2, gq2⟩
  exact ⟨rfl, N53, f51, Q67⟩
theorem own_ef_6h0f2 (m : MethodId) (x0 : Addr) : entryFrame m #[(.ref x0)] 1 = mkF m 0 #[sR x0] [] := by first | (simp [entryFrame, mkF, argsToLocals, Value.category]; done) | rfl
def own_Q6h0f2 (Z : State) (a1 : Addr) (ax : Addr) (o0 : Int64) (o1 : Int64) (o2 : Int64) (tl : Int32) (sz : Int32) (h0 : Heap) (n0 : Nat) (v : Option Value) (h : Heap) (L : List Loc) : Prop := v = some (.ref ax) ∧ Fr n0 L ∧ own_Low a1 h0 h ∧ own_QI Z h n0 a1 .null .null (.ref ax) o0 o1 o2 (2 : Int32) tl sz
set_option maxRecDepth 65536 in
set_option maxHeartbeats 40000000 in
theorem own_rm6h0f2 (l : Launch) (Z : State) (a0 : Array Value) (hw : ∀ d ∈ tables_1, d.before a0 Z = true) (ws : List Jvm.Cond) (a1 : Addr) (ax : Addr) (o0 : Int64) (o1 : Int64) (o2 : Int64) (tl : Int32) (sz : Int32) (h0 : Heap) (n0 : Nat) (Z0 : n0 ≤ h0.size) (hQ : own_QI Z h0 n0 a1 .null .null (.ref ax) o0 o1 o2 (0 : Int32) tl sz) (hsz : ¬ (sz = (0 : Int32))) :
    MetFree l own_y11 (head1 (Jvm.Cond.code own_y11 prog_63_method_7_code 1 (some (.object "com/example/adlim/adlim/client/Waiter")) :: ws) ({ frames := 0, cells := 0, slots := 0, locals := 0 } : Room)) (fun a U => a = #[(.ref a1)] ∧ Z.Warmed39 U.vm ∧ U.heap = h0) (fun _ _ _ _ _ => True) (fun _ U o U' => ∃ v L, o = .returned v ∧ own_Q6h0f2 Z a1 ax o0 o1 o2 tl sz h0 n0 v U'.heap L ∧ FrameEnd U o U' L ({ frames := 0, cells := 0, slots := 0, locals := 0 } : Room).cells ({ frames := 0, cells := 0, slots := 0, locals := 0 } : Room).slots) := by
  refine MetFree.of_bodySF (plainFor_of_name own_pn_2) hisR ?_
  intro p e s m args below meth c s₁ Bd hml0 hP hK
  obtain ⟨rfl, hZ, hh⟩ := hP
  have hw24 := hw _ (List.mem_of_getElem? (i := 24) rfl)
  have hw32 := hw _ (List.mem_of_getElem? (i := 32) rfl)
  have hw33 := hw _ (List.mem_of_getElem? (i := 33) rfl)
  have hw36 := hw _ (List.mem_of_getElem? (i := 36) rfl)
  have hw39 := hw _ (List.mem_of_getElem? (i := 39) rfl)
  have hw42 := hw _ (List.mem_of_getElem? (i := 42) rfl)
  have hw44 := hw _ (List.mem_of_getElem? (i := 44) rfl)
  have hw54 := hw _ (List.mem_of_getElem? (i := 54) rfl)
  have hw55 := hw _ (List.mem_of_getElem? (i := 55) rfl)
  have hw67 := hw _ (List.mem_of_getElem? (i := 67) rfl)
  have hw74 := hw _ (List.mem_of_getElem? (i := 74) rfl)
  have hw75 := hw _ (List.mem_of_getElem? (i := 75) rfl)
  have hw81 := hw _ (List.mem_of_getElem? (i := 81) rfl)
  have hx := Bd.exec
  have hby := Bd.bytes
  have hml : c.maxLocals = 1 := hml0
  have hown : s.vm.findClass "com/example/adlim/adlim/client/WaiterQueue" = some m.cls := findClass_of_methodNamed Bd.named
  have hnm := (name_of_methodNamed Bd.named Bd.method).1
  have X0 : Stand p l e ({ frames := 0, cells := 0, slots := 0, locals := 0 } : Room) s m #[(.ref a1)] below meth c s₁ [] 0 0 := Stand.of_body Bd
  have e0 : s₁.heap = h0 := by rw [← hh, Bd.state]; rfl
  have N0 := Fr.nil n0
  obtain ⟨R0, hR0⟩ : ∃ R : State → Prop, R = fun t => Steps p.tables e below (s₁.setTop (entryFrame m #[(.ref a1)] 1)) t := ⟨_, rfl⟩
  have pre0 : ∀ t, Steps p.tables e below (s₁.setTop (mkF m 0 #[sR a1] [])) t → R0 t := fun t k => by rw [hR0]; exact castTop (own_ef_6h0f2 m a1) k
  have f1 : own_Low a1 h0 h0 := own_Low.refl _ _
  obtain ⟨aw2, ao2, au2, ac2, kw2, ko2, cn2, Ex2, Fw2, Fo2, Fu2, Fc2, Fe2, Fh2, Ft2, Fs2, Fn2, Vw2, Ow2, Vo2, Uu2, Uc2, la2, lb2, lc2, ld2, gq2⟩ := id hQ
  have ne3 : a1 ≠ aw2 := Nat.ne_of_lt la2
  have lt4 : a1 < ao2 := (Nat.lt_trans la2 lb2)
  have ne5 : a1 ≠ ao2 := Nat.ne_of_lt lt4
  have lt6 : a1 < au2 := (Nat.lt_trans (Nat.lt_trans la2 lb2) lc2)
  have ne7 : a1 ≠ au2 := Nat.ne_of_lt lt6
  have lt8 : a1 < ac2 := (Nat.lt_trans (Nat.lt_trans (Nat.lt_trans la2 lb2) lc2) ld2)
  have ne9 : a1 ≠ ac2 := Nat.ne_of_lt lt8
  have ne10 : aw2 ≠ ao2 := Nat.ne_of_lt lb2
  have lt11 : aw2 < au2 := (Nat.lt_trans lb2 lc2)
  have ne12 : aw2 ≠ au2 := Nat.ne_of_lt lt11
  have lt13 : aw2 < ac2 := (Nat.lt_trans (Nat.lt_trans lb2 lc2) ld2)
  have ne14 : aw2 ≠ ac2 := Nat.ne_of_lt lt13
  have ne15 : ao2 ≠ au2 := Nat.ne_of_lt lc2
  have lt16 : ao2 < ac2 := (Nat.lt_trans lc2 ld2)
  have ne17 : ao2 ≠ ac2 := Nat.ne_of_lt lt16
  have ne18 : au2 ≠ ac2 := Nat.ne_of_lt ld2
  have g19 : n0 ≤ aw2 := Nat.le_trans gq2 (Nat.le_of_lt la2)
  have g20 : n0 ≤ ao2 := Nat.le_trans gq2 (Nat.le_of_lt lt4)
  have g21 : n0 ≤ au2 := Nat.le_trans gq2 (Nat.le_of_lt lt6)
  have g22 : n0 ≤ ac2 := Nat.le_trans gq2 (Nat.le_of_lt lt8)
  have pre23 : ∀ t, own_S p e below s₁ m 1 #[sR a1] [(.ref a1)] t → R0 t := fun t k => pre0 t (by
    refine XS.aloadN X0.here hx rfl (hb hby own_d6_0) rfl rfl ?_
    exact k)
  obtain ⟨T24, X24, e24, st24⟩ := getF X0 hx hZ hown (host := "") (Or.inl hw54) Via.refl e0 Fs2 (g := (mkF m 1 #[sR a1] [(.ref a1)])) rfl rfl (hb hby own_d6_1)
  have pre25 : ∀ t, own_S p e below T24 m 4 #[sR a1] [(.int sz)] t → R0 t := fun t k => pre23 t (by
    refine st24 _ ?_
    exact k)
  have hc26 : ¬ (sz = (0 : Int32)) := hsz
  have pre27 : ∀ t, own_S p e below T24 m 10 #[sR a1] [(.ref a1)] t → R0 t := fun t k => pre25 t (by
    refine XS.ifYes X24.here hx rfl (pc0 := 4) (pc' := 9) rfl (hb hby own_d6_4) rfl ((if0 _ _).trans (feq hc26).2) (by decide) (by decide) ?_
    refine XS.aloadN X24.here hx rfl (hb hby own_d6_9) rfl rfl ?_
    exact k)
  obtain ⟨T28, X28, e28, st28⟩ := getF X24 hx hZ hown (host := "") (Or.inl hw32) Via.refl e24 Fw2 (g := (mkF m 10 #[sR a1] [(.ref a1)])) rfl rfl (hb hby own_d6_10)
  have pre29 : ∀ t, own_S p e below T28 m 14 #[sR a1] [(.ref a1), (.ref aw2)] t → R0 t := fun t k => pre27 t (by
    refine st28 _ ?_
    refine XS.aloadN X28.here hx rfl (hb hby own_d6_13) rfl rfl ?_
    exact k)
  obtain ⟨T30, X30, e30, st30⟩ := getF X28 hx hZ hown (host := "") (Or.inl hw74) Via.refl e28 Fh2 (g := (mkF m 14 #[sR a1] [(.ref a1), (.ref aw2)])) rfl rfl (hb hby own_d6_14)
  have pre31 : ∀ t, own_S p e below T30 m 17 #[sR a1] [(.int 0), (.ref aw2)] t → R0 t := fun t k => pre29 t (by
    refine st30 _ ?_
    exact k)
  obtain ⟨cl32, Ar32, q32, S32, N32, H32, G32⟩ := id Vw2
  have hin32 := inb_of (j := (0 : Int32)) S32 ⟨by decide, by decide⟩
  have pre33 : ∀ t, own_S p e below T30 m 23 #[sR a1] [(.ref a1), (.ref a1)] t → R0 t := fun t k => pre31 t (by
    refine X30.aaload hx (j := (0 : Int32)) (v := .null) (by rw [e30]; exact Ar32.1) (State.isArrayOf_alike hZ.alike Ar32.2.1) rfl Ar32.2.2 hin32 (H32.at hin32 rfl) (g := (mkF m 17 #[sR a1] [(.int 0), (.ref aw2)])) rfl rfl (hb hby own_d6_17) _ ?_
    refine XS.ifnonnullNo X30.here hx rfl (hb hby own_d6_18) rfl ?_
    refine XS.aloadN X30.here hx rfl (hb hby own_d6_21) rfl rfl ?_
    refine XS.dup X30.here hx rfl (hb hby own_d6_22) rfl rfl ?_
    exact k)
  obtain ⟨T34, X34, e34, st34⟩ := getF X30 hx hZ hown (host := "") (Or.inl hw74) Via.refl e30 Fh2 (g := (mkF m 23 #[sR a1] [(.ref a1), (.ref a1)])) rfl rfl (hb hby own_d6_23)
  have pre35 : ∀ t, own_S p e below T34 m 28 #[sR a1] [(.int 1), (.ref a1)] t → R0 t := fun t k => pre33 t (by
    refine st34 _ ?_
    refine XS.iconst X34.here hx rfl (hb hby own_d6_26) ?_
    refine XS.iadd X34.here hx rfl (hb hby own_d6_27) rfl ?_
    exact k)
  obtain ⟨T36, h36, X36, e36, W36, st36⟩ := putF X34 hx hZ hown (host := "") (Or.inl hw74) Via.refl e34 Fh2 Ex2 (Or.inl hw75) hw24 (ty := .int) (by decide) rfl rfl (g := (mkF m 28 #[sR a1] [(.int 1), (.ref a1)])) rfl rfl (hb hby own_d6_28)
  have f37 := Nat.le_trans Z0 (Keep.of_wr W36).1
  have f38 := Ex2.wr W36
  have f39 := Fw2.other W36 (Or.inr (slot_ne (Or.inl hw33) (Or.inl hw75) (by decide) (t := (.array (.object "com/example/adlim/adlim/client/Waiter"))) (t' := .int) (by decide) (by decide)))
  have f40 := Fo2.other W36 (Or.inr (slot_ne (Or.inl hw36) (Or.inl hw75) (by decide) (t := (.array .long)) (t' := .int) (by decide) (by decide)))
  have f41 := Fu2.other W36 (Or.inr (slot_ne (Or.inl hw39) (Or.inl hw75) (by decide) (t := (.array .boolean)) (t' := .int) (by decide) (by decide)))
  have f42 := Fc2.other W36 (Or.inr (slot_ne (Or.inl hw42) (Or.inl hw75) (by decide) (t := (.array .int)) (t' := .int) (by decide) (by decide)))
  have f43 := Fe2.other W36 (Or.inr (slot_ne (Or.inr hw44) (Or.inl hw75) (by decide) (t := (.object "com/example/adlim/adlim/client/CeilingQueue")) (t' := .int) (by decide) (by decide)))
  have f44 := Ft2.other W36 (Or.inr (slot_ne (Or.inl hw67) (Or.inl hw75) (by decide) (t := .int) (t' := .int) (by decide) (by decide)))
  have f45 := Fs2.other W36 (Or.inr (slot_ne (Or.inl hw55) (Or.inl hw75) (by decide) (t := .int) (t' := .int) (by decide) (by decide)))
  have f46 := Fn2.other W36 (Or.inr (slot_ne (Or.inl hw81) (Or.inl hw75) (by decide) (t := .int) (t' := .int) (by decide) (by decide)))
  have f47 := Vw2.other W36 (Ne.symm ne3)
  have f48 := Vo2.other W36 (Ne.symm ne5)
  have f49 := Uu2.other W36 (Ne.symm ne7)
  have f50 := Uc2.other W36 (Ne.symm ne9)
  have f51 : own_Low a1 h0 h36 := f1.wr W36 (Nat.le_refl _)
  have f52 := Fh2.same W36
  have N53 := Fr.snoc X36 N0 gq2
  have pre54 : ∀ t, own_S p e below T36 m 10 #[sR a1] [(.ref a1)] t → R0 t := fun t k => pre35 t (by
    refine st36 _ ?_
    refine XS.goto X36.here hx rfl (pc0 := 31) (pc' := 9) rfl (hb hby own_d6_31) (by decide) (by decide) ?_
    refine XS.aloadN X36.here hx rfl (hb hby own_d6_9) rfl rfl ?_
    exact k)
  obtain ⟨T55, X55, e55, st55⟩ := getF X36 hx hZ hown (host := "") (Or.inl hw32) Via.refl e36 f39 (g := (mkF m 10 #[sR a1] [(.ref a1)])) rfl rfl (hb hby own_d6_10)
  have pre56 : ∀ t, own_S p e below T55 m 14 #[sR a1] [(.ref a1), (.ref aw2)] t → R0 t := fun t k => pre54 t (by
    refine st55 _ ?_
    refine XS.aloadN X55.here hx rfl (hb hby own_d6_13) rfl rfl ?_
    exact k)
  obtain ⟨T57, X57, e57, st57⟩ := getF X55 hx hZ hown (host := "") (Or.inl hw74) Via.refl e55 f52 (g := (mkF m 14 #[sR a1] [(.ref a1), (.ref aw2)])) rfl rfl (hb hby own_d6_14)
  have pre58 : ∀ t, own_S p e below T57 m 17 #[sR a1] [(.int 1), (.ref aw2)] t → R0 t := fun t k => pre56 t (by
    refine st57 _ ?_
    exact k)
  obtain ⟨cl59, Ar59, q59, S59, N59, H59, G59⟩ := id f47
  have hin59 := inb_of (j := (1 : Int32)) S59 ⟨by decide, by decide⟩
  have pre60 : ∀ t, own_S p e below T57 m 23 #[sR a1] [(.ref a1), (.ref a1)] t → R0 t := fun t k => pre58 t (by
    refine X57.aaload hx (j := (1 : Int32)) (v := .null) (by rw [e57]; exact Ar59.1) (State.isArrayOf_alike hZ.alike Ar59.2.1) rfl Ar59.2.2 hin59 (H59.at hin59 rfl) (g := (mkF m 17 #[sR a1] [(.int 1), (.ref aw2)])) rfl rfl (hb hby own_d6_17) _ ?_
    refine XS.ifnonnullNo X57.here hx rfl (hb hby own_d6_18) rfl ?_
    refine XS.aloadN X57.here hx rfl (hb hby own_d6_21) rfl rfl ?_
    refine XS.dup X57.here hx rfl (hb hby own_d6_22) rfl rfl ?_
    exact k)
  obtain ⟨T61, X61, e61, st61⟩ := getF X57 hx hZ hown (host := "") (Or.inl hw74) Via.refl e57 f52 (g := (mkF m 23 #[sR a1] [(.ref a1), (.ref a1)])) rfl rfl (hb hby own_d6_23)
  have pre62 : ∀ t, own_S p e below T61 m 28 #[sR a1] [(.int 2), (.ref a1)] t → R0 t := fun t k => pre60 t (by
    refine st61 _ ?_
    refine XS.iconst X61.here hx rfl (hb hby own_d6_26) ?_
    refine XS.iadd X61.here hx rfl (hb hby own_d6_27) rfl ?_
    exact k)
  obtain ⟨T63, h63, X63, e63, W63, st63⟩ := putF X61 hx hZ hown (host := "") (Or.inl hw74) Via.refl e61 f52 f38 (Or.inl hw75) hw24 (ty := .int) (by decide) rfl rfl (g := (mkF m 28 #[sR a1] [(.int 2), (.ref a1)])) rfl rfl (hb hby own_d6_28)
  have f64 := Nat.le_trans f37 (Keep.of_wr W63).1
  have f65 := f38.wr W63
  have f66 := f39.other W63 (Or.inr (slot_ne (Or.inl hw33) (Or.inl hw75) (by decide) (t := (.array (.object "com/example/adlim/adlim/client/Waiter"))) (t' := .int) (by decide) (by decide)))
  have f67 := f40.other W63 (Or.inr (slot_ne (Or.inl hw36) (Or.inl hw75) (by decide) (t := (.array .long)) (t' := .int) (by decide) (by decide)))
  have f68 := f41.other W63 (Or.inr (slot_ne (Or.inl hw39) (Or.inl hw75) (by decide) (t := (.array .boolean)) (t' := .int) (by decide) (by decide)))
  have f69 := f42.other W63 (Or.inr (slot_ne (Or.inl hw42) (Or.inl hw75) (by decide) (t := (.array .int)) (t' := .int) (by decide) (by decide)))
  have f70 := f43.other W63 (Or.inr (slot_ne (Or.inr hw44) (Or.inl hw75) (by decide) (t := (.object "com/example/adlim/adlim/client/CeilingQueue")) (t' := .int) (by decide) (by decide)))
  have f71 := f44.other W63 (Or.inr (slot_ne (Or.inl hw67) (Or.inl hw75) (by decide) (t := .int) (t' := .int) (by decide) (by decide)))
  have f72 := f45.other W63 (Or.inr (slot_ne (Or.inl hw55) (Or.inl hw75) (by decide) (t := .int) (t' := .int) (by decide) (by decide)))
  have f73 := f46.other W63 (Or.inr (slot_ne (Or.inl hw81) (Or.inl hw75) (by decide) (t := .int) (t' := .int) (by decide) (by decide)))
  have f74 := f47.other W63 (Ne.symm ne3)
  have f75 := f48.other W63 (Ne.symm ne5)
  have f76 := f49.other W63 (Ne.symm ne7)
  have f77 := f50.other W63 (Ne.symm ne9)
  have f78 : own_Low a1 h0 h63 := f51.wr W63 (Nat.le_refl _)
  have f79 := f52.same W63
  have N80 := Fr.snoc X63 N53 gq2
  have pre81 : ∀ t, own_S p e below T63 m 10 #[sR a1] [(.ref a1)] t → R0 t := fun t k => pre62 t (by
    refine st63 _ ?_
    refine XS.goto X63.here hx rfl (pc0 := 31) (pc' := 9) rfl (hb hby own_d6_31) (by decide) (by decide) ?_
    refine XS.aloadN X63.here hx rfl (hb hby own_d6_9) rfl rfl ?_
    exact k)
  obtain ⟨T82, X82, e82, st82⟩ := getF X63 hx hZ hown (host := "") (Or.inl hw32) Via.refl e63 f66 (g := (mkF m 10 #[sR a1] [(.ref a1)])) rfl rfl (hb hby own_d6_10)
  have pre83 : ∀ t, own_S p e below T82 m 14 #[sR a1] [(.ref a1), (.ref aw2)] t → R0 t := fun t k => pre81 t (by
    refine st82 _ ?_
    refine XS.aloadN X82.here hx rfl (hb hby own_d6_13) rfl rfl ?_
    exact k)
  obtain ⟨T84, X84, e84, st84⟩ := getF X82 hx hZ hown (host := "") (Or.inl hw74) Via.refl e82 f79 (g := (mkF m 14 #[sR a1] [(.ref a1), (.ref aw2)])) rfl rfl (hb hby own_d6_14)
  have pre85 : ∀ t, own_S p e below T84 m 17 #[sR a1] [(.int 2), (.ref aw2)] t → R0 t := fun t k => pre83 t (by
    refine st84 _ ?_
    exact k)
  obtain ⟨cl86, Ar86, q86, S86, N86, H86, G86⟩ := id f74
  have hin86 := inb_of (j := (2 : Int32)) S86 ⟨by decide, by decide⟩
  have pre87 : ∀ t, own_S p e below T84 m 35 #[sR a1] [(.ref a1)] t → R0 t := fun t k => pre85 t (by
    refine X84.aaload hx (j := (2 : Int32)) (v := (.ref ax)) (by rw [e84]; exact Ar86.1) (State.isArrayOf_alike hZ.alike Ar86.2.1) rfl Ar86.2.2 hin86 (H86.at hin86 rfl) (g := (mkF m 17 #[sR a1] [(.int 2), (.ref aw2)])) rfl rfl (hb hby own_d6_17) _ ?_
    refine XS.ifnonnullYes X84.here hx rfl (pc0 := 18) (pc' := 34) rfl (hb hby own_d6_18) rfl (by decide) (by decide) ?_
    refine XS.aloadN X84.here hx rfl (hb hby own_d6_34) rfl rfl ?_
    exact k)
  obtain ⟨T88, X88, e88, st88⟩ := getF X84 hx hZ hown (host := "") (Or.inl hw32) Via.refl e84 f66 (g := (mkF m 35 #[sR a1] [(.ref a1)])) rfl rfl (hb hby own_d6_35)
  have pre89 : ∀ t, own_S p e below T88 m 39 #[sR a1] [(.ref a1), (.ref aw2)] t → R0 t := fun t k => pre87 t (by
    refine st88 _ ?_
    refine XS.aloadN X88.here hx rfl (hb hby own_d6_38) rfl rfl ?_
    exact k)
  obtain ⟨T90, X90, e90, st90⟩ := getF X88 hx hZ hown (host := "") (Or.inl hw74) Via.refl e88 f79 (g := (mkF m 39 #[sR a1] [(.ref a1), (.ref aw2)])) rfl rfl (hb hby own_d6_39)
  have pre91 : ∀ t, own_S p e below T90 m 42 #[sR a1] [(.int 2), (.ref aw2)] t → R0 t := fun t k => pre89 t (by
    refine st90 _ ?_
    exact k)
  obtain ⟨cl92, Ar92, q92, S92, N92, H92, G92⟩ := id f74
  have hin92 := inb_of (j := (2 : Int32)) S92 ⟨by decide, by decide⟩
  have pre93 : ∀ t, own_S p e below T90 m 43 #[sR a1] [(.ref ax)] t → R0 t := fun t k => pre91 t (by
    refine X90.aaload hx (j := (2 : Int32)) (v := (.ref ax)) (by rw [e90]; exact Ar92.1) (State.isArrayOf_alike hZ.alike Ar92.2.1) rfl Ar92.2.2 hin92 (H92.at hin92 rfl) (g := (mkF m 42 #[sR a1] [(.int 2), (.ref aw2)])) rfl rfl (hb hby own_d6_42) _ ?_
    exact k)
  obtain ⟨fs, hr, hrun, hended, hW, hsame⟩ := X90.leave (v := some (.ref ax)) (fun h => by rw [Bd.returns] at h; cases h)
  refine ⟨_, _, cast (congrFun hR0 _) (pre93 _ (retOut X90 hx Bd.returns rfl (Or.inr (Or.inr (Or.inr (Or.inr ⟨rfl, rfl, rfl⟩)))) (hb hby own_d6_43) hr)), hrun, hended, _, _, rfl, ?_, ⟨_, rfl⟩, hW, hsame.mono (by decide) (by decide)⟩
  show own_Q6h0f2 Z _ _ _ _ _ _ _ h0 n0 _ T90.heap _
  rw [e90]
  have Q94 : own_QI Z h63 n0 a1 .null .null (.ref ax) o0 o1 o2 (2 : Int32) tl sz := ⟨aw2, ao2, au2, ac2, kw2, ko2, cn2, f65, f66, f67, f68, f69, f70, f79, f71, f72, f73, f74, Ow2, f75, f76, f77, la2, lb2, lc2, ld2, gq2⟩
  exact ⟨rfl, N80, f78, Q94⟩
theorem own_ef_6h1f2 (m : MethodId) (x0 : Addr) : entryFrame m #[(.ref x0)] 1 = mkF m 0 #[sR x0] [] := by first | (simp [entryFrame, mkF, argsToLocals, Value.category]; done) | rfl
def own_Q6h1f2 (Z : State) (a1 : Addr) (x0 : Value) (ax : Addr) (o0 : Int64) (o1 : Int64) (o2 : Int64) (tl : Int32) (sz : Int32) (h0 : Heap) (n0 : Nat) (v : Option Value) (h : Heap) (L : List Loc) : Prop := v = some (.ref ax) ∧ Fr n0 L ∧ own_Low a1 h0 h ∧ own_QI Z h n0 a1 x0 .null (.ref ax) o0 o1 o2 (2 : Int32) tl sz
set_option maxRecDepth 65536 in
set_option maxHeartbeats 40000000 in
theorem own_rm6h1f2 (l : Launch) (Z : State) (a0 : Array Value) (hw : ∀ d ∈ tables_1, d.before a0 Z = true) (ws : List Jvm.Cond) (a1 : Addr) (x0 : Value) (ax : Addr) (o0 : Int64) (o1 : Int64) (o2 : Int64) (tl : Int32) (sz : Int32) (h0 : Heap) (n0 : Nat) (Z0 : n0 ≤ h0.size) (hQ : own_QI Z h0 n0 a1 x0 .null (.ref ax) o0 o1 o2 (1 : Int32) tl sz) (hsz : ¬ (sz = (0 : Int32))) :
    MetFree l own_y11 (head1 (Jvm.Cond.code own_y11 prog_63_method_7_code 1 (some (.object "com/example/adlim/adlim/client/Waiter")) :: ws) ({ frames := 0, cells := 0, slots := 0, locals := 0 } : Room)) (fun a U => a = #[(.ref a1)] ∧ Z.Warmed39 U.vm ∧ U.heap = h0) (fun _ _ _ _ _ => True) (fun _ U o U' => ∃ v L, o = .returned v ∧ own_Q6h1f2 Z a1 x0 ax o0 o1 o2 tl sz h0 n0 v U'.heap L ∧ FrameEnd U o U' L ({ frames := 0, cells := 0, slots := 0, locals := 0 } : Room).cells ({ frames := 0, cells := 0, slots := 0, locals := 0 } : Room).slots) := by
  refine MetFree.of_bodySF (plainFor_of_name own_pn_2) hisR ?_
  intro p e s m args below meth c s₁ Bd hml0 hP hK
  obtain ⟨rfl, hZ, hh⟩ := hP
  have hw24 := hw _ (List.mem_of_getElem? (i := 24) rfl)
  have hw32 := hw _ (List.mem_of_getElem? (i := 32) rfl)
  have hw33 := hw _ (List.mem_of_getElem? (i := 33) rfl)
  have hw36 := hw _ (List.mem_of_getElem? (i := 36) rfl)
  have hw39 := hw _ (List.mem_of_getElem? (i := 39) rfl)
  have hw42 := hw _ (List.mem_of_getElem? (i := 42) rfl)
  have hw44 := hw _ (List.mem_of_getElem? (i := 44) rfl)
  have hw54 := hw _ (List.mem_of_getElem? (i := 54) rfl)
  have hw55 := hw _ (List.mem_of_getElem? (i := 55) rfl)
  have hw67 := hw _ (List.mem_of_getElem? (i := 67) rfl)
  have hw74 := hw _ (List.mem_of_getElem? (i := 74) rfl)
  have hw75 := hw _ (List.mem_of_getElem? (i := 75) rfl)
  have hw81 := hw _ (List.mem_of_getElem? (i := 81) rfl)
  have hx := Bd.exec
  have hby := Bd.bytes
  have hml : c.maxLocals = 1 := hml0
  have hown : s.vm.findClass "com/example/adlim/adlim/client/WaiterQueue" = some m.cls := findClass_of_methodNamed Bd.named
  have hnm := (name_of_methodNamed Bd.named Bd.method).1
  have X0 : Stand p l e ({ frames := 0, cells := 0, slots := 0, locals := 0 } : Room) s m #[(.ref a1)] below meth c s₁ [] 0 0 := Stand.of_body Bd
  have e0 : s₁.heap = h0 := by rw [← hh, Bd.state]; rfl
  have N0 := Fr.nil n0
  obtain ⟨R0, hR0⟩ : ∃ R : State → Prop, R = fun t => Steps p.tables e below (s₁.setTop (entryFrame m #[(.ref a1)] 1)) t := ⟨_, rfl⟩
  have pre0 : ∀ t, Steps p.tables e below (s₁.setTop (mkF m 0 #[sR a1] [])) t → R0 t := fun t k => by rw [hR0]; exact castTop (own_ef_6h1f2 m a1) k
  have f1 : own_Low a1 h0 h0 := own_Low.refl _ _
  obtain ⟨aw2, ao2, au2, ac2, kw2, ko2, cn2, Ex2, Fw2, Fo2, Fu2, Fc2, Fe2, Fh2, Ft2, Fs2, Fn2, Vw2, Ow2, Vo2, Uu2, Uc2, la2, lb2, lc2, ld2, gq2⟩ := id hQ
  have ne3 : a1 ≠ aw2 := Nat.ne_of_lt la2
  have lt4 : a1 < ao2 := (Nat.lt_trans la2 lb2)
  have ne5 : a1 ≠ ao2 := Nat.ne_of_lt lt4
  have lt6 : a1 < au2 := (Nat.lt_trans (Nat.lt_trans la2 lb2) lc2)
  have ne7 : a1 ≠ au2 := Nat.ne_of_lt lt6
  have lt8 : a1 < ac2 := (Nat.lt_trans (Nat.lt_trans (Nat.lt_trans la2 lb2) lc2) ld2)
  have ne9 : a1 ≠ ac2 := Nat.ne_of_lt lt8
  have ne10 : aw2 ≠ ao2 := Nat.ne_of_lt lb2
  have lt11 : aw2 < au2 := (Nat.lt_trans lb2 lc2)
  have ne12 : aw2 ≠ au2 := Nat.ne_of_lt lt11
  have lt13 : aw2 < ac2 := (Nat.lt_trans (Nat.lt_trans lb2 lc2) ld2)
  have ne14 : aw2 ≠ ac2 := Nat.ne_of_lt lt13
  have ne15 : ao2 ≠ au2 := Nat.ne_of_lt lc2
  have lt16 : ao2 < ac2 := (Nat.lt_trans lc2 ld2)
  have ne17 : ao2 ≠ ac2 := Nat.ne_of_lt lt16
  have ne18 : au2 ≠ ac2 := Nat.ne_of_lt ld2
  have g19 : n0 ≤ aw2 := Nat.le_trans gq2 (Nat.le_of_lt la2)
  have g20 : n0 ≤ ao2 := Nat.le_trans gq2 (Nat.le_of_lt lt4)
  have g21 : n0 ≤ au2 := Nat.le_trans gq2 (Nat.le_of_lt lt6)
  have g22 : n0 ≤ ac2 := Nat.le_trans gq2 (Nat.le_of_lt lt8)
  have pre23 : ∀ t, own_S p e below s₁ m 1 #[sR a1] [(.ref a1)] t → R0 t := fun t k => pre0 t (by
    refine XS.aloadN X0.here hx rfl (hb hby own_d6_0) rfl rfl ?_
    exact k)
  obtain ⟨T24, X24, e24, st24⟩ := getF X0 hx hZ hown (host := "") (Or.inl hw54) Via.refl e0 Fs2 (g := (mkF m 1 #[sR a1] [(.ref a1)])) rfl rfl (hb hby own_d6_1)
  have pre25 : ∀ t, own_S p e below T24 m 4 #[sR a1] [(.int sz)] t → R0 t := fun t k => pre23 t (by
    refine st24 _ ?_
    exact k)
  have hc26 : ¬ (sz = (0 : Int32)) := hsz
  have pre27 : ∀ t, own_S p e below T24 m 10 #[sR a1] [(.ref a1)] t → R0 t := fun t k => pre25 t (by
    refine XS.ifYes X24.here hx rfl (pc0 := 4) (pc' := 9) rfl (hb hby own_d6_4) rfl ((if0 _ _).trans (feq hc26).2) (by decide) (by decide) ?_
    refine XS.aloadN X24.here hx rfl (hb hby own_d6_9) rfl rfl ?_
    exact k)
  obtain ⟨T28, X28, e28, st28⟩ := getF X24 hx hZ hown (host := "") (Or.inl hw32) Via.refl e24 Fw2 (g := (mkF m 10 #[sR a1] [(.ref a1)])) rfl rfl (hb hby own_d6_10)
  have pre29 : ∀ t, own_S p e below T28 m 14 #[sR a1] [(.ref a1), (.ref aw2)] t → R0 t := fun t k => pre27 t (by
    refine st28 _ ?_
    refine XS.aloadN X28.here hx rfl (hb hby own_d6_13) rfl rfl ?_
    exact k)
  obtain ⟨T30, X30, e30, st30⟩ := getF X28 hx hZ hown (host := "") (Or.inl hw74) Via.refl e28 Fh2 (g := (mkF m 14 #[sR a1] [(.ref a1), (.ref aw2)])) rfl rfl (hb hby own_d6_14)
  have pre31 : ∀ t, own_S p e below T30 m 17 #[sR a1] [(.int 1), (.ref aw2)] t → R0 t := fun t k => pre29 t (by
    refine st30 _ ?_
    exact k)
  obtain ⟨cl32, Ar32, q32, S32, N32, H32, G32⟩ := id Vw2
  have hin32 := inb_of (j := (1 : Int32)) S32 ⟨by decide, by decide⟩
  have pre33 : ∀ t, own_S p e below T30 m 23 #[sR a1] [(.ref a1), (.ref a1)] t → R0 t := fun t k => pre31 t (by
    refine X30.aaload hx (j := (1 : Int32)) (v := .null) (by rw [e30]; exact Ar32.1) (State.isArrayOf_alike hZ.alike Ar32.2.1) rfl Ar32.2.2 hin32 (H32.at hin32 rfl) (g := (mkF m 17 #[sR a1] [(.int 1), (.ref aw2)])) rfl rfl (hb hby own_d6_17) _ ?_
    refine XS.ifnonnullNo X30.here hx rfl (hb hby own_d6_18) rfl ?_
    refine XS.aloadN X30.here hx rfl (hb hby own_d6_21) rfl rfl ?_
    refine XS.dup X30.here hx rfl (hb hby own_d6_22) rfl rfl ?_
    exact k)
  obtain ⟨T34, X34, e34, st34⟩ := getF X30 hx hZ hown (host := "") (Or.inl hw74) Via.refl e30 Fh2 (g := (mkF m 23 #[sR a1] [(.ref a1), (.ref a1)])) rfl rfl (hb hby own_d6_23)
  have pre35 : ∀ t, own_S p e below T34 m 28 #[sR a1] [(.int 2), (.ref a1)] t → R0 t := fun t k => pre33 t (by
    refine st34 _ ?_
    refine XS.iconst X34.here hx rfl (hb hby own_d6_26) ?_
    refine XS.iadd X34.here hx rfl (hb hby own_d6_27) rfl ?_
    exact k)
  obtain ⟨T36, h36, X36, e36, W36, st36⟩ := putF X34 hx hZ hown (host := "") (Or.inl hw74) Via.refl e34 Fh2 Ex2 (Or.inl hw75) hw24 (ty := .int) (by decide) rfl rfl (g := (mkF m 28 #[sR a1] [(.int 2), (.ref a1)])) rfl rfl (hb hby own_d6_28)
  have f37 := Nat.le_trans Z0 (Keep.of_wr W36).1
  have f38 := Ex2.wr W36
  have f39 := Fw2.other W36 (Or.inr (slot_ne (Or.inl hw33) (Or.inl hw75) (by decide) (t := (.array (.object "com/example/adlim/adlim/client/Waiter"))) (t' := .int) (by decide) (by decide)))
  have f40 := Fo2.other W36 (Or.inr (slot_ne (Or.inl hw36) (Or.inl hw75) (by decide) (t := (.array .long)) (t' := .int) (by decide) (by decide)))
  have f41 := Fu2.other W36 (Or.inr (slot_ne (Or.inl hw39) (Or.inl hw75) (by decide) (t := (.array .boolean)) (t' := .int) (by decide) (by decide)))
  have f42 := Fc2.other W36 (Or.inr (slot_ne (Or.inl hw42) (Or.inl hw75) (by decide) (t := (.array .int)) (t' := .int) (by decide) (by decide)))
  have f43 := Fe2.other W36 (Or.inr (slot_ne (Or.inr hw44) (Or.inl hw75) (by decide) (t := (.object "com/example/adlim/adlim/client/CeilingQueue")) (t' := .int) (by decide) (by decide)))
  have f44 := Ft2.other W36 (Or.inr (slot_ne (Or.inl hw67) (Or.inl hw75) (by decide) (t := .int) (t' := .int) (by decide) (by decide)))
  have f45 := Fs2.other W36 (Or.inr (slot_ne (Or.inl hw55) (Or.inl hw75) (by decide) (t := .int) (t' := .int) (by decide) (by decide)))
  have f46 := Fn2.other W36 (Or.inr (slot_ne (Or.inl hw81) (Or.inl hw75) (by decide) (t := .int) (t' := .int) (by decide) (by decide)))
  have f47 := Vw2.other W36 (Ne.symm ne3)
  have f48 := Vo2.other W36 (Ne.symm ne5)
  have f49 := Uu2.other W36 (Ne.symm ne7)
  have f50 := Uc2.other W36 (Ne.symm ne9)
  have f51 : own_Low a1 h0 h36 := f1.wr W36 (Nat.le_refl _)
  have f52 := Fh2.same W36
  have N53 := Fr.snoc X36 N0 gq2
  have pre54 : ∀ t, own_S p e below T36 m 10 #[sR a1] [(.ref a1)] t → R0 t := fun t k => pre35 t (by
    refine st36 _ ?_
    refine XS.goto X36.here hx rfl (pc0 := 31) (pc' := 9) rfl (hb hby own_d6_31) (by decide) (by decide) ?_
    refine XS.aloadN X36.here hx rfl (hb hby own_d6_9) rfl rfl ?_
    exact k)
  obtain ⟨T55, X55, e55, st55⟩ := getF X36 hx hZ hown (host := "") (Or.inl hw32) Via.refl e36 f39 (g := (mkF m 10 #[sR a1] [(.ref a1)])) rfl rfl (hb hby own_d6_10)
  have pre56 : ∀ t, own_S p e below T55 m 14 #[sR a1] [(.ref a1), (.ref aw2)] t → R0 t := fun t k => pre54 t (by
    refine st55 _ ?_
    refine XS.aloadN X55.here hx rfl (hb hby own_d6_13) rfl rfl ?_
    exact k)
  obtain ⟨T57, X57, e57, st57⟩ := getF X55 hx hZ hown (host := "") (Or.inl hw74) Via.refl e55 f52 (g := (mkF m 14 #[sR a1] [(.ref a1), (.ref aw2)])) rfl rfl (hb hby own_d6_14)
  have pre58 : ∀ t, own_S p e below T57 m 17 #[sR a1] [(.int 2), (.ref aw2)] t → R0 t := fun t k => pre56 t (by
    refine st57 _ ?_
    exact k)
  obtain ⟨cl59, Ar59, q59, S59, N59, H59, G59⟩ := id f47
  have hin59 := inb_of (j := (2 : Int32)) S59 ⟨by decide, by decide⟩
  have pre60 : ∀ t, own_S p e below T57 m 35 #[sR a1] [(.ref a1)] t → R0 t := fun t k => pre58 t (by
    refine X57.aaload hx (j := (2 : Int32)) (v := (.ref ax)) (by rw [e57]; exact Ar59.1) (State.isArrayOf_alike hZ.alike Ar59.2.1) rfl Ar59.2.2 hin59 (H59.at hin59 rfl) (g := (mkF m 17 #[sR a1] [(.int 2), (.ref aw2)])) rfl rfl (hb hby own_d6_17) _ ?_
    refine XS.ifnonnullYes X57.here hx rfl (pc0 := 18) (pc' := 34) rfl (hb hby own_d6_18) rfl (by decide) (by decide) ?_
    refine XS.aloadN X57.here hx rfl (hb hby own_d6_34) rfl rfl ?_
    exact k)
  obtain ⟨T61, X61, e61, st61⟩ := getF X57 hx hZ hown (host := "") (Or.inl hw32) Via.refl e57 f39 (g := (mkF m 35 #[sR a1] [(.ref a1)])) rfl rfl (hb hby own_d6_35)
  have pre62 : ∀ t, own_S p e below T61 m 39 #[sR a1] [(.ref a1), (.ref aw2)] t → R0 t := fun t k => pre60 t (by
    refine st61 _ ?_
    refine XS.aloadN X61.here hx rfl (hb hby own_d6_38) rfl rfl ?_
    exact k)
  obtain ⟨T63, X63, e63, st63⟩ := getF X61 hx hZ hown (host := "") (Or.inl hw74) Via.refl e61 f52 (g := (mkF m 39 #[sR a1] [(.ref a1), (.ref aw2)])) rfl rfl (hb hby own_d6_39)
  have pre64 : ∀ t, own_S p e below T63 m 42 #[sR a1] [(.int 2), (.ref aw2)] t → R0 t := fun t k => pre62 t (by
    refine st63 _ ?_
    exact k)
  obtain ⟨cl65, Ar65, q65, S65, N65, H65, G65⟩ := id f47
  have hin65 := inb_of (j := (2 : Int32)) S65 ⟨by decide, by decide⟩
  have pre66 : ∀ t, own_S p e below T63 m 43 #[sR a1] [(.ref ax)] t → R0 t := fun t k => pre64 t (by
    refine X63.aaload hx (j := (2 : Int32)) (v := (.ref ax)) (by rw [e63]; exact Ar65.1) (State.isArrayOf_alike hZ.alike Ar65.2.1) rfl Ar65.2.2 hin65 (H65.at hin65 rfl) (g := (mkF m 42 #[sR a1] [(.int 2), (.ref aw2)])) rfl rfl (hb hby own_d6_42) _ ?_
    exact k)
  obtain ⟨fs, hr, hrun, hended, hW, hsame⟩ := X63.leave (v := some (.ref ax)) (fun h => by rw [Bd.returns] at h; cases h)
  refine ⟨_, _, cast (congrFun hR0 _) (pre66 _ (retOut X63 hx Bd.returns rfl (Or.inr (Or.inr (Or.inr (Or.inr ⟨rfl, rfl, rfl⟩)))) (hb hby own_d6_43) hr)), hrun, hended, _, _, rfl, ?_, ⟨_, rfl⟩, hW, hsame.mono (by decide) (by decide)⟩
  show own_Q6h1f2 Z _ _ _ _ _ _ _ _ h0 n0 _ T63.heap _
  rw [e63]
  have Q67 : own_QI Z h36 n0 a1 x0 .null (.ref ax) o0 o1 o2 (2 : Int32) tl sz := ⟨aw2, ao2, au2, ac2, kw2, ko2, cn2, f38, f39, f40, f41, f42, f43, f52, f44, f45, f46, f47, Ow2, f48, f49, f50, la2, lb2, lc2, ld2, gq2⟩
  exact ⟨rfl, N53, f51, Q67⟩
theorem own_d5_0 : decode method_3_code 0 = .ok (.iload_n 0, 1) := by decide +kernel
theorem own_d5_1 : decode method_3_code 1 = .ok (.ifCond .eq 5, 3) := by decide +kernel
theorem own_d5_4 : decode method_3_code 4 = .ok (.aload_n 3, 1) := by decide +kernel
theorem own_d5_5 : decode method_3_code 5 = .ok (.areturn, 1) := by decide +kernel
theorem own_pn_3 : plainName "com/example/adlim/adlim/client/WaiterQueuePeekPinLaw" = true := by first | (simp [plainName, overriddenIn]; done) | decide +kernel
theorem own_ef_5a (m : MethodId) (x0 : Int32) (x1 : Int32) (x2 : Int32) (x3 : Addr) (x4 : Addr) (x5 : Addr) : entryFrame m #[(.int x0), (.int x1), (.int x2), (.ref x3), (.ref x4), (.ref x5)] 6 = mkF m 0 #[sI x0, sI x1, sI x2, sR x3, sR x4, sR x5] [] := by first | (simp [entryFrame, mkF, argsToLocals, Value.category]; done) | rfl
def own_Q5a (Z : State) (p2 : Int32) (p3 : Int32) (a4 : Addr) (a5 : Addr) (a6 : Addr) (h0 : Heap) (n0 : Nat) (v : Option Value) (h : Heap) (L : List Loc) : Prop := v = some (.ref a4) ∧ Fr n0 L ∧ h = h0
abbrev own_y12 : MethodName := ⟨"com/example/adlim/adlim/client/WaiterQueuePeekPinLaw", "first", "(ZZZLcom/example/adlim/adlim/client/Waiter;Lcom/example/adlim/adlim/client/Waiter;Lcom/example/adlim/adlim/client/Waiter;)Lcom/example/adlim/adlim/client/Waiter;"⟩
set_option maxRecDepth 65536 in
set_option maxHeartbeats 40000000 in
theorem own_rm5a (l : Launch) (Z : State) (a0 : Array Value) (hw : ∀ d ∈ tables_1, d.before a0 Z = true) (ws : List Jvm.Cond) (p2 : Int32) (p3 : Int32) (a4 : Addr) (a5 : Addr) (a6 : Addr) (h0 : Heap) (n0 : Nat) (Z0 : n0 ≤ h0.size)  :
    MetFree l own_y12 (head1 (Jvm.Cond.code own_y12 method_3_code 6 (some (.object "com/example/adlim/adlim/client/Waiter")) :: ws) ({ frames := 0, cells := 0, slots := 0, locals := 0 } : Room)) (fun a U => a = #[(.int 1), (.int p2), (.int p3), (.ref a4), (.ref a5), (.ref a6)] ∧ Z.Warmed39 U.vm ∧ U.heap = h0) (fun _ _ _ _ _ => True) (fun _ U o U' => ∃ v L, o = .returned v ∧ own_Q5a Z p2 p3 a4 a5 a6 h0 n0 v U'.heap L ∧ FrameEnd U o U' L ({ frames := 0, cells := 0, slots := 0, locals := 0 } : Room).cells ({ frames := 0, cells := 0, slots := 0, locals := 0 } : Room).slots) := by
  refine MetFree.of_bodySF (plainFor_of_name own_pn_3) hisR ?_
  intro p e s m args below meth c s₁ Bd hml0 hP hK
  obtain ⟨rfl, hZ, hh⟩ := hP
  have hx := Bd.exec
  have hby := Bd.bytes
  have hml : c.maxLocals = 6 := hml0
  have hown : s.vm.findClass "com/example/adlim/adlim/client/WaiterQueuePeekPinLaw" = some m.cls := findClass_of_methodNamed Bd.named
  have hnm := (name_of_methodNamed Bd.named Bd.method).1
  have X0 : Stand p l e ({ frames := 0, cells := 0, slots := 0, locals := 0 } : Room) s m #[(.int 1), (.int p2), (.int p3), (.ref a4), (.ref a5), (.ref a6)] below meth c s₁ [] 0 0 := Stand.of_body Bd
  have e0 : s₁.heap = h0 := by rw [← hh, Bd.state]; rfl
  have N0 := Fr.nil n0
  obtain ⟨R0, hR0⟩ : ∃ R : State → Prop, R = fun t => Steps p.tables e below (s₁.setTop (entryFrame m #[(.int 1), (.int p2), (.int p3), (.ref a4), (.ref a5), (.ref a6)] 6)) t := ⟨_, rfl⟩
  have pre0 : ∀ t, Steps p.tables e below (s₁.setTop (mkF m 0 #[sI 1, sI p2, sI p3, sR a4, sR a5, sR a6] [])) t → R0 t := fun t k => by rw [hR0]; exact castTop (own_ef_5a m (1 : Int32) p2 p3 a4 a5 a6) k
  have pre1 : ∀ t, own_S p e below s₁ m 5 #[sI 1, sI p2, sI p3, sR a4, sR a5, sR a6] [(.ref a4)] t → R0 t := fun t k => pre0 t (by
    refine XS.iloadN X0.here hx rfl (hb hby own_d5_0) rfl ?_
    refine XS.ifNo X0.here hx rfl (hb hby own_d5_1) rfl ((if0 _ _).trans (feq (by decide : ¬ ((1 : Int32) = (0 : Int32)))).1) ?_
    refine XS.aloadN X0.here hx rfl (hb hby own_d5_4) rfl rfl ?_
    exact k)
  obtain ⟨fs, hr, hrun, hended, hW, hsame⟩ := X0.leave (v := some (.ref a4)) (fun h => by rw [Bd.returns] at h; cases h)
  refine ⟨_, _, cast (congrFun hR0 _) (pre1 _ (retOut X0 hx Bd.returns rfl (Or.inr (Or.inr (Or.inr (Or.inr ⟨rfl, rfl, rfl⟩)))) (hb hby own_d5_5) hr)), hrun, hended, _, _, rfl, ?_, ⟨_, rfl⟩, hW, hsame.mono (by decide) (by decide)⟩
  show own_Q5a Z _ _ _ _ _ h0 n0 _ s₁.heap _
  rw [e0]
  exact ⟨rfl, N0, rfl⟩
theorem own_d5_6 : decode method_3_code 6 = .ok (.iload_n 1, 1) := by decide +kernel
theorem own_d5_7 : decode method_3_code 7 = .ok (.ifCond .eq 6, 3) := by decide +kernel
theorem own_d5_10 : decode method_3_code 10 = .ok (.aload 4, 2) := by decide +kernel
theorem own_d5_12 : decode method_3_code 12 = .ok (.areturn, 1) := by decide +kernel
theorem own_ef_5b (m : MethodId) (x0 : Int32) (x1 : Int32) (x2 : Int32) (x3 : Addr) (x4 : Addr) (x5 : Addr) : entryFrame m #[(.int x0), (.int x1), (.int x2), (.ref x3), (.ref x4), (.ref x5)] 6 = mkF m 0 #[sI x0, sI x1, sI x2, sR x3, sR x4, sR x5] [] := by first | (simp [entryFrame, mkF, argsToLocals, Value.category]; done) | rfl
def own_Q5b (Z : State) (p3 : Int32) (a4 : Addr) (a5 : Addr) (a6 : Addr) (h0 : Heap) (n0 : Nat) (v : Option Value) (h : Heap) (L : List Loc) : Prop := v = some (.ref a5) ∧ Fr n0 L ∧ h = h0
set_option maxRecDepth 65536 in
set_option maxHeartbeats 40000000 in
theorem own_rm5b (l : Launch) (Z : State) (a0 : Array Value) (hw : ∀ d ∈ tables_1, d.before a0 Z = true) (ws : List Jvm.Cond) (p3 : Int32) (a4 : Addr) (a5 : Addr) (a6 : Addr) (h0 : Heap) (n0 : Nat) (Z0 : n0 ≤ h0.size)  :
    MetFree l own_y12 (head1 (Jvm.Cond.code own_y12 method_3_code 6 (some (.object "com/example/adlim/adlim/client/Waiter")) :: ws) ({ frames := 0, cells := 0, slots := 0, locals := 0 } : Room)) (fun a U => a = #[(.int 0), (.int 1), (.int p3), (.ref a4), (.ref a5), (.ref a6)] ∧ Z.Warmed39 U.vm ∧ U.heap = h0) (fun _ _ _ _ _ => True) (fun _ U o U' => ∃ v L, o = .returned v ∧ own_Q5b Z p3 a4 a5 a6 h0 n0 v U'.heap L ∧ FrameEnd U o U' L ({ frames := 0, cells := 0, slots := 0, locals := 0 } : Room).cells ({ frames := 0, cells := 0, slots := 0, locals := 0 } : Room).slots) := by
  refine MetFree.of_bodySF (plainFor_of_name own_pn_3) hisR ?_
  intro p e s m args below meth c s₁ Bd hml0 hP hK
  obtain ⟨rfl, hZ, hh⟩ := hP
  have hx := Bd.exec
  have hby := Bd.bytes
  have hml : c.maxLocals = 6 := hml0
  have hown : s.vm.findClass "com/example/adlim/adlim/client/WaiterQueuePeekPinLaw" = some m.cls := findClass_of_methodNamed Bd.named
  have hnm := (name_of_methodNamed Bd.named Bd.method).1
  have X0 : Stand p l e ({ frames := 0, cells := 0, slots := 0, locals := 0 } : Room) s m #[(.int 0), (.int 1), (.int p3), (.ref a4), (.ref a5), (.ref a6)] below meth c s₁ [] 0 0 := Stand.of_body Bd
  have e0 : s₁.heap = h0 := by rw [← hh, Bd.state]; rfl
  have N0 := Fr.nil n0
  obtain ⟨R0, hR0⟩ : ∃ R : State → Prop, R = fun t => Steps p.tables e below (s₁.setTop (entryFrame m #[(.int 0), (.int 1), (.int p3), (.ref a4), (.ref a5), (.ref a6)] 6)) t := ⟨_, rfl⟩
  have pre0 : ∀ t, Steps p.tables e below (s₁.setTop (mkF m 0 #[sI 0, sI 1, sI p3, sR a4, sR a5, sR a6] [])) t → R0 t := fun t k => by rw [hR0]; exact castTop (own_ef_5b m (0 : Int32) (1 : Int32) p3 a4 a5 a6) k
  have pre1 : ∀ t, own_S p e below s₁ m 12 #[sI 0, sI 1, sI p3, sR a4, sR a5, sR a6] [(.ref a5)] t → R0 t := fun t k => pre0 t (by
    refine XS.iloadN X0.here hx rfl (hb hby own_d5_0) rfl ?_
    refine XS.ifYes X0.here hx rfl (pc0 := 1) (pc' := 6) rfl (hb hby own_d5_1) rfl ((if0 _ _).trans (teq (by decide : (0 : Int32) = (0 : Int32))).1) (by decide) (by decide) ?_
    refine XS.iloadN X0.here hx rfl (hb hby own_d5_6) rfl ?_
    refine XS.ifNo X0.here hx rfl (hb hby own_d5_7) rfl ((if0 _ _).trans (feq (by decide : ¬ ((1 : Int32) = (0 : Int32)))).1) ?_
    refine XS.aload X0.here hx rfl (hb hby own_d5_10) rfl rfl ?_
    exact k)
  obtain ⟨fs, hr, hrun, hended, hW, hsame⟩ := X0.leave (v := some (.ref a5)) (fun h => by rw [Bd.returns] at h; cases h)
  refine ⟨_, _, cast (congrFun hR0 _) (pre1 _ (retOut X0 hx Bd.returns rfl (Or.inr (Or.inr (Or.inr (Or.inr ⟨rfl, rfl, rfl⟩)))) (hb hby own_d5_12) hr)), hrun, hended, _, _, rfl, ?_, ⟨_, rfl⟩, hW, hsame.mono (by decide) (by decide)⟩
  show own_Q5b Z _ _ _ _ h0 n0 _ s₁.heap _
  rw [e0]
  exact ⟨rfl, N0, rfl⟩
theorem own_d5_13 : decode method_3_code 13 = .ok (.iload_n 2, 1) := by decide +kernel
theorem own_d5_14 : decode method_3_code 14 = .ok (.ifCond .eq 6, 3) := by decide +kernel
theorem own_d5_17 : decode method_3_code 17 = .ok (.aload 5, 2) := by decide +kernel
theorem own_d5_19 : decode method_3_code 19 = .ok (.areturn, 1) := by decide +kernel
theorem own_ef_5c (m : MethodId) (x0 : Int32) (x1 : Int32) (x2 : Int32) (x3 : Addr) (x4 : Addr) (x5 : Addr) : entryFrame m #[(.int x0), (.int x1), (.int x2), (.ref x3), (.ref x4), (.ref x5)] 6 = mkF m 0 #[sI x0, sI x1, sI x2, sR x3, sR x4, sR x5] [] := by first | (simp [entryFrame, mkF, argsToLocals, Value.category]; done) | rfl
def own_Q5c (Z : State) (a4 : Addr) (a5 : Addr) (a6 : Addr) (h0 : Heap) (n0 : Nat) (v : Option Value) (h : Heap) (L : List Loc) : Prop := v = some (.ref a6) ∧ Fr n0 L ∧ h = h0
set_option maxRecDepth 65536 in
set_option maxHeartbeats 40000000 in
theorem own_rm5c (l : Launch) (Z : State) (a0 : Array Value) (hw : ∀ d ∈ tables_1, d.before a0 Z = true) (ws : List Jvm.Cond) (a4 : Addr) (a5 : Addr) (a6 : Addr) (h0 : Heap) (n0 : Nat) (Z0 : n0 ≤ h0.size)  :
    MetFree l own_y12 (head1 (Jvm.Cond.code own_y12 method_3_code 6 (some (.object "com/example/adlim/adlim/client/Waiter")) :: ws) ({ frames := 0, cells := 0, slots := 0, locals := 0 } : Room)) (fun a U => a = #[(.int 0), (.int 0), (.int 1), (.ref a4), (.ref a5), (.ref a6)] ∧ Z.Warmed39 U.vm ∧ U.heap = h0) (fun _ _ _ _ _ => True) (fun _ U o U' => ∃ v L, o = .returned v ∧ own_Q5c Z a4 a5 a6 h0 n0 v U'.heap L ∧ FrameEnd U o U' L ({ frames := 0, cells := 0, slots := 0, locals := 0 } : Room).cells ({ frames := 0, cells := 0, slots := 0, locals := 0 } : Room).slots) := by
  refine MetFree.of_bodySF (plainFor_of_name own_pn_3) hisR ?_
  intro p e s m args below meth c s₁ Bd hml0 hP hK
  obtain ⟨rfl, hZ, hh⟩ := hP
  have hx := Bd.exec
  have hby := Bd.bytes
  have hml : c.maxLocals = 6 := hml0
  have hown : s.vm.findClass "com/example/adlim/adlim/client/WaiterQueuePeekPinLaw" = some m.cls := findClass_of_methodNamed Bd.named
  have hnm := (name_of_methodNamed Bd.named Bd.method).1
  have X0 : Stand p l e ({ frames := 0, cells := 0, slots := 0, locals := 0 } : Room) s m #[(.int 0), (.int 0), (.int 1), (.ref a4), (.ref a5), (.ref a6)] below meth c s₁ [] 0 0 := Stand.of_body Bd
  have e0 : s₁.heap = h0 := by rw [← hh, Bd.state]; rfl
  have N0 := Fr.nil n0
  obtain ⟨R0, hR0⟩ : ∃ R : State → Prop, R = fun t => Steps p.tables e below (s₁.setTop (entryFrame m #[(.int 0), (.int 0), (.int 1), (.ref a4), (.ref a5), (.ref a6)] 6)) t := ⟨_, rfl⟩
  have pre0 : ∀ t, Steps p.tables e below (s₁.setTop (mkF m 0 #[sI 0, sI 0, sI 1, sR a4, sR a5, sR a6] [])) t → R0 t := fun t k => by rw [hR0]; exact castTop (own_ef_5c m (0 : Int32) (0 : Int32) (1 : Int32) a4 a5 a6) k
  have pre1 : ∀ t, own_S p e below s₁ m 19 #[sI 0, sI 0, sI 1, sR a4, sR a5, sR a6] [(.ref a6)] t → R0 t := fun t k => pre0 t (by
    refine XS.iloadN X0.here hx rfl (hb hby own_d5_0) rfl ?_
    refine XS.ifYes X0.here hx rfl (pc0 := 1) (pc' := 6) rfl (hb hby own_d5_1) rfl ((if0 _ _).trans (teq (by decide : (0 : Int32) = (0 : Int32))).1) (by decide) (by decide) ?_
    refine XS.iloadN X0.here hx rfl (hb hby own_d5_6) rfl ?_
    refine XS.ifYes X0.here hx rfl (pc0 := 7) (pc' := 13) rfl (hb hby own_d5_7) rfl ((if0 _ _).trans (teq (by decide : (0 : Int32) = (0 : Int32))).1) (by decide) (by decide) ?_
    refine XS.iloadN X0.here hx rfl (hb hby own_d5_13) rfl ?_
    refine XS.ifNo X0.here hx rfl (hb hby own_d5_14) rfl ((if0 _ _).trans (feq (by decide : ¬ ((1 : Int32) = (0 : Int32)))).1) ?_
    refine XS.aload X0.here hx rfl (hb hby own_d5_17) rfl rfl ?_
    exact k)
  obtain ⟨fs, hr, hrun, hended, hW, hsame⟩ := X0.leave (v := some (.ref a6)) (fun h => by rw [Bd.returns] at h; cases h)
  refine ⟨_, _, cast (congrFun hR0 _) (pre1 _ (retOut X0 hx Bd.returns rfl (Or.inr (Or.inr (Or.inr (Or.inr ⟨rfl, rfl, rfl⟩)))) (hb hby own_d5_19) hr)), hrun, hended, _, _, rfl, ?_, ⟨_, rfl⟩, hW, hsame.mono (by decide) (by decide)⟩
  show own_Q5c Z _ _ _ h0 n0 _ s₁.heap _
  rw [e0]
  exact ⟨rfl, N0, rfl⟩
theorem own_d5_20 : decode method_3_code 20 = .ok (.aconst_null, 1) := by decide +kernel
theorem own_d5_21 : decode method_3_code 21 = .ok (.areturn, 1) := by decide +kernel
theorem own_ef_5d (m : MethodId) (x0 : Int32) (x1 : Int32) (x2 : Int32) (x3 : Addr) (x4 : Addr) (x5 : Addr) : entryFrame m #[(.int x0), (.int x1), (.int x2), (.ref x3), (.ref x4), (.ref x5)] 6 = mkF m 0 #[sI x0, sI x1, sI x2, sR x3, sR x4, sR x5] [] := by first | (simp [entryFrame, mkF, argsToLocals, Value.category]; done) | rfl
def own_Q5d (Z : State) (a4 : Addr) (a5 : Addr) (a6 : Addr) (h0 : Heap) (n0 : Nat) (v : Option Value) (h : Heap) (L : List Loc) : Prop := v = some .null ∧ Fr n0 L ∧ h = h0
set_option maxRecDepth 65536 in
set_option maxHeartbeats 40000000 in
theorem own_rm5d (l : Launch) (Z : State) (a0 : Array Value) (hw : ∀ d ∈ tables_1, d.before a0 Z = true) (ws : List Jvm.Cond) (a4 : Addr) (a5 : Addr) (a6 : Addr) (h0 : Heap) (n0 : Nat) (Z0 : n0 ≤ h0.size)  :
    MetFree l own_y12 (head1 (Jvm.Cond.code own_y12 method_3_code 6 (some (.object "com/example/adlim/adlim/client/Waiter")) :: ws) ({ frames := 0, cells := 0, slots := 0, locals := 0 } : Room)) (fun a U => a = #[(.int 0), (.int 0), (.int 0), (.ref a4), (.ref a5), (.ref a6)] ∧ Z.Warmed39 U.vm ∧ U.heap = h0) (fun _ _ _ _ _ => True) (fun _ U o U' => ∃ v L, o = .returned v ∧ own_Q5d Z a4 a5 a6 h0 n0 v U'.heap L ∧ FrameEnd U o U' L ({ frames := 0, cells := 0, slots := 0, locals := 0 } : Room).cells ({ frames := 0, cells := 0, slots := 0, locals := 0 } : Room).slots) := by
  refine MetFree.of_bodySF (plainFor_of_name own_pn_3) hisR ?_
  intro p e s m args below meth c s₁ Bd hml0 hP hK
  obtain ⟨rfl, hZ, hh⟩ := hP
  have hx := Bd.exec
  have hby := Bd.bytes
  have hml : c.maxLocals = 6 := hml0
  have hown : s.vm.findClass "com/example/adlim/adlim/client/WaiterQueuePeekPinLaw" = some m.cls := findClass_of_methodNamed Bd.named
  have hnm := (name_of_methodNamed Bd.named Bd.method).1
  have X0 : Stand p l e ({ frames := 0, cells := 0, slots := 0, locals := 0 } : Room) s m #[(.int 0), (.int 0), (.int 0), (.ref a4), (.ref a5), (.ref a6)] below meth c s₁ [] 0 0 := Stand.of_body Bd
  have e0 : s₁.heap = h0 := by rw [← hh, Bd.state]; rfl
  have N0 := Fr.nil n0
  obtain ⟨R0, hR0⟩ : ∃ R : State → Prop, R = fun t => Steps p.tables e below (s₁.setTop (entryFrame m #[(.int 0), (.int 0), (.int 0), (.ref a4), (.ref a5), (.ref a6)] 6)) t := ⟨_, rfl⟩
  have pre0 : ∀ t, Steps p.tables e below (s₁.setTop (mkF m 0 #[sI 0, sI 0, sI 0, sR a4, sR a5, sR a6] [])) t → R0 t := fun t k => by rw [hR0]; exact castTop (own_ef_5d m (0 : Int32) (0 : Int32) (0 : Int32) a4 a5 a6) k
  have pre1 : ∀ t, own_S p e below s₁ m 21 #[sI 0, sI 0, sI 0, sR a4, sR a5, sR a6] [.null] t → R0 t := fun t k => pre0 t (by
    refine XS.iloadN X0.here hx rfl (hb hby own_d5_0) rfl ?_
    refine XS.ifYes X0.here hx rfl (pc0 := 1) (pc' := 6) rfl (hb hby own_d5_1) rfl ((if0 _ _).trans (teq (by decide : (0 : Int32) = (0 : Int32))).1) (by decide) (by decide) ?_
    refine XS.iloadN X0.here hx rfl (hb hby own_d5_6) rfl ?_
    refine XS.ifYes X0.here hx rfl (pc0 := 7) (pc' := 13) rfl (hb hby own_d5_7) rfl ((if0 _ _).trans (teq (by decide : (0 : Int32) = (0 : Int32))).1) (by decide) (by decide) ?_
    refine XS.iloadN X0.here hx rfl (hb hby own_d5_13) rfl ?_
    refine XS.ifYes X0.here hx rfl (pc0 := 14) (pc' := 20) rfl (hb hby own_d5_14) rfl ((if0 _ _).trans (teq (by decide : (0 : Int32) = (0 : Int32))).1) (by decide) (by decide) ?_
    refine XS.aconstNull X0.here hx rfl (hb hby own_d5_20) ?_
    exact k)
  obtain ⟨fs, hr, hrun, hended, hW, hsame⟩ := X0.leave (v := some .null) (fun h => by rw [Bd.returns] at h; cases h)
  refine ⟨_, _, cast (congrFun hR0 _) (pre1 _ (retOut X0 hx Bd.returns rfl (Or.inr (Or.inr (Or.inr (Or.inr ⟨rfl, rfl, rfl⟩)))) (hb hby own_d5_21) hr)), hrun, hended, _, _, rfl, ?_, ⟨_, rfl⟩, hW, hsame.mono (by decide) (by decide)⟩
  show own_Q5d Z _ _ _ h0 n0 _ s₁.heap _
  rw [e0]
  exact ⟨rfl, N0, rfl⟩
theorem own_pd_6 : parseMethodDescriptor "(Ljava/util/concurrent/CompletableFuture;Lcom/example/adlim/adlim/client/Demand;JJ)V" = some ⟨[(.object "java/util/concurrent/CompletableFuture"), (.object "com/example/adlim/adlim/client/Demand"), .long, .long], none⟩ := by decide +kernel
theorem own_pd_7 : parseMethodDescriptor "(Lcom/example/adlim/adlim/client/CeilingQueue;)V" = some ⟨[(.object "com/example/adlim/adlim/client/CeilingQueue")], none⟩ := by decide +kernel
theorem own_pd_8 : parseMethodDescriptor "(ZZZLcom/example/adlim/adlim/client/Waiter;Lcom/example/adlim/adlim/client/Waiter;Lcom/example/adlim/adlim/client/Waiter;)Lcom/example/adlim/adlim/client/Waiter;" = some ⟨[.boolean, .boolean, .boolean, (.object "com/example/adlim/adlim/client/Waiter"), (.object "com/example/adlim/adlim/client/Waiter"), (.object "com/example/adlim/adlim/client/Waiter")], some (.object "com/example/adlim/adlim/client/Waiter")⟩ := by decide +kernel
theorem own_pd_9 : parseMethodDescriptor "()Lcom/example/adlim/adlim/client/Waiter;" = some ⟨[], some (.object "com/example/adlim/adlim/client/Waiter")⟩ := by decide +kernel
theorem own_pd_10 : parseMethodDescriptor "()I" = some ⟨[], some .int⟩ := by decide +kernel
theorem own_pd_11 : parseMethodDescriptor "(Lcom/example/adlim/adlim/client/Waiter;Z)V" = some ⟨[(.object "com/example/adlim/adlim/client/Waiter"), .boolean], none⟩ := by decide +kernel
theorem own_pd_12 : parseMethodDescriptor "(Lcom/example/adlim/adlim/client/Waiter;)V" = some ⟨[(.object "com/example/adlim/adlim/client/Waiter")], none⟩ := by decide +kernel
theorem own_ef_0 (m : MethodId) (x0 : Int32) (x1 : Int64) : entryFrame m #[(.int x0), (.long x1)] maxLocals = mkF m 0 #[sI x0, sJ x1, .second, .unset, .unset, .unset, .unset, .unset, .unset, .unset, .unset, .unset, .unset, .unset, .unset, .unset, .unset, .unset, .unset, .unset, .unset, .unset, .unset, .unset] [] := by first | (simp [entryFrame, mkF, argsToLocals, Value.category, maxLocals]; done) | rfl
def own_Q0 (Z : State) (p1 : Int32) (q2 : Int64) (h0 : Heap) (n0 : Nat) (v : Option Value) (h : Heap) (L : List Loc) : Prop := v = some (.int 1) ∧ Fr n0 L
set_option maxRecDepth 65536 in
set_option maxHeartbeats 40000000 in
theorem own_rm0 (l : Launch) (Z : State) (a0 : Array Value) (hw : ∀ d ∈ tables_1, d.before a0 Z = true) (ws : List Jvm.Cond) (p1 : Int32) (q2 : Int64) (h0 : Heap) (n0 : Nat) (Z0 : n0 ≤ h0.size)  :
    MetFree l x (head1 (Jvm.Cond.code x code maxLocals ret :: ws) room_1) (fun a U => a = #[(.int p1), (.long q2)] ∧ Z.Warmed39 U.vm ∧ U.heap = h0) (fun _ _ _ _ _ => True) (fun _ U o U' => ∃ v L, o = .returned v ∧ own_Q0 Z p1 q2 h0 n0 v U'.heap L ∧ FrameEnd U o U' L room_1.cells room_1.slots) := by
  refine MetFree.of_bodySF (plainFor_of_name own_pn_3) hisR ?_
  intro p e s m args below meth c s₁ Bd hml0 hP hK
  obtain ⟨rfl, hZ, hh⟩ := hP
  have hw0 := hw _ (List.mem_of_getElem? (i := 0) rfl)
  have hw1 := hw _ (List.mem_of_getElem? (i := 1) rfl)
  have hw2 := hw _ (List.mem_of_getElem? (i := 2) rfl)
  have hw3 := hw _ (List.mem_of_getElem? (i := 3) rfl)
  have hw4 := hw _ (List.mem_of_getElem? (i := 4) rfl)
  have hw5 := hw _ (List.mem_of_getElem? (i := 5) rfl)
  have hw15 := hw _ (List.mem_of_getElem? (i := 15) rfl)
  have hw17 := hw _ (List.mem_of_getElem? (i := 17) rfl)
  have hw19 := hw _ (List.mem_of_getElem? (i := 19) rfl)
  have hw21 := hw _ (List.mem_of_getElem? (i := 21) rfl)
  have hw22 := hw _ (List.mem_of_getElem? (i := 22) rfl)
  have hw23 := hw _ (List.mem_of_getElem? (i := 23) rfl)
  have hw24 := hw _ (List.mem_of_getElem? (i := 24) rfl)
  have hw25 := hw _ (List.mem_of_getElem? (i := 25) rfl)
  have hw26 := hw _ (List.mem_of_getElem? (i := 26) rfl)
  have hw27 := hw _ (List.mem_of_getElem? (i := 27) rfl)
  have hw28 := hw _ (List.mem_of_getElem? (i := 28) rfl)
  have hw33 := hw _ (List.mem_of_getElem? (i := 33) rfl)
  have hw36 := hw _ (List.mem_of_getElem? (i := 36) rfl)
  have hw39 := hw _ (List.mem_of_getElem? (i := 39) rfl)
  have hw42 := hw _ (List.mem_of_getElem? (i := 42) rfl)
  have hw44 := hw _ (List.mem_of_getElem? (i := 44) rfl)
  have hw45 := hw _ (List.mem_of_getElem? (i := 45) rfl)
  have hw46 := hw _ (List.mem_of_getElem? (i := 46) rfl)
  have hw47 := hw _ (List.mem_of_getElem? (i := 47) rfl)
  have hw48 := hw _ (List.mem_of_getElem? (i := 48) rfl)
  have hw49 := hw _ (List.mem_of_getElem? (i := 49) rfl)
  have hw50 := hw _ (List.mem_of_getElem? (i := 50) rfl)
  have hw51 := hw _ (List.mem_of_getElem? (i := 51) rfl)
  have hw52 := hw _ (List.mem_of_getElem? (i := 52) rfl)
  have hw53 := hw _ (List.mem_of_getElem? (i := 53) rfl)
  have hw55 := hw _ (List.mem_of_getElem? (i := 55) rfl)
  have hw56 := hw _ (List.mem_of_getElem? (i := 56) rfl)
  have hw57 := hw _ (List.mem_of_getElem? (i := 57) rfl)
  have hw58 := hw _ (List.mem_of_getElem? (i := 58) rfl)
  have hw59 := hw _ (List.mem_of_getElem? (i := 59) rfl)
  have hw60 := hw _ (List.mem_of_getElem? (i := 60) rfl)
  have hw61 := hw _ (List.mem_of_getElem? (i := 61) rfl)
  have hw62 := hw _ (List.mem_of_getElem? (i := 62) rfl)
  have hw63 := hw _ (List.mem_of_getElem? (i := 63) rfl)
  have hw64 := hw _ (List.mem_of_getElem? (i := 64) rfl)
  have hw65 := hw _ (List.mem_of_getElem? (i := 65) rfl)
  have hw67 := hw _ (List.mem_of_getElem? (i := 67) rfl)
  have hw75 := hw _ (List.mem_of_getElem? (i := 75) rfl)
  have hw81 := hw _ (List.mem_of_getElem? (i := 81) rfl)
  have hw82 := hw _ (List.mem_of_getElem? (i := 82) rfl)
  have hw83 := hw _ (List.mem_of_getElem? (i := 83) rfl)
  have hw84 := hw _ (List.mem_of_getElem? (i := 84) rfl)
  have hw85 := hw _ (List.mem_of_getElem? (i := 85) rfl)
  have hw86 := hw _ (List.mem_of_getElem? (i := 86) rfl)
  have hx := Bd.exec
  have hby := Bd.bytes
  have hml : c.maxLocals = 24 := hml0
  have hown : s.vm.findClass "com/example/adlim/adlim/client/WaiterQueuePeekPinLaw" = some m.cls := findClass_of_methodNamed Bd.named
  have hnm := (name_of_methodNamed Bd.named Bd.method).1
  have X0 : Stand p l e room_1 s m #[(.int p1), (.long q2)] below meth c s₁ [] 0 0 := Stand.of_body Bd
  have e0 : s₁.heap = h0 := by rw [← hh, Bd.state]; rfl
  have N0 := Fr.nil n0
  obtain ⟨R0, hR0⟩ : ∃ R : State → Prop, R = fun t => Steps p.tables e below (s₁.setTop (entryFrame m #[(.int p1), (.long q2)] maxLocals)) t := ⟨_, rfl⟩
  have pre0 : ∀ t, Steps p.tables e below (s₁.setTop (mkF m 0 #[sI p1, sJ q2, sW, sU, sU, sU, sU, sU, sU, sU, sU, sU, sU, sU, sU, sU, sU, sU, sU, sU, sU, sU, sU, sU] [])) t → R0 t := fun t k => by rw [hR0]; exact castTop (own_ef_0 m p1 q2) k
  have pre1 : ∀ t, own_S p e below s₁ m 3 #[sI p1, sJ q2, sW, sU, sU, sU, sU, sU, sU, sU, sU, sU, sU, sU, sU, sU, sU, sU, sU, sU, sU, sU, sU, sU] [(.int (p1 &&& (3 : Int32)))] t → R0 t := fun t k => pre0 t (by
    refine XS.iloadN X0.here hx rfl (hb hby at_0) rfl ?_
    refine XS.iconst X0.here hx rfl (hb hby at_1) ?_
    refine XS.iand X0.here hx rfl (hb hby at_2) rfl ?_
    exact k)
  obtain ⟨v3, hv3⟩ : ∃ z : Int32, z = (p1 &&& (3 : Int32)) := ⟨_, rfl⟩
  have pre2 : ∀ t, own_S p e below s₁ m 3 #[sI p1, sJ q2, sW, sU, sU, sU, sU, sU, sU, sU, sU, sU, sU, sU, sU, sU, sU, sU, sU, sU, sU, sU, sU, sU] [(.int v3)] t → R0 t := fun t k => pre1 t (by subst hv3; exact k)
  have pre3 : ∀ t, own_S p e below s₁ m 7 #[sI p1, sJ q2, sW, sI v3, sU, sU, sU, sU, sU, sU, sU, sU, sU, sU, sU, sU, sU, sU, sU, sU, sU, sU, sU, sU] [(.int (p1 &&& (4 : Int32)))] t → R0 t := fun t k => pre2 t (by
    refine XS.istoreN X0.here hx rfl (hb hby at_3) rfl (l' := #[sI p1, sJ q2, sW, sI v3, sU, sU, sU, sU, sU, sU, sU, sU, sU, sU, sU, sU, sU, sU, sU, sU, sU, sU, sU, sU]) rfl ?_
    refine XS.iloadN X0.here hx rfl (hb hby at_4) rfl ?_
    refine XS.iconst X0.here hx rfl (hb hby at_5) ?_
    refine XS.iand X0.here hx rfl (hb hby at_6) rfl ?_
    exact k)
  obtain ⟨T4, Lc5, c0, X6, e7, N8, P9, pre10⟩ : ∃ (T4 : State) (Lc5 : List Loc) (c0 : Int32), Stand p l e room_1 s m #[(.int p1), (.long q2)] below meth c T4 Lc5 0 0 ∧ T4.heap = h0 ∧ Fr n0 Lc5 ∧ (True) ∧ ∀ t, own_S p e below T4 m 17 #[sI p1, sJ q2, sW, sI v3, sI c0, sU, sU, sU, sU, sU, sU, sU, sU, sU, sU, sU, sU, sU, sU, sU, sU, sU, sU, sU] [] t → R0 t := by
    by_cases hc7 : (p1 &&& (4 : Int32)) = (0 : Int32)
    · have pre11 : ∀ t, own_S p e below s₁ m 17 #[sI p1, sJ q2, sW, sI v3, sI 0, sU, sU, sU, sU, sU, sU, sU, sU, sU, sU, sU, sU, sU, sU, sU, sU, sU, sU, sU] [] t → R0 t := fun t k => pre3 t (by
        refine XS.ifYes X0.here hx rfl (pc0 := 7) (pc' := 14) rfl (hb hby at_7) rfl ((if0 _ _).trans (teq hc7).1) (by decide) (by decide) ?_
        refine XS.iconst X0.here hx rfl (hb hby at_14) ?_
        refine XS.istore X0.here hx rfl (hb hby at_15) rfl (l' := #[sI p1, sJ q2, sW, sI v3, sI 0, sU, sU, sU, sU, sU, sU, sU, sU, sU, sU, sU, sU, sU, sU, sU, sU, sU, sU, sU]) rfl ?_
        exact k)
      exact ⟨_, _, (0 : Int32), X0, e0, N0, trivial, pre11⟩
    · have pre12 : ∀ t, own_S p e below s₁ m 17 #[sI p1, sJ q2, sW, sI v3, sI 1, sU, sU, sU, sU, sU, sU, sU, sU, sU, sU, sU, sU, sU, sU, sU, sU, sU, sU, sU] [] t → R0 t := fun t k => pre3 t (by
        refine XS.ifNo X0.here hx rfl (hb hby at_7) rfl ((if0 _ _).trans (feq hc7).1) ?_
        refine XS.iconst X0.here hx rfl (hb hby at_10) ?_
        refine XS.goto X0.here hx rfl (pc0 := 11) (pc' := 15) rfl (hb hby at_11) (by decide) (by decide) ?_
        refine XS.istore X0.here hx rfl (hb hby at_15) rfl (l' := #[sI p1, sJ q2, sW, sI v3, sI 1, sU, sU, sU, sU, sU, sU, sU, sU, sU, sU, sU, sU, sU, sU, sU, sU, sU, sU, sU]) rfl ?_
        exact k)
      exact ⟨_, _, (1 : Int32), X0, e0, N0, trivial, pre12⟩
  have pre13 : ∀ t, own_S p e below T4 m 21 #[sI p1, sJ q2, sW, sI v3, sI c0, sU, sU, sU, sU, sU, sU, sU, sU, sU, sU, sU, sU, sU, sU, sU, sU, sU, sU, sU] [(.int (p1 &&& (8 : Int32)))] t → R0 t := fun t k => pre10 t (by
    refine XS.iloadN X6.here hx rfl (hb hby at_17) rfl ?_
    refine XS.bipush X6.here hx rfl (hb hby at_18) ?_
    refine XS.iand X6.here hx rfl (hb hby at_20) rfl ?_
    exact k)
  obtain ⟨T14, Lc15, c1, X16, e17, N18, P19, pre20⟩ : ∃ (T14 : State) (Lc15 : List Loc) (c1 : Int32), Stand p l e room_1 s m #[(.int p1), (.long q2)] below meth c T14 Lc15 0 0 ∧ T14.heap = h0 ∧ Fr n0 Lc15 ∧ (True) ∧ ∀ t, own_S p e below T14 m 31 #[sI p1, sJ q2, sW, sI v3, sI c0, sI c1, sU, sU, sU, sU, sU, sU, sU, sU, sU, sU, sU, sU, sU, sU, sU, sU, sU, sU] [] t → R0 t := by
    by_cases hc21 : (p1 &&& (8 : Int32)) = (0 : Int32)
    · have pre21 : ∀ t, own_S p e below T4 m 31 #[sI p1, sJ q2, sW, sI v3, sI c0, sI 0, sU, sU, sU, sU, sU, sU, sU, sU, sU, sU, sU, sU, sU, sU, sU, sU, sU, sU] [] t → R0 t := fun t k => pre13 t (by
        refine XS.ifYes X6.here hx rfl (pc0 := 21) (pc' := 28) rfl (hb hby at_21) rfl ((if0 _ _).trans (teq hc21).1) (by decide) (by decide) ?_
        refine XS.iconst X6.here hx rfl (hb hby at_28) ?_
        refine XS.istore X6.here hx rfl (hb hby at_29) rfl (l' := #[sI p1, sJ q2, sW, sI v3, sI c0, sI 0, sU, sU, sU, sU, sU, sU, sU, sU, sU, sU, sU, sU, sU, sU, sU, sU, sU, sU]) rfl ?_
        exact k)
      exact ⟨_, _, (0 : Int32), X6, e7, N8, trivial, pre21⟩
    · have pre22 : ∀ t, own_S p e below T4 m 31 #[sI p1, sJ q2, sW, sI v3, sI c0, sI 1, sU, sU, sU, sU, sU, sU, sU, sU, sU, sU, sU, sU, sU, sU, sU, sU, sU, sU] [] t → R0 t := fun t k => pre13 t (by
        refine XS.ifNo X6.here hx rfl (hb hby at_21) rfl ((if0 _ _).trans (feq hc21).1) ?_
        refine XS.iconst X6.here hx rfl (hb hby at_24) ?_
        refine XS.goto X6.here hx rfl (pc0 := 25) (pc' := 29) rfl (hb hby at_25) (by decide) (by decide) ?_
        refine XS.istore X6.here hx rfl (hb hby at_29) rfl (l' := #[sI p1, sJ q2, sW, sI v3, sI c0, sI 1, sU, sU, sU, sU, sU, sU, sU, sU, sU, sU, sU, sU, sU, sU, sU, sU, sU, sU]) rfl ?_
        exact k)
      exact ⟨_, _, (1 : Int32), X6, e7, N8, trivial, pre22⟩
  have pre23 : ∀ t, own_S p e below T14 m 35 #[sI p1, sJ q2, sW, sI v3, sI c0, sI c1, sU, sU, sU, sU, sU, sU, sU, sU, sU, sU, sU, sU, sU, sU, sU, sU, sU, sU] [(.int (p1 &&& (16 : Int32)))] t → R0 t := fun t k => pre20 t (by
    refine XS.iloadN X16.here hx rfl (hb hby at_31) rfl ?_
    refine XS.bipush X16.here hx rfl (hb hby at_32) ?_
    refine XS.iand X16.here hx rfl (hb hby at_34) rfl ?_
    exact k)
  obtain ⟨T24, Lc25, c2, X26, e27, N28, P29, pre30⟩ : ∃ (T24 : State) (Lc25 : List Loc) (c2 : Int32), Stand p l e room_1 s m #[(.int p1), (.long q2)] below meth c T24 Lc25 0 0 ∧ T24.heap = h0 ∧ Fr n0 Lc25 ∧ (True) ∧ ∀ t, own_S p e below T24 m 45 #[sI p1, sJ q2, sW, sI v3, sI c0, sI c1, sI c2, sU, sU, sU, sU, sU, sU, sU, sU, sU, sU, sU, sU, sU, sU, sU, sU, sU] [] t → R0 t := by
    by_cases hc35 : (p1 &&& (16 : Int32)) = (0 : Int32)
    · have pre31 : ∀ t, own_S p e below T14 m 45 #[sI p1, sJ q2, sW, sI v3, sI c0, sI c1, sI 0, sU, sU, sU, sU, sU, sU, sU, sU, sU, sU, sU, sU, sU, sU, sU, sU, sU] [] t → R0 t := fun t k => pre23 t (by
        refine XS.ifYes X16.here hx rfl (pc0 := 35) (pc' := 42) rfl (hb hby at_35) rfl ((if0 _ _).trans (teq hc35).1) (by decide) (by decide) ?_
        refine XS.iconst X16.here hx rfl (hb hby at_42) ?_
        refine XS.istore X16.here hx rfl (hb hby at_43) rfl (l' := #[sI p1, sJ q2, sW, sI v3, sI c0, sI c1, sI 0, sU, sU, sU, sU, sU, sU, sU, sU, sU, sU, sU, sU, sU, sU, sU, sU, sU]) rfl ?_
        exact k)
      exact ⟨_, _, (0 : Int32), X16, e17, N18, trivial, pre31⟩
    · have pre32 : ∀ t, own_S p e below T14 m 45 #[sI p1, sJ q2, sW, sI v3, sI c0, sI c1, sI 1, sU, sU, sU, sU, sU, sU, sU, sU, sU, sU, sU, sU, sU, sU, sU, sU, sU] [] t → R0 t := fun t k => pre23 t (by
        refine XS.ifNo X16.here hx rfl (hb hby at_35) rfl ((if0 _ _).trans (feq hc35).1) ?_
        refine XS.iconst X16.here hx rfl (hb hby at_38) ?_
        refine XS.goto X16.here hx rfl (pc0 := 39) (pc' := 43) rfl (hb hby at_39) (by decide) (by decide) ?_
        refine XS.istore X16.here hx rfl (hb hby at_43) rfl (l' := #[sI p1, sJ q2, sW, sI v3, sI c0, sI c1, sI 1, sU, sU, sU, sU, sU, sU, sU, sU, sU, sU, sU, sU, sU, sU, sU, sU, sU]) rfl ?_
        exact k)
      exact ⟨_, _, (1 : Int32), X16, e17, N18, trivial, pre32⟩
  have pre33 : ∀ t, own_S p e below T24 m 49 #[sI p1, sJ q2, sW, sI v3, sI c0, sI c1, sI c2, sU, sU, sU, sU, sU, sU, sU, sU, sU, sU, sU, sU, sU, sU, sU, sU, sU] [(.int (p1 &&& (32 : Int32)))] t → R0 t := fun t k => pre30 t (by
    refine XS.iloadN X26.here hx rfl (hb hby at_45) rfl ?_
    refine XS.bipush X26.here hx rfl (hb hby at_46) ?_
    refine XS.iand X26.here hx rfl (hb hby at_48) rfl ?_
    exact k)
  obtain ⟨T34, Lc35, e0_, X36, e37, N38, P39, pre40⟩ : ∃ (T34 : State) (Lc35 : List Loc) (e0_ : Int32), Stand p l e room_1 s m #[(.int p1), (.long q2)] below meth c T34 Lc35 0 0 ∧ T34.heap = h0 ∧ Fr n0 Lc35 ∧ (True) ∧ ∀ t, own_S p e below T34 m 59 #[sI p1, sJ q2, sW, sI v3, sI c0, sI c1, sI c2, sI e0_, sU, sU, sU, sU, sU, sU, sU, sU, sU, sU, sU, sU, sU, sU, sU, sU] [] t → R0 t := by
    by_cases hc49 : (p1 &&& (32 : Int32)) = (0 : Int32)
    · have pre41 : ∀ t, own_S p e below T24 m 59 #[sI p1, sJ q2, sW, sI v3, sI c0, sI c1, sI c2, sI 0, sU, sU, sU, sU, sU, sU, sU, sU, sU, sU, sU, sU, sU, sU, sU, sU] [] t → R0 t := fun t k => pre33 t (by
        refine XS.ifYes X26.here hx rfl (pc0 := 49) (pc' := 56) rfl (hb hby at_49) rfl ((if0 _ _).trans (teq hc49).1) (by decide) (by decide) ?_
        refine XS.iconst X26.here hx rfl (hb hby at_56) ?_
        refine XS.istore X26.here hx rfl (hb hby at_57) rfl (l' := #[sI p1, sJ q2, sW, sI v3, sI c0, sI c1, sI c2, sI 0, sU, sU, sU, sU, sU, sU, sU, sU, sU, sU, sU, sU, sU, sU, sU, sU]) rfl ?_
        exact k)
      exact ⟨_, _, (0 : Int32), X26, e27, N28, trivial, pre41⟩
    · have pre42 : ∀ t, own_S p e below T24 m 59 #[sI p1, sJ q2, sW, sI v3, sI c0, sI c1, sI c2, sI 1, sU, sU, sU, sU, sU, sU, sU, sU, sU, sU, sU, sU, sU, sU, sU, sU] [] t → R0 t := fun t k => pre33 t (by
        refine XS.ifNo X26.here hx rfl (hb hby at_49) rfl ((if0 _ _).trans (feq hc49).1) ?_
        refine XS.iconst X26.here hx rfl (hb hby at_52) ?_
        refine XS.goto X26.here hx rfl (pc0 := 53) (pc' := 57) rfl (hb hby at_53) (by decide) (by decide) ?_
        refine XS.istore X26.here hx rfl (hb hby at_57) rfl (l' := #[sI p1, sJ q2, sW, sI v3, sI c0, sI c1, sI c2, sI 1, sU, sU, sU, sU, sU, sU, sU, sU, sU, sU, sU, sU, sU, sU, sU, sU]) rfl ?_
        exact k)
      exact ⟨_, _, (1 : Int32), X26, e27, N28, trivial, pre42⟩
  have pre43 : ∀ t, own_S p e below T34 m 63 #[sI p1, sJ q2, sW, sI v3, sI c0, sI c1, sI c2, sI e0_, sU, sU, sU, sU, sU, sU, sU, sU, sU, sU, sU, sU, sU, sU, sU, sU] [(.int (p1 &&& (64 : Int32)))] t → R0 t := fun t k => pre40 t (by
    refine XS.iloadN X36.here hx rfl (hb hby at_59) rfl ?_
    refine XS.bipush X36.here hx rfl (hb hby at_60) ?_
    refine XS.iand X36.here hx rfl (hb hby at_62) rfl ?_
    exact k)
  obtain ⟨T44, Lc45, e1_, X46, e47, N48, P49, pre50⟩ : ∃ (T44 : State) (Lc45 : List Loc) (e1_ : Int32), Stand p l e room_1 s m #[(.int p1), (.long q2)] below meth c T44 Lc45 0 0 ∧ T44.heap = h0 ∧ Fr n0 Lc45 ∧ (True) ∧ ∀ t, own_S p e below T44 m 73 #[sI p1, sJ q2, sW, sI v3, sI c0, sI c1, sI c2, sI e0_, sI e1_, sU, sU, sU, sU, sU, sU, sU, sU, sU, sU, sU, sU, sU, sU, sU] [] t → R0 t := by
    by_cases hc63 : (p1 &&& (64 : Int32)) = (0 : Int32)
    · have pre51 : ∀ t, own_S p e below T34 m 73 #[sI p1, sJ q2, sW, sI v3, sI c0, sI c1, sI c2, sI e0_, sI 0, sU, sU, sU, sU, sU, sU, sU, sU, sU, sU, sU, sU, sU, sU, sU] [] t → R0 t := fun t k => pre43 t (by
        refine XS.ifYes X36.here hx rfl (pc0 := 63) (pc' := 70) rfl (hb hby at_63) rfl ((if0 _ _).trans (teq hc63).1) (by decide) (by decide) ?_
        refine XS.iconst X36.here hx rfl (hb hby at_70) ?_
        refine XS.istore X36.here hx rfl (hb hby at_71) rfl (l' := #[sI p1, sJ q2, sW, sI v3, sI c0, sI c1, sI c2, sI e0_, sI 0, sU, sU, sU, sU, sU, sU, sU, sU, sU, sU, sU, sU, sU, sU, sU]) rfl ?_
        exact k)
      exact ⟨_, _, (0 : Int32), X36, e37, N38, trivial, pre51⟩
    · have pre52 : ∀ t, own_S p e below T34 m 73 #[sI p1, sJ q2, sW, sI v3, sI c0, sI c1, sI c2, sI e0_, sI 1, sU, sU, sU, sU, sU, sU, sU, sU, sU, sU, sU, sU, sU, sU, sU] [] t → R0 t := fun t k => pre43 t (by
        refine XS.ifNo X36.here hx rfl (hb hby at_63) rfl ((if0 _ _).trans (feq hc63).1) ?_
        refine XS.iconst X36.here hx rfl (hb hby at_66) ?_
        refine XS.goto X36.here hx rfl (pc0 := 67) (pc' := 71) rfl (hb hby at_67) (by decide) (by decide) ?_
        refine XS.istore X36.here hx rfl (hb hby at_71) rfl (l' := #[sI p1, sJ q2, sW, sI v3, sI c0, sI c1, sI c2, sI e0_, sI 1, sU, sU, sU, sU, sU, sU, sU, sU, sU, sU, sU, sU, sU, sU, sU]) rfl ?_
        exact k)
      exact ⟨_, _, (1 : Int32), X36, e37, N38, trivial, pre52⟩
  have pre53 : ∀ t, own_S p e below T44 m 78 #[sI p1, sJ q2, sW, sI v3, sI c0, sI c1, sI c2, sI e0_, sI e1_, sU, sU, sU, sU, sU, sU, sU, sU, sU, sU, sU, sU, sU, sU, sU] [(.int (p1 &&& (128 : Int32)))] t → R0 t := fun t k => pre50 t (by
    refine XS.iloadN X46.here hx rfl (hb hby at_73) rfl ?_
    refine XS.sipush X46.here hx rfl (hb hby at_74) ?_
    refine XS.iand X46.here hx rfl (hb hby at_77) rfl ?_
    exact k)
  obtain ⟨T54, Lc55, e2_, X56, e57, N58, P59, pre60⟩ : ∃ (T54 : State) (Lc55 : List Loc) (e2_ : Int32), Stand p l e room_1 s m #[(.int p1), (.long q2)] below meth c T54 Lc55 0 0 ∧ T54.heap = h0 ∧ Fr n0 Lc55 ∧ (True) ∧ ∀ t, own_S p e below T54 m 88 #[sI p1, sJ q2, sW, sI v3, sI c0, sI c1, sI c2, sI e0_, sI e1_, sI e2_, sU, sU, sU, sU, sU, sU, sU, sU, sU, sU, sU, sU, sU, sU] [] t → R0 t := by
    by_cases hc78 : (p1 &&& (128 : Int32)) = (0 : Int32)
    · have pre61 : ∀ t, own_S p e below T44 m 88 #[sI p1, sJ q2, sW, sI v3, sI c0, sI c1, sI c2, sI e0_, sI e1_, sI 0, sU, sU, sU, sU, sU, sU, sU, sU, sU, sU, sU, sU, sU, sU] [] t → R0 t := fun t k => pre53 t (by
        refine XS.ifYes X46.here hx rfl (pc0 := 78) (pc' := 85) rfl (hb hby at_78) rfl ((if0 _ _).trans (teq hc78).1) (by decide) (by decide) ?_
        refine XS.iconst X46.here hx rfl (hb hby at_85) ?_
        refine XS.istore X46.here hx rfl (hb hby at_86) rfl (l' := #[sI p1, sJ q2, sW, sI v3, sI c0, sI c1, sI c2, sI e0_, sI e1_, sI 0, sU, sU, sU, sU, sU, sU, sU, sU, sU, sU, sU, sU, sU, sU]) rfl ?_
        exact k)
      exact ⟨_, _, (0 : Int32), X46, e47, N48, trivial, pre61⟩
    · have pre62 : ∀ t, own_S p e below T44 m 88 #[sI p1, sJ q2, sW, sI v3, sI c0, sI c1, sI c2, sI e0_, sI e1_, sI 1, sU, sU, sU, sU, sU, sU, sU, sU, sU, sU, sU, sU, sU, sU] [] t → R0 t := fun t k => pre53 t (by
        refine XS.ifNo X46.here hx rfl (hb hby at_78) rfl ((if0 _ _).trans (feq hc78).1) ?_
        refine XS.iconst X46.here hx rfl (hb hby at_81) ?_
        refine XS.goto X46.here hx rfl (pc0 := 82) (pc' := 86) rfl (hb hby at_82) (by decide) (by decide) ?_
        refine XS.istore X46.here hx rfl (hb hby at_86) rfl (l' := #[sI p1, sJ q2, sW, sI v3, sI c0, sI c1, sI c2, sI e0_, sI e1_, sI 1, sU, sU, sU, sU, sU, sU, sU, sU, sU, sU, sU, sU, sU, sU]) rfl ?_
        exact k)
      exact ⟨_, _, (1 : Int32), X46, e47, N48, trivial, pre62⟩
  have pre63 : ∀ t, own_S p e below T54 m 93 #[sI p1, sJ q2, sW, sI v3, sI c0, sI c1, sI c2, sI e0_, sI e1_, sI e2_, sU, sU, sU, sU, sU, sU, sU, sU, sU, sU, sU, sU, sU, sU] [(.int (p1 &&& (256 : Int32)))] t → R0 t := fun t k => pre60 t (by
    refine XS.iloadN X56.here hx rfl (hb hby at_88) rfl ?_
    refine XS.sipush X56.here hx rfl (hb hby at_89) ?_
    refine XS.iand X56.here hx rfl (hb hby at_92) rfl ?_
    exact k)
  obtain ⟨T64, Lc65, again, X66, e67, N68, P69, pre70⟩ : ∃ (T64 : State) (Lc65 : List Loc) (again : Int32), Stand p l e room_1 s m #[(.int p1), (.long q2)] below meth c T64 Lc65 0 0 ∧ T64.heap = h0 ∧ Fr n0 Lc65 ∧ (True) ∧ ∀ t, own_S p e below T64 m 103 #[sI p1, sJ q2, sW, sI v3, sI c0, sI c1, sI c2, sI e0_, sI e1_, sI e2_, sI again, sU, sU, sU, sU, sU, sU, sU, sU, sU, sU, sU, sU, sU] [] t → R0 t := by
    by_cases hc93 : (p1 &&& (256 : Int32)) = (0 : Int32)
    · have pre71 : ∀ t, own_S p e below T54 m 103 #[sI p1, sJ q2, sW, sI v3, sI c0, sI c1, sI c2, sI e0_, sI e1_, sI e2_, sI 0, sU, sU, sU, sU, sU, sU, sU, sU, sU, sU, sU, sU, sU] [] t → R0 t := fun t k => pre63 t (by
        refine XS.ifYes X56.here hx rfl (pc0 := 93) (pc' := 100) rfl (hb hby at_93) rfl ((if0 _ _).trans (teq hc93).1) (by decide) (by decide) ?_
        refine XS.iconst X56.here hx rfl (hb hby at_100) ?_
        refine XS.istore X56.here hx rfl (hb hby at_101) rfl (l' := #[sI p1, sJ q2, sW, sI v3, sI c0, sI c1, sI c2, sI e0_, sI e1_, sI e2_, sI 0, sU, sU, sU, sU, sU, sU, sU, sU, sU, sU, sU, sU, sU]) rfl ?_
        exact k)
      exact ⟨_, _, (0 : Int32), X56, e57, N58, trivial, pre71⟩
    · have pre72 : ∀ t, own_S p e below T54 m 103 #[sI p1, sJ q2, sW, sI v3, sI c0, sI c1, sI c2, sI e0_, sI e1_, sI e2_, sI 1, sU, sU, sU, sU, sU, sU, sU, sU, sU, sU, sU, sU, sU] [] t → R0 t := fun t k => pre63 t (by
        refine XS.ifNo X56.here hx rfl (hb hby at_93) rfl ((if0 _ _).trans (feq hc93).1) ?_
        refine XS.iconst X56.here hx rfl (hb hby at_96) ?_
        refine XS.goto X56.here hx rfl (pc0 := 97) (pc' := 101) rfl (hb hby at_97) (by decide) (by decide) ?_
        refine XS.istore X56.here hx rfl (hb hby at_101) rfl (l' := #[sI p1, sJ q2, sW, sI v3, sI c0, sI c1, sI c2, sI e0_, sI e1_, sI e2_, sI 1, sU, sU, sU, sU, sU, sU, sU, sU, sU, sU, sU, sU, sU]) rfl ?_
        exact k)
      exact ⟨_, _, (1 : Int32), X56, e57, N58, trivial, pre72⟩
  have pre73 : ∀ t, own_S p e below T64 m 106 #[sI p1, sJ q2, sW, sI v3, sI c0, sI c1, sI c2, sI e0_, sI e1_, sI e2_, sI again, sU, sU, sU, sU, sU, sU, sU, sU, sU, sU, sU, sU, sU] [(.long (q2 >>> ((2 : Int32) &&& 0x3f).toInt64))] t → R0 t := fun t k => pre70 t (by
    refine XS.lloadN X66.here hx rfl (hb hby at_103) rfl ?_
    refine XS.iconst X66.here hx rfl (hb hby at_104) ?_
    refine XS.lshr X66.here hx rfl (hb hby at_105) rfl ?_
    exact k)
  obtain ⟨v11, hv11⟩ : ∃ z : Int64, z = (q2 >>> ((2 : Int32) &&& 0x3f).toInt64) := ⟨_, rfl⟩
  have pre74 : ∀ t, own_S p e below T64 m 106 #[sI p1, sJ q2, sW, sI v3, sI c0, sI c1, sI c2, sI e0_, sI e1_, sI e2_, sI again, sU, sU, sU, sU, sU, sU, sU, sU, sU, sU, sU, sU, sU] [(.long v11)] t → R0 t := fun t k => pre73 t (by subst hv11; exact k)
  obtain ⟨hq01, hq12, hq02⟩ := own_base q2 v11 hv11
  have pre75 : ∀ t, own_S p e below T64 m 108 #[sI p1, sJ q2, sW, sI v3, sI c0, sI c1, sI c2, sI e0_, sI e1_, sI e2_, sI again, sJ v11, sW, sU, sU, sU, sU, sU, sU, sU, sU, sU, sU, sU] [] t → R0 t := fun t k => pre74 t (by
    refine XS.lstore X66.here hx rfl (hb hby at_106) rfl (l' := #[sI p1, sJ q2, sW, sI v3, sI c0, sI c1, sI c2, sI e0_, sI e1_, sI e2_, sI again, sJ v11, sW, sU, sU, sU, sU, sU, sU, sU, sU, sU, sU, sU]) rfl ?_
    exact k)
  obtain ⟨T76, h76, X76, e76, E76, A76, D76, -, st76⟩ := newO X66 hx hZ hown hw0 hw1 hw2 e67 (g := (mkF m 108 #[sI p1, sJ q2, sW, sI v3, sI c0, sI c1, sI c2, sI e0_, sI e1_, sI e2_, sI again, sJ v11, sW, sU, sU, sU, sU, sU, sU, sU, sU, sU, sU, sU] [])) rfl (hb hby at_108) (by decide) (by decide)
  obtain ⟨b76, g76⟩ : ∃ z, z = h0.size := ⟨_, rfl⟩
  rw [← g76] at A76 D76 st76
  have g_b76 : n0 ≤ b76 := Nat.le_trans Z0 (Nat.le_of_eq g76.symm)
  have f77 := Nat.le_trans Z0 E76.1
  have f78 : Fld Z h76 b76 "com/example/adlim/adlim/client/Waiter" "future" "Ljava/util/concurrent/CompletableFuture;" .null := D76 (Or.inr hw15) (ty := (.object "java/util/concurrent/CompletableFuture")) (by decide)
  have f79 : Fld Z h76 b76 "com/example/adlim/adlim/client/Waiter" "demand" "Lcom/example/adlim/adlim/client/Demand;" .null := D76 (Or.inr hw17) (ty := (.object "com/example/adlim/adlim/client/Demand")) (by decide)
  have f80 : Fld Z h76 b76 "com/example/adlim/adlim/client/Waiter" "admitted" "J" (.long 0) := D76 (Or.inr hw19) (ty := .long) (by decide)
  have f81 : Fld Z h76 b76 "com/example/adlim/adlim/client/Waiter" "order" "J" (.long 0) := D76 (Or.inr hw21) (ty := .long) (by decide)
  have pre82 : ∀ t, own_S p e below T76 m 117 #[sI p1, sJ q2, sW, sI v3, sI c0, sI c1, sI c2, sI e0_, sI e1_, sI e2_, sI again, sJ v11, sW, sU, sU, sU, sU, sU, sU, sU, sU, sU, sU, sU] [(.long v11), (.long 0), .null, .null, (.ref b76), (.ref b76)] t → R0 t := fun t k => pre75 t (by
    refine st76 _ ?_
    refine XS.dup X76.here hx rfl (hb hby at_111) rfl rfl ?_
    refine XS.aconstNull X76.here hx rfl (hb hby at_112) ?_
    refine XS.aconstNull X76.here hx rfl (hb hby at_113) ?_
    refine XS.lconst X76.here hx rfl (hb hby at_114) ?_
    refine XS.lload X76.here hx rfl (hb hby at_115) rfl ?_
    exact k)
  obtain ⟨_, _, ⟨T83, L83, k83, n83⟩, -, X83, ⟨Lc83, hQ83, l83, y83, z83⟩, st83⟩ := X76.specialBack hx (y := own_y1) rfl hown (mvT hZ hw3) (mvT hZ hw4) (mvT hZ hw5) (by decide) (backOf (W := 1) (own_rm1 l Z a0 hw [] b76 (0 : Int64) v11 .null .null (.long 0) (.long 0) h76 n0 f77 A76 f78 f79 f80 f81 g_b76) hZ hw5 hw2 (by decide) (by decide)) (g := (mkF m 117 #[sI p1, sJ q2, sW, sI v3, sI c0, sI c1, sI c2, sI e0_, sI e1_, sI e2_, sI again, sJ v11, sW, sU, sU, sU, sU, sU, sU, sU, sU, sU, sU, sU] [(.long v11), (.long 0), .null, .null, (.ref b76), (.ref b76)])) rfl (by rw [hml]; rfl) (Steps.refl _) (a := b76) (argsL := [.null, .null, (.long 0), (.long v11)]) (rest := [(.ref b76)]) (lenOf own_pd_6 rfl) rfl (by show 2 * 0 + _ ≤ _; exact Nat.le_of_eq rfl) (hb hby at_117) (fun _ _ => ⟨rfl, e76, (by decide : 1 + 0 ≤ _), (by decide : 4 + 0 ≤ _)⟩)
  dsimp only [Pt.U, Pt.locs, Pt.cells, Pt.slots] at X83 l83 y83 z83 st83 hQ83
  subst l83 y83 z83
  obtain ⟨rfl, N83q, K83, ex83, fx83_0, fx83_1, fx83_2, fx83_3⟩ := hQ83
  have f84 := Nat.le_trans f77 K83.1
  have f85 := A76.keep K83
  have N83 := Fr.app N68 N83q
  have pre86 : ∀ t, own_S p e below T83 m 122 #[sI p1, sJ q2, sW, sI v3, sI c0, sI c1, sI c2, sI e0_, sI e1_, sI e2_, sI again, sJ v11, sW, sR b76, sU, sU, sU, sU, sU, sU, sU, sU, sU, sU] [] t → R0 t := fun t k => pre82 t (by
    refine st83.trans ?_
    refine XS.astore X83.here hx rfl (hb hby at_120) rfl rfl (l' := #[sI p1, sJ q2, sW, sI v3, sI c0, sI c1, sI c2, sI e0_, sI e1_, sI e2_, sI again, sJ v11, sW, sR b76, sU, sU, sU, sU, sU, sU, sU, sU, sU, sU]) rfl ?_
    exact k)
  obtain ⟨T87, h87, X87, e87, E87, A87, D87, -, st87⟩ := newO X83 hx hZ hown hw0 hw1 hw2 rfl (g := (mkF m 122 #[sI p1, sJ q2, sW, sI v3, sI c0, sI c1, sI c2, sI e0_, sI e1_, sI e2_, sI again, sJ v11, sW, sR b76, sU, sU, sU, sU, sU, sU, sU, sU, sU, sU] [])) rfl (hb hby at_122) (by decide) (by decide)
  obtain ⟨b87, g87⟩ : ∃ z, z = T83.heap.size := ⟨_, rfl⟩
  rw [← g87] at A87 D87 st87
  have lne88 : b76 < b87 := Nat.lt_of_lt_of_le ex83.lt (Nat.le_of_eq g87.symm)
  have ne88 : b76 ≠ b87 := Nat.ne_of_lt lne88
  have g_b87 : n0 ≤ b87 := Nat.le_trans f84 (Nat.le_of_eq g87.symm)
  have f89 := Nat.le_trans f84 E87.1
  have f90 := ex83.ext E87
  have f91 := fx83_0.ext E87
  have f92 := fx83_1.ext E87
  have f93 := fx83_2.ext E87
  have f94 := fx83_3.ext E87
  have f95 : Fld Z h87 b87 "com/example/adlim/adlim/client/Waiter" "future" "Ljava/util/concurrent/CompletableFuture;" .null := D87 (Or.inr hw15) (ty := (.object "java/util/concurrent/CompletableFuture")) (by decide)
  have f96 : Fld Z h87 b87 "com/example/adlim/adlim/client/Waiter" "demand" "Lcom/example/adlim/adlim/client/Demand;" .null := D87 (Or.inr hw17) (ty := (.object "com/example/adlim/adlim/client/Demand")) (by decide)
  have f97 : Fld Z h87 b87 "com/example/adlim/adlim/client/Waiter" "admitted" "J" (.long 0) := D87 (Or.inr hw19) (ty := .long) (by decide)
  have f98 : Fld Z h87 b87 "com/example/adlim/adlim/client/Waiter" "order" "J" (.long 0) := D87 (Or.inr hw21) (ty := .long) (by decide)
  have pre99 : ∀ t, own_S p e below T87 m 133 #[sI p1, sJ q2, sW, sI v3, sI c0, sI c1, sI c2, sI e0_, sI e1_, sI e2_, sI again, sJ v11, sW, sR b76, sU, sU, sU, sU, sU, sU, sU, sU, sU, sU] [(.long (v11 + (1 : Int64))), (.long 0), .null, .null, (.ref b87), (.ref b87)] t → R0 t := fun t k => pre86 t (by
    refine st87 _ ?_
    refine XS.dup X87.here hx rfl (hb hby at_125) rfl rfl ?_
    refine XS.aconstNull X87.here hx rfl (hb hby at_126) ?_
    refine XS.aconstNull X87.here hx rfl (hb hby at_127) ?_
    refine XS.lconst X87.here hx rfl (hb hby at_128) ?_
    refine XS.lload X87.here hx rfl (hb hby at_129) rfl ?_
    refine XS.lconst X87.here hx rfl (hb hby at_131) ?_
    refine XS.ladd X87.here hx rfl (hb hby at_132) rfl ?_
    exact k)
  obtain ⟨_, _, ⟨T100, L100, k100, n100⟩, -, X100, ⟨Lc100, hQ100, l100, y100, z100⟩, st100⟩ := X87.specialBack hx (y := own_y1) rfl hown (mvT hZ hw3) (mvT hZ hw4) (mvT hZ hw5) (by decide) (backOf (W := 1) (own_rm1 l Z a0 hw [] b87 (0 : Int64) (v11 + (1 : Int64)) .null .null (.long 0) (.long 0) h87 n0 f89 A87 f95 f96 f97 f98 g_b87) hZ hw5 hw2 (by decide) (by decide)) (g := (mkF m 133 #[sI p1, sJ q2, sW, sI v3, sI c0, sI c1, sI c2, sI e0_, sI e1_, sI e2_, sI again, sJ v11, sW, sR b76, sU, sU, sU, sU, sU, sU, sU, sU, sU, sU] [(.long (v11 + (1 : Int64))), (.long 0), .null, .null, (.ref b87), (.ref b87)])) rfl (by rw [hml]; rfl) (Steps.refl _) (a := b87) (argsL := [.null, .null, (.long 0), (.long (v11 + (1 : Int64)))]) (rest := [(.ref b87)]) (lenOf own_pd_6 rfl) rfl (by show 2 * 0 + _ ≤ _; exact Nat.le_of_eq rfl) (hb hby at_133) (fun _ _ => ⟨rfl, e87, (by decide : 2 + 0 ≤ _), (by decide : 8 + 0 ≤ _)⟩)
  dsimp only [Pt.U, Pt.locs, Pt.cells, Pt.slots] at X100 l100 y100 z100 st100 hQ100
  subst l100 y100 z100
  obtain ⟨rfl, N100q, K100, ex100, fx100_0, fx100_1, fx100_2, fx100_3⟩ := hQ100
  have f101 := Nat.le_trans f89 K100.1
  have f102 := f90.keep K100
  have f103 := f91.keep K100 (ninS ne88 nin0)
  have f104 := f92.keep K100 (ninS ne88 nin0)
  have f105 := f93.keep K100 (ninS ne88 nin0)
  have f106 := f94.keep K100 (ninS ne88 nin0)
  have f107 := A87.keep K100
  have N100 := Fr.app N83 N100q
  have pre108 : ∀ t, own_S p e below T100 m 138 #[sI p1, sJ q2, sW, sI v3, sI c0, sI c1, sI c2, sI e0_, sI e1_, sI e2_, sI again, sJ v11, sW, sR b76, sR b87, sU, sU, sU, sU, sU, sU, sU, sU, sU] [] t → R0 t := fun t k => pre99 t (by
    refine st100.trans ?_
    refine XS.astore X100.here hx rfl (hb hby at_136) rfl rfl (l' := #[sI p1, sJ q2, sW, sI v3, sI c0, sI c1, sI c2, sI e0_, sI e1_, sI e2_, sI again, sJ v11, sW, sR b76, sR b87, sU, sU, sU, sU, sU, sU, sU, sU, sU]) rfl ?_
    exact k)
  obtain ⟨T109, h109, X109, e109, E109, A109, D109, -, st109⟩ := newO X100 hx hZ hown hw0 hw1 hw2 rfl (g := (mkF m 138 #[sI p1, sJ q2, sW, sI v3, sI c0, sI c1, sI c2, sI e0_, sI e1_, sI e2_, sI again, sJ v11, sW, sR b76, sR b87, sU, sU, sU, sU, sU, sU, sU, sU, sU] [])) rfl (hb hby at_138) (by decide) (by decide)
  obtain ⟨b109, g109⟩ : ∃ z, z = T100.heap.size := ⟨_, rfl⟩
  rw [← g109] at A109 D109 st109
  have lne110 : b76 < b109 := Nat.lt_of_lt_of_le f102.lt (Nat.le_of_eq g109.symm)
  have ne110 : b76 ≠ b109 := Nat.ne_of_lt lne110
  have lne111 : b87 < b109 := Nat.lt_of_lt_of_le ex100.lt (Nat.le_of_eq g109.symm)
  have ne111 : b87 ≠ b109 := Nat.ne_of_lt lne111
  have g_b109 : n0 ≤ b109 := Nat.le_trans f101 (Nat.le_of_eq g109.symm)
  have f112 := Nat.le_trans f101 E109.1
  have f113 := f102.ext E109
  have f114 := f103.ext E109
  have f115 := f104.ext E109
  have f116 := f105.ext E109
  have f117 := f106.ext E109
  have f118 := ex100.ext E109
  have f119 := fx100_0.ext E109
  have f120 := fx100_1.ext E109
  have f121 := fx100_2.ext E109
  have f122 := fx100_3.ext E109
  have f123 : Fld Z h109 b109 "com/example/adlim/adlim/client/Waiter" "future" "Ljava/util/concurrent/CompletableFuture;" .null := D109 (Or.inr hw15) (ty := (.object "java/util/concurrent/CompletableFuture")) (by decide)
  have f124 : Fld Z h109 b109 "com/example/adlim/adlim/client/Waiter" "demand" "Lcom/example/adlim/adlim/client/Demand;" .null := D109 (Or.inr hw17) (ty := (.object "com/example/adlim/adlim/client/Demand")) (by decide)
  have f125 : Fld Z h109 b109 "com/example/adlim/adlim/client/Waiter" "admitted" "J" (.long 0) := D109 (Or.inr hw19) (ty := .long) (by decide)
  have f126 : Fld Z h109 b109 "com/example/adlim/adlim/client/Waiter" "order" "J" (.long 0) := D109 (Or.inr hw21) (ty := .long) (by decide)
  have pre127 : ∀ t, own_S p e below T109 m 151 #[sI p1, sJ q2, sW, sI v3, sI c0, sI c1, sI c2, sI e0_, sI e1_, sI e2_, sI again, sJ v11, sW, sR b76, sR b87, sU, sU, sU, sU, sU, sU, sU, sU, sU] [(.long (v11 + (2 : Int64))), (.long 0), .null, .null, (.ref b109), (.ref b109)] t → R0 t := fun t k => pre108 t (by
    refine st109 _ ?_
    refine XS.dup X109.here hx rfl (hb hby at_141) rfl rfl ?_
    refine XS.aconstNull X109.here hx rfl (hb hby at_142) ?_
    refine XS.aconstNull X109.here hx rfl (hb hby at_143) ?_
    refine XS.lconst X109.here hx rfl (hb hby at_144) ?_
    refine XS.lload X109.here hx rfl (hb hby at_145) rfl ?_
    refine X109.ldc2Long hx hown (mvT hZ hw22) (g := (mkF m 147 #[sI p1, sJ q2, sW, sI v3, sI c0, sI c1, sI c2, sI e0_, sI e1_, sI e2_, sI again, sJ v11, sW, sR b76, sR b87, sU, sU, sU, sU, sU, sU, sU, sU, sU] [(.long v11), (.long 0), .null, .null, (.ref b109), (.ref b109)])) rfl (hb hby at_147) _ ?_
    refine XS.ladd X109.here hx rfl (hb hby at_150) rfl ?_
    exact k)
  obtain ⟨_, _, ⟨T128, L128, k128, n128⟩, -, X128, ⟨Lc128, hQ128, l128, y128, z128⟩, st128⟩ := X109.specialBack hx (y := own_y1) rfl hown (mvT hZ hw3) (mvT hZ hw4) (mvT hZ hw5) (by decide) (backOf (W := 1) (own_rm1 l Z a0 hw [] b109 (0 : Int64) (v11 + (2 : Int64)) .null .null (.long 0) (.long 0) h109 n0 f112 A109 f123 f124 f125 f126 g_b109) hZ hw5 hw2 (by decide) (by decide)) (g := (mkF m 151 #[sI p1, sJ q2, sW, sI v3, sI c0, sI c1, sI c2, sI e0_, sI e1_, sI e2_, sI again, sJ v11, sW, sR b76, sR b87, sU, sU, sU, sU, sU, sU, sU, sU, sU] [(.long (v11 + (2 : Int64))), (.long 0), .null, .null, (.ref b109), (.ref b109)])) rfl (by rw [hml]; rfl) (Steps.refl _) (a := b109) (argsL := [.null, .null, (.long 0), (.long (v11 + (2 : Int64)))]) (rest := [(.ref b109)]) (lenOf own_pd_6 rfl) rfl (by show 2 * 0 + _ ≤ _; exact Nat.le_of_eq rfl) (hb hby at_151) (fun _ _ => ⟨rfl, e109, (by decide : 3 + 0 ≤ _), (by decide : 12 + 0 ≤ _)⟩)
  dsimp only [Pt.U, Pt.locs, Pt.cells, Pt.slots] at X128 l128 y128 z128 st128 hQ128
  subst l128 y128 z128
  obtain ⟨rfl, N128q, K128, ex128, fx128_0, fx128_1, fx128_2, fx128_3⟩ := hQ128
  have f129 := Nat.le_trans f112 K128.1
  have f130 := f113.keep K128
  have f131 := f114.keep K128 (ninS ne110 nin0)
  have f132 := f115.keep K128 (ninS ne110 nin0)
  have f133 := f116.keep K128 (ninS ne110 nin0)
  have f134 := f117.keep K128 (ninS ne110 nin0)
  have f135 := f118.keep K128
  have f136 := f119.keep K128 (ninS ne111 nin0)
  have f137 := f120.keep K128 (ninS ne111 nin0)
  have f138 := f121.keep K128 (ninS ne111 nin0)
  have f139 := f122.keep K128 (ninS ne111 nin0)
  have f140 := A109.keep K128
  have N128 := Fr.app N100 N128q
  have pre141 : ∀ t, own_S p e below T128 m 156 #[sI p1, sJ q2, sW, sI v3, sI c0, sI c1, sI c2, sI e0_, sI e1_, sI e2_, sI again, sJ v11, sW, sR b76, sR b87, sR b109, sU, sU, sU, sU, sU, sU, sU, sU] [] t → R0 t := fun t k => pre127 t (by
    refine st128.trans ?_
    refine XS.astore X128.here hx rfl (hb hby at_154) rfl rfl (l' := #[sI p1, sJ q2, sW, sI v3, sI c0, sI c1, sI c2, sI e0_, sI e1_, sI e2_, sI again, sJ v11, sW, sR b76, sR b87, sR b109, sU, sU, sU, sU, sU, sU, sU, sU]) rfl ?_
    exact k)
  obtain ⟨T142, h142, X142, e142, E142, A142, D142, -, st142⟩ := newO X128 hx hZ hown hw23 hw24 hw25 rfl (g := (mkF m 156 #[sI p1, sJ q2, sW, sI v3, sI c0, sI c1, sI c2, sI e0_, sI e1_, sI e2_, sI again, sJ v11, sW, sR b76, sR b87, sR b109, sU, sU, sU, sU, sU, sU, sU, sU] [])) rfl (hb hby at_156) (by decide) (by decide)
  obtain ⟨b142, g142⟩ : ∃ z, z = T128.heap.size := ⟨_, rfl⟩
  rw [← g142] at A142 D142 st142
  have lne143 : b76 < b142 := Nat.lt_of_lt_of_le f130.lt (Nat.le_of_eq g142.symm)
  have ne143 : b76 ≠ b142 := Nat.ne_of_lt lne143
  have lne144 : b87 < b142 := Nat.lt_of_lt_of_le f135.lt (Nat.le_of_eq g142.symm)
  have ne144 : b87 ≠ b142 := Nat.ne_of_lt lne144
  have lne145 : b109 < b142 := Nat.lt_of_lt_of_le ex128.lt (Nat.le_of_eq g142.symm)
  have ne145 : b109 ≠ b142 := Nat.ne_of_lt lne145
  have g_b142 : n0 ≤ b142 := Nat.le_trans f129 (Nat.le_of_eq g142.symm)
  have f146 := Nat.le_trans f129 E142.1
  have f147 := f130.ext E142
  have f148 := f131.ext E142
  have f149 := f132.ext E142
  have f150 := f133.ext E142
  have f151 := f134.ext E142
  have f152 := f135.ext E142
  have f153 := f136.ext E142
  have f154 := f137.ext E142
  have f155 := f138.ext E142
  have f156 := f139.ext E142
  have f157 := ex128.ext E142
  have f158 := fx128_0.ext E142
  have f159 := fx128_1.ext E142
  have f160 := fx128_2.ext E142
  have f161 := fx128_3.ext E142
  have f162 : Fld Z h142 b142 "com/example/adlim/adlim/client/WaiterQueue" "waiters" "[Lcom/example/adlim/adlim/client/Waiter;" .null := D142 (Or.inl hw33) (ty := (.array (.object "com/example/adlim/adlim/client/Waiter"))) (by decide)
  have f163 : Fld Z h142 b142 "com/example/adlim/adlim/client/WaiterQueue" "orders" "[J" .null := D142 (Or.inl hw36) (ty := (.array .long)) (by decide)
  have f164 : Fld Z h142 b142 "com/example/adlim/adlim/client/WaiterQueue" "uncounted" "[Z" .null := D142 (Or.inl hw39) (ty := (.array .boolean)) (by decide)
  have f165 : Fld Z h142 b142 "com/example/adlim/adlim/client/WaiterQueue" "counts" "[I" .null := D142 (Or.inl hw42) (ty := (.array .int)) (by decide)
  have f166 : Fld Z h142 b142 "com/example/adlim/adlim/client/WaiterQueue" "ceiling" "Lcom/example/adlim/adlim/client/CeilingQueue;" .null := D142 (Or.inr hw44) (ty := (.object "com/example/adlim/adlim/client/CeilingQueue")) (by decide)
  have f167 : Fld Z h142 b142 "com/example/adlim/adlim/client/WaiterQueue" "size" "I" (.int 0) := D142 (Or.inl hw55) (ty := .int) (by decide)
  have f168 : Fld Z h142 b142 "com/example/adlim/adlim/client/WaiterQueue" "tail" "I" (.int 0) := D142 (Or.inl hw67) (ty := .int) (by decide)
  have f169 : Fld Z h142 b142 "com/example/adlim/adlim/client/WaiterQueue" "head" "I" (.int 0) := D142 (Or.inl hw75) (ty := .int) (by decide)
  have f170 : Fld Z h142 b142 "com/example/adlim/adlim/client/WaiterQueue" "counted" "I" (.int 0) := D142 (Or.inl hw81) (ty := .int) (by decide)
  have pre171 : ∀ t, own_S p e below T142 m 164 #[sI p1, sJ q2, sW, sI v3, sI c0, sI c1, sI c2, sI e0_, sI e1_, sI e2_, sI again, sJ v11, sW, sR b76, sR b87, sR b109, sU, sU, sU, sU, sU, sU, sU, sU] [.null, (.ref b142), (.ref b142)] t → R0 t := fun t k => pre141 t (by
    refine st142 _ ?_
    refine XS.dup X142.here hx rfl (hb hby at_159) rfl rfl ?_
    refine XS.aconstNull X142.here hx rfl (hb hby at_160) ?_
    refine X142.checkcastNull hx (g := (mkF m 161 #[sI p1, sJ q2, sW, sI v3, sI c0, sI c1, sI c2, sI e0_, sI e1_, sI e2_, sI again, sJ v11, sW, sR b76, sR b87, sR b109, sU, sU, sU, sU, sU, sU, sU, sU] [.null, (.ref b142), (.ref b142)])) rfl rfl (hb hby at_161) _ ?_
    exact k)
  obtain ⟨_, _, ⟨T172, L172, k172, n172⟩, -, X172, ⟨Lc172, hQ172, l172, y172, z172⟩, st172⟩ := X142.specialBack hx (y := own_y3) rfl hown (mvT hZ hw26) (mvT hZ hw27) (mvT hZ hw28) (by decide) (backOf (W := 1) (own_rm4 l Z a0 hw [] b142 h142 n0 f146 A142 f162 f163 f164 f165 f166 f169 f168 f167 f170 g_b142) hZ hw28 hw25 (by decide) (by decide)) (g := (mkF m 164 #[sI p1, sJ q2, sW, sI v3, sI c0, sI c1, sI c2, sI e0_, sI e1_, sI e2_, sI again, sJ v11, sW, sR b76, sR b87, sR b109, sU, sU, sU, sU, sU, sU, sU, sU] [.null, (.ref b142), (.ref b142)])) rfl (by rw [hml]; rfl) (Steps.refl _) (a := b142) (argsL := [.null]) (rest := [(.ref b142)]) (lenOf own_pd_7 rfl) rfl (by show 2 * 0 + _ ≤ _; exact Nat.le_of_eq rfl) (hb hby at_164) (fun _ _ => ⟨rfl, e142, (by decide : 4 + 4 ≤ _), (by decide : 21 + 32 ≤ _)⟩)
  dsimp only [Pt.U, Pt.locs, Pt.cells, Pt.slots] at X172 l172 y172 z172 st172 hQ172
  subst l172 y172 z172
  obtain ⟨rfl, N172q, Lw172, Qw172⟩ := hQ172
  have f173 := Nat.le_trans f146 Lw172.1
  have f174 := Lw172.exa f147 lne143
  have f175 := Lw172.fld f148 lne143
  have f176 := Lw172.fld f149 lne143
  have f177 := Lw172.fld f150 lne143
  have f178 := Lw172.fld f151 lne143
  have f179 := Lw172.exa f152 lne144
  have f180 := Lw172.fld f153 lne144
  have f181 := Lw172.fld f154 lne144
  have f182 := Lw172.fld f155 lne144
  have f183 := Lw172.fld f156 lne144
  have f184 := Lw172.exa f157 lne145
  have f185 := Lw172.fld f158 lne145
  have f186 := Lw172.fld f159 lne145
  have f187 := Lw172.fld f160 lne145
  have f188 := Lw172.fld f161 lne145
  have Q189 : own_QI Z T172.heap n0 b142 .null .null .null (0 : Int64) (0 : Int64) (0 : Int64) (0 : Int32) (0 : Int32) (0 : Int32) := Qw172
  have N172 := Fr.app N128 N172q
  have pre190 : ∀ t, own_S p e below T172 m 169 #[sI p1, sJ q2, sW, sI v3, sI c0, sI c1, sI c2, sI e0_, sI e1_, sI e2_, sI again, sJ v11, sW, sR b76, sR b87, sR b109, sR b142, sU, sU, sU, sU, sU, sU, sU] [] t → R0 t := fun t k => pre171 t (by
    refine st172.trans ?_
    refine XS.astore X172.here hx rfl (hb hby at_167) rfl rfl (l' := #[sI p1, sJ q2, sW, sI v3, sI c0, sI c1, sI c2, sI e0_, sI e1_, sI e2_, sI again, sJ v11, sW, sR b76, sR b87, sR b109, sR b142, sU, sU, sU, sU, sU, sU, sU]) rfl ?_
    exact k)
  have hcase := own_and3 p1
  rw [← hv3] at hcase
  clear hv3
  rcases hcase with rfl | rfl | rfl | rfl
  · have pre191 : ∀ t, own_S p e below T172 m 322 #[sI p1, sJ q2, sW, sI 0, sI c0, sI c1, sI c2, sI e0_, sI e1_, sI e2_, sI again, sJ v11, sW, sR b76, sR b87, sR b109, sR b142, sI 0, sI 0, sI 0, sU, sU, sU, sU] [(.ref b109), (.ref b87), (.ref b76), (.int 0), (.int 0), (.int 0)] t → R0 t := fun t k => pre190 t (by
      refine XS.iloadN X172.here hx rfl (hb hby at_169) rfl ?_
      refine XS.ifYes X172.here hx rfl (pc0 := 170) (pc' := 182) rfl (hb hby at_170) rfl ((if0 _ _).trans (flt (by decide : ¬ ((0 : Int32) < (0 : Int32)))).2.2.2) (by decide) (by decide) ?_
      refine XS.iloadN X172.here hx rfl (hb hby at_182) rfl ?_
      refine XS.iconst X172.here hx rfl (hb hby at_183) ?_
      refine XS.icmpYes X172.here hx rfl (pc0 := 184) (pc' := 196) rfl (hb hby at_184) rfl (flt (by decide : ¬ ((1 : Int32) < (0 : Int32)))).2.2.2 (by decide) (by decide) ?_
      refine XS.iloadN X172.here hx rfl (hb hby at_196) rfl ?_
      refine XS.iconst X172.here hx rfl (hb hby at_197) ?_
      refine XS.icmpYes X172.here hx rfl (pc0 := 198) (pc' := 210) rfl (hb hby at_198) rfl (flt (by decide : ¬ ((2 : Int32) < (0 : Int32)))).2.2.2 (by decide) (by decide) ?_
      refine XS.iloadN X172.here hx rfl (hb hby at_210) rfl ?_
      refine XS.ifYes X172.here hx rfl (pc0 := 211) (pc' := 223) rfl (hb hby at_211) rfl ((if0 _ _).trans (flt (by decide : ¬ ((0 : Int32) < (0 : Int32)))).2.2.2) (by decide) (by decide) ?_
      refine XS.iconst X172.here hx rfl (hb hby at_223) ?_
      refine XS.istore X172.here hx rfl (hb hby at_224) rfl (l' := #[sI p1, sJ q2, sW, sI 0, sI c0, sI c1, sI c2, sI e0_, sI e1_, sI e2_, sI again, sJ v11, sW, sR b76, sR b87, sR b109, sR b142, sI 0, sU, sU, sU, sU, sU, sU]) rfl ?_
      refine XS.iloadN X172.here hx rfl (hb hby at_226) rfl ?_
      refine XS.iconst X172.here hx rfl (hb hby at_227) ?_
      refine XS.icmpYes X172.here hx rfl (pc0 := 228) (pc' := 240) rfl (hb hby at_228) rfl (flt (by decide : ¬ ((1 : Int32) < (0 : Int32)))).2.2.2 (by decide) (by decide) ?_
      refine XS.iconst X172.here hx rfl (hb hby at_240) ?_
      refine XS.istore X172.here hx rfl (hb hby at_241) rfl (l' := #[sI p1, sJ q2, sW, sI 0, sI c0, sI c1, sI c2, sI e0_, sI e1_, sI e2_, sI again, sJ v11, sW, sR b76, sR b87, sR b109, sR b142, sI 0, sI 0, sU, sU, sU, sU, sU]) rfl ?_
      refine XS.iloadN X172.here hx rfl (hb hby at_243) rfl ?_
      refine XS.iconst X172.here hx rfl (hb hby at_244) ?_
      refine XS.icmpYes X172.here hx rfl (pc0 := 245) (pc' := 257) rfl (hb hby at_245) rfl (flt (by decide : ¬ ((2 : Int32) < (0 : Int32)))).2.2.2 (by decide) (by decide) ?_
      show own_S p e below T172 m 257 #[sI p1, sJ q2, sW, sI 0, sI c0, sI c1, sI c2, sI e0_, sI e1_, sI e2_, sI again, sJ v11, sW, sR b76, sR b87, sR b109, sR b142, sI 0, sI 0, sU, sU, sU, sU, sU] [] _
      refine XS.iconst X172.here hx rfl (hb hby at_257) ?_
      refine XS.istore X172.here hx rfl (hb hby at_258) rfl (l' := #[sI p1, sJ q2, sW, sI 0, sI c0, sI c1, sI c2, sI e0_, sI e1_, sI e2_, sI again, sJ v11, sW, sR b76, sR b87, sR b109, sR b142, sI 0, sI 0, sI 0, sU, sU, sU, sU]) rfl ?_
      refine XS.iloadN X172.here hx rfl (hb hby at_260) rfl ?_
      refine XS.ifYes X172.here hx rfl (pc0 := 261) (pc' := 276) rfl (hb hby at_261) rfl ((if0 _ _).trans (flt (by decide : ¬ ((0 : Int32) < (0 : Int32)))).2.2.2) (by decide) (by decide) ?_
      refine XS.iloadN X172.here hx rfl (hb hby at_276) rfl ?_
      refine XS.iconst X172.here hx rfl (hb hby at_277) ?_
      refine XS.icmpYes X172.here hx rfl (pc0 := 278) (pc' := 293) rfl (hb hby at_278) rfl (flt (by decide : ¬ ((1 : Int32) < (0 : Int32)))).2.2.2 (by decide) (by decide) ?_
      refine XS.iloadN X172.here hx rfl (hb hby at_293) rfl ?_
      refine XS.iconst X172.here hx rfl (hb hby at_294) ?_
      refine XS.icmpYes X172.here hx rfl (pc0 := 295) (pc' := 310) rfl (hb hby at_295) rfl (flt (by decide : ¬ ((2 : Int32) < (0 : Int32)))).2.2.2 (by decide) (by decide) ?_
      refine XS.iload X172.here hx rfl (hb hby at_310) rfl ?_
      refine XS.iload X172.here hx rfl (hb hby at_312) rfl ?_
      refine XS.iload X172.here hx rfl (hb hby at_314) rfl ?_
      refine XS.aload X172.here hx rfl (hb hby at_316) rfl rfl ?_
      refine XS.aload X172.here hx rfl (hb hby at_318) rfl rfl ?_
      refine XS.aload X172.here hx rfl (hb hby at_320) rfl rfl ?_
      exact k)
    obtain ⟨_, _, ⟨T192, L192, k192, n192⟩, -, X192, ⟨Lc192, hQ192, l192, y192, z192⟩, st192⟩ := Jvm.LawKit.callS X172 hx (y := own_y12) hown (mvT hZ hw45) (mvT hZ hw46) (mvT hZ hw47) (mvT hZ hw48) (by decide) (backOf (W := 0) (own_rm5d l Z a0 hw [] b76 b87 b109 T172.heap n0 f173 ) hZ hw48 hw47 (by decide) (by decide)) (g := (mkF m 322 #[sI p1, sJ q2, sW, sI 0, sI c0, sI c1, sI c2, sI e0_, sI e1_, sI e2_, sI again, sJ v11, sW, sR b76, sR b87, sR b109, sR b142, sI 0, sI 0, sI 0, sU, sU, sU, sU] [(.ref b109), (.ref b87), (.ref b76), (.int 0), (.int 0), (.int 0)])) rfl (by rw [hml]; rfl) (argsL := [(.int 0), (.int 0), (.int 0), (.ref b76), (.ref b87), (.ref b109)]) (rest := []) (lenOf own_pd_8 rfl) rfl (by show 2 * 0 + _ ≤ _; exact Nat.le_of_eq rfl) (hb hby at_322) (fun _ _ => ⟨rfl, rfl, (by decide : 8 + 0 ≤ _), (by decide : 53 + 0 ≤ _)⟩)
    dsimp only [Pt.U, Pt.locs, Pt.cells, Pt.slots] at X192 l192 y192 z192 st192 hQ192
    subst l192 y192 z192
    obtain ⟨rfl, N192q, eh192⟩ := hQ192
    have N192 := Fr.app N172 N192q
    have pre193 : ∀ t, own_S p e below T192 m 329 #[sI p1, sJ q2, sW, sI 0, sI c0, sI c1, sI c2, sI e0_, sI e1_, sI e2_, sI again, sJ v11, sW, sR b76, sR b87, sR b109, sR b142, sI 0, sI 0, sI 0, sN, sU, sU, sU] [(.ref b142)] t → R0 t := fun t k => pre191 t (by
      refine st192 _ ?_
      refine XS.astore X192.here hx rfl (hb hby at_325) rfl rfl (l' := #[sI p1, sJ q2, sW, sI 0, sI c0, sI c1, sI c2, sI e0_, sI e1_, sI e2_, sI again, sJ v11, sW, sR b76, sR b87, sR b109, sR b142, sI 0, sI 0, sI 0, sN, sU, sU, sU]) rfl ?_
      refine XS.aload X192.here hx rfl (hb hby at_327) rfl rfl ?_
      exact k)
    have hp194 : (0 : Int32) = (0 : Int32) := by decide
    have ex196 := own_QI_exa Q189
    have ex197 := own_QI_exa Q189
    obtain ⟨cq195, kq195, q195a, q195b, q195c⟩ := isOf hZ eh192 ex197
    obtain ⟨_, _, ⟨T195, L195, k195, n195⟩, -, X195, ⟨Lc195, hQ195, l195, y195, z195⟩, st195⟩ := X192.virtualBack hx (y := own_y11) (z := own_y11) hown (mvT hZ hw49) (mvT hZ hw50) (notFace_of_selects (args := #[]) (mvT hZ hw52)) (mvT hZ hw52) (mvT hZ hw51) (by decide) (backOf (W := 0) (own_rm6z l Z a0 hw [] b142 .null .null .null (0 : Int64) (0 : Int64) (0 : Int64) (0 : Int32) (0 : Int32) (0 : Int32) T172.heap n0 f173 Q189 hp194) hZ hw53 hw25 (by decide) (by decide)) q195a q195c (g := (mkF m 329 #[sI p1, sJ q2, sW, sI 0, sI c0, sI c1, sI c2, sI e0_, sI e1_, sI e2_, sI again, sJ v11, sW, sR b76, sR b87, sR b109, sR b142, sI 0, sI 0, sI 0, sN, sU, sU, sU] [(.ref b142)])) rfl (by rw [hml]; rfl) (Steps.refl _) (argsL := []) (rest := []) (lenOf own_pd_9 rfl) rfl (by show 2 * 0 + _ ≤ _; exact Nat.le_of_eq rfl) (hb hby at_329) (fun _ _ => ⟨rfl, eh192, (by decide : 8 + 0 ≤ _), (by decide : 53 + 0 ≤ _)⟩)
    dsimp only [Pt.U, Pt.locs, Pt.cells, Pt.slots] at X195 l195 y195 z195 st195 hQ195
    subst l195 y195 z195
    obtain ⟨rfl, N195q, eh195⟩ := hQ195
    have N195 := Fr.app N192 N195q
    have pre198 : ∀ t, own_S p e below T195 m 379 #[sI p1, sJ q2, sW, sI 0, sI c0, sI c1, sI c2, sI e0_, sI e1_, sI e2_, sI again, sJ v11, sW, sR b76, sR b87, sR b109, sR b142, sI 0, sI 0, sI 0, sN, sN, sI 0, sU] [(.ref b142)] t → R0 t := fun t k => pre193 t (by
      refine st195.trans ?_
      refine XS.astore X195.here hx rfl (hb hby at_332) rfl rfl (l' := #[sI p1, sJ q2, sW, sI 0, sI c0, sI c1, sI c2, sI e0_, sI e1_, sI e2_, sI again, sJ v11, sW, sR b76, sR b87, sR b109, sR b142, sI 0, sI 0, sI 0, sN, sN, sU, sU]) rfl ?_
      refine XS.aload X195.here hx rfl (hb hby at_334) rfl rfl ?_
      refine XS.aload X195.here hx rfl (hb hby at_336) rfl rfl ?_
      refine Jvm.RoadKit.acmp (g := (mkF m 338 #[sI p1, sJ q2, sW, sI 0, sI c0, sI c1, sI c2, sI e0_, sI e1_, sI e2_, sI again, sJ v11, sW, sR b76, sR b87, sR b109, sR b142, sI 0, sI 0, sI 0, sN, sN, sU, sU] [.null, .null])) X195 hx rfl rfl rfl (pc0 := 338) (pc' := 343) (same := true) rfl (hb hby at_338) rfl (decide_eq_true rfl) (by decide) (by decide) ?_
      refine XS.iload X195.here hx rfl (hb hby at_343) rfl ?_
      refine XS.ifYes X195.here hx rfl (pc0 := 345) (pc' := 352) rfl (hb hby at_345) rfl ((if0 _ _).trans (teq (by decide : (0 : Int32) = (0 : Int32))).1) (by decide) (by decide) ?_
      refine XS.iconst X195.here hx rfl (hb hby at_352) ?_
      refine XS.iload X195.here hx rfl (hb hby at_353) rfl ?_
      refine XS.ifYes X195.here hx rfl (pc0 := 355) (pc' := 362) rfl (hb hby at_355) rfl ((if0 _ _).trans (teq (by decide : (0 : Int32) = (0 : Int32))).1) (by decide) (by decide) ?_
      refine XS.iconst X195.here hx rfl (hb hby at_362) ?_
      refine XS.iadd X195.here hx rfl (hb hby at_363) rfl ?_
      refine XS.iload X195.here hx rfl (hb hby at_364) rfl ?_
      refine XS.ifYes X195.here hx rfl (pc0 := 366) (pc' := 373) rfl (hb hby at_366) rfl ((if0 _ _).trans (teq (by decide : (0 : Int32) = (0 : Int32))).1) (by decide) (by decide) ?_
      refine XS.iconst X195.here hx rfl (hb hby at_373) ?_
      refine XS.iadd X195.here hx rfl (hb hby at_374) rfl ?_
      refine XS.istore X195.here hx rfl (hb hby at_375) rfl (l' := #[sI p1, sJ q2, sW, sI 0, sI c0, sI c1, sI c2, sI e0_, sI e1_, sI e2_, sI again, sJ v11, sW, sR b76, sR b87, sR b109, sR b142, sI 0, sI 0, sI 0, sN, sN, sI 0, sU]) rfl ?_
      refine XS.aload X195.here hx rfl (hb hby at_377) rfl rfl ?_
      exact k)
    have ex200 := own_QI_exa Q189
    have ex201 := own_QI_exa Q189
    obtain ⟨cq199, kq199, q199a, q199b, q199c⟩ := isOf hZ eh195 ex201
    obtain ⟨_, _, ⟨T199, L199, k199, n199⟩, -, X199, ⟨Lc199, hQ199, l199, y199, z199⟩, st199⟩ := X195.virtualBack hx (y := own_y4) (z := own_y4) hown (mvT hZ hw56) (mvT hZ hw57) (notFace_of_selects (args := #[]) (mvT hZ hw59)) (mvT hZ hw59) (mvT hZ hw58) (by decide) (backOf (W := 0) (own_rm7 l Z a0 hw [] b142 .null .null .null (0 : Int64) (0 : Int64) (0 : Int64) (0 : Int32) (0 : Int32) (0 : Int32) T172.heap n0 f173 Q189) hZ hw60 hw25 (by decide) (by decide)) q199a q199c (g := (mkF m 379 #[sI p1, sJ q2, sW, sI 0, sI c0, sI c1, sI c2, sI e0_, sI e1_, sI e2_, sI again, sJ v11, sW, sR b76, sR b87, sR b109, sR b142, sI 0, sI 0, sI 0, sN, sN, sI 0, sU] [(.ref b142)])) rfl (by rw [hml]; rfl) (Steps.refl _) (argsL := []) (rest := []) (lenOf own_pd_10 rfl) rfl (by show 2 * 0 + _ ≤ _; exact Nat.le_of_eq rfl) (hb hby at_379) (fun _ _ => ⟨rfl, eh195, (by decide : 8 + 0 ≤ _), (by decide : 53 + 0 ≤ _)⟩)
    dsimp only [Pt.U, Pt.locs, Pt.cells, Pt.slots] at X199 l199 y199 z199 st199 hQ199
    subst l199 y199 z199
    obtain ⟨rfl, N199q, eh199⟩ := hQ199
    have N199 := Fr.app N195 N199q
    have pre202 : ∀ t, own_S p e below T199 m 391 #[sI p1, sJ q2, sW, sI 0, sI c0, sI c1, sI c2, sI e0_, sI e1_, sI e2_, sI again, sJ v11, sW, sR b76, sR b87, sR b109, sR b142, sI 0, sI 0, sI 0, sN, sN, sI 0, sU] [(.int again)] t → R0 t := fun t k => pre198 t (by
      refine st199.trans ?_
      refine XS.iload X199.here hx rfl (hb hby at_382) rfl ?_
      refine XS.icmpYes X199.here hx rfl (pc0 := 384) (pc' := 389) rfl (hb hby at_384) rfl (teq (by decide : (0 : Int32) = (0 : Int32))).1 (by decide) (by decide) ?_
      refine XS.iload X199.here hx rfl (hb hby at_389) rfl ?_
      exact k)
    by_cases hc391 : again = (0 : Int32)
    · have pre203 : ∀ t, own_S p e below T199 m 400 #[sI p1, sJ q2, sW, sI 0, sI c0, sI c1, sI c2, sI e0_, sI e1_, sI e2_, sI again, sJ v11, sW, sR b76, sR b87, sR b109, sR b142, sI 0, sI 0, sI 0, sN, sN, sI 0, sU] [(.int 1)] t → R0 t := fun t k => pre202 t (by
        refine XS.ifYes X199.here hx rfl (pc0 := 391) (pc' := 399) rfl (hb hby at_391) rfl ((if0 _ _).trans (teq hc391).1) (by decide) (by decide) ?_
        refine XS.iconst X199.here hx rfl (hb hby at_399) ?_
        exact k)
      obtain ⟨fs, hr, hrun, hended, hW, hsame⟩ := X199.leave (v := some (.int 1)) (fun h => by rw [Bd.returns] at h; cases h)
      refine ⟨_, _, cast (congrFun hR0 _) (pre203 _ (retN X199 hx (t := .boolean) Bd.returns (by simp) (hb hby at_400) hr)), hrun, hended, _, _, rfl, ?_, ⟨_, rfl⟩, hW, hsame.mono (by decide) (by decide)⟩
      show own_Q0 Z _ _ h0 n0 _ T199.heap _
      rw [eh199]
      exact ⟨rfl, N199⟩
    · have pre204 : ∀ t, own_S p e below T199 m 400 #[sI p1, sJ q2, sW, sI 0, sI c0, sI c1, sI c2, sI e0_, sI e1_, sI e2_, sI again, sJ v11, sW, sR b76, sR b87, sR b109, sR b142, sI 0, sI 0, sI 0, sN, sN, sI 0, sU] [(.int 1)] t → R0 t := fun t k => pre202 t (by
        refine XS.ifNo X199.here hx rfl (hb hby at_391) rfl ((if0 _ _).trans (feq hc391).1) ?_
        refine XS.aload X199.here hx rfl (hb hby at_394) rfl rfl ?_
        refine XS.ifnonnullNo X199.here hx rfl (hb hby at_396) rfl ?_
        refine XS.iconst X199.here hx rfl (hb hby at_399) ?_
        exact k)
      obtain ⟨fs, hr, hrun, hended, hW, hsame⟩ := X199.leave (v := some (.int 1)) (fun h => by rw [Bd.returns] at h; cases h)
      refine ⟨_, _, cast (congrFun hR0 _) (pre204 _ (retN X199 hx (t := .boolean) Bd.returns (by simp) (hb hby at_400) hr)), hrun, hended, _, _, rfl, ?_, ⟨_, rfl⟩, hW, hsame.mono (by decide) (by decide)⟩
      show own_Q0 Z _ _ h0 n0 _ T199.heap _
      rw [eh199]
      exact ⟨rfl, N199⟩
  · have pre205 : ∀ t, own_S p e below T172 m 179 #[sI p1, sJ q2, sW, sI 1, sI c0, sI c1, sI c2, sI e0_, sI e1_, sI e2_, sI again, sJ v11, sW, sR b76, sR b87, sR b109, sR b142, sU, sU, sU, sU, sU, sU, sU] [(.int c0), (.ref b76), (.ref b142)] t → R0 t := fun t k => pre190 t (by
      refine XS.iloadN X172.here hx rfl (hb hby at_169) rfl ?_
      refine XS.ifNo X172.here hx rfl (hb hby at_170) rfl ((if0 _ _).trans (tlt (by decide : (0 : Int32) < (1 : Int32))).2.2.2) ?_
      refine XS.aload X172.here hx rfl (hb hby at_173) rfl rfl ?_
      refine XS.aload X172.here hx rfl (hb hby at_175) rfl rfl ?_
      refine XS.iload X172.here hx rfl (hb hby at_177) rfl ?_
      exact k)
    have hp206 : b76 < b142 := lne143
    have ex208 := own_QI_exa Q189
    have ex209 := own_QI_exa Q189
    obtain ⟨cq207, kq207, q207a, q207b, q207c⟩ := isOf hZ rfl ex209
    obtain ⟨_, _, ⟨T207, L207, k207, n207⟩, -, X207, ⟨Lc207, hQ207, l207, y207, z207⟩, st207⟩ := X172.virtualBack hx (y := own_y6) (z := own_y6) hown (mvT hZ hw61) (mvT hZ hw62) (notFace_of_selects (args := #[]) (mvT hZ hw64)) (mvT hZ hw64) (mvT hZ hw63) (by decide) (backOf (W := 0) (own_rm8t0 l Z a0 hw [] b142 b76 c0 .null .null .null (0 : Int64) (0 : Int64) (0 : Int64) (0 : Int32) (0 : Int32) v11 T172.heap n0 f173 Q189 f174 f178 hp206) hZ hw65 hw25 (by decide) (by decide)) q207a q207c (g := (mkF m 179 #[sI p1, sJ q2, sW, sI 1, sI c0, sI c1, sI c2, sI e0_, sI e1_, sI e2_, sI again, sJ v11, sW, sR b76, sR b87, sR b109, sR b142, sU, sU, sU, sU, sU, sU, sU] [(.int c0), (.ref b76), (.ref b142)])) rfl (by rw [hml]; rfl) (Steps.refl _) (argsL := [(.ref b76), (.int c0)]) (rest := []) (lenOf own_pd_11 rfl) rfl (by show 2 * 0 + _ ≤ _; exact Nat.le_of_eq rfl) (hb hby at_179) (fun _ _ => ⟨rfl, rfl, (by decide : 8 + 0 ≤ _), (by decide : 53 + 0 ≤ _)⟩)
    dsimp only [Pt.U, Pt.locs, Pt.cells, Pt.slots] at X207 l207 y207 z207 st207 hQ207
    subst l207 y207 z207
    obtain ⟨rfl, N207q, Lw207, Qw207⟩ := hQ207
    have f210 := Nat.le_trans f173 Lw207.1
    have f211 := Lw207.exa f174 lne143
    have f212 := Lw207.fld f178 lne143
    have f213 := Lw207.exa f179 lne144
    have f214 := Lw207.fld f183 lne144
    have f215 := Lw207.exa f184 lne145
    have f216 := Lw207.fld f188 lne145
    have Q217 : own_QI Z T207.heap n0 b142 (.ref b76) .null .null v11 (0 : Int64) (0 : Int64) (0 : Int32) (1 : Int32) (1 : Int32) := Qw207
    have N207 := Fr.app N172 N207q
    have pre218 : ∀ t, own_S p e below T207 m 216 #[sI p1, sJ q2, sW, sI 1, sI c0, sI c1, sI c2, sI e0_, sI e1_, sI e2_, sI again, sJ v11, sW, sR b76, sR b87, sR b109, sR b142, sU, sU, sU, sU, sU, sU, sU] [(.int e0_)] t → R0 t := fun t k => pre205 t (by
      refine st207.trans ?_
      refine XS.iloadN X207.here hx rfl (hb hby at_182) rfl ?_
      refine XS.iconst X207.here hx rfl (hb hby at_183) ?_
      refine XS.icmpYes X207.here hx rfl (pc0 := 184) (pc' := 196) rfl (hb hby at_184) rfl (flt (by decide : ¬ ((1 : Int32) < (1 : Int32)))).2.2.2 (by decide) (by decide) ?_
      refine XS.iloadN X207.here hx rfl (hb hby at_196) rfl ?_
      refine XS.iconst X207.here hx rfl (hb hby at_197) ?_
      refine XS.icmpYes X207.here hx rfl (pc0 := 198) (pc' := 210) rfl (hb hby at_198) rfl (flt (by decide : ¬ ((2 : Int32) < (1 : Int32)))).2.2.2 (by decide) (by decide) ?_
      refine XS.iloadN X207.here hx rfl (hb hby at_210) rfl ?_
      refine XS.ifNo X207.here hx rfl (hb hby at_211) rfl ((if0 _ _).trans (tlt (by decide : (0 : Int32) < (1 : Int32))).2.2.2) ?_
      refine XS.iload X207.here hx rfl (hb hby at_214) rfl ?_
      exact k)
    by_cases hc216 : e0_ = (0 : Int32)
    · have pre219 : ∀ t, own_S p e below T207 m 322 #[sI p1, sJ q2, sW, sI 1, sI c0, sI c1, sI c2, sI e0_, sI e1_, sI e2_, sI again, sJ v11, sW, sR b76, sR b87, sR b109, sR b142, sI 1, sI 0, sI 0, sU, sU, sU, sU] [(.ref b109), (.ref b87), (.ref b76), (.int 0), (.int 0), (.int 1)] t → R0 t := fun t k => pre218 t (by
        refine XS.ifNo X207.here hx rfl (hb hby at_216) rfl ((if0 _ _).trans (teq hc216).2) ?_
        refine XS.iconst X207.here hx rfl (hb hby at_219) ?_
        refine XS.goto X207.here hx rfl (pc0 := 220) (pc' := 224) rfl (hb hby at_220) (by decide) (by decide) ?_
        refine XS.istore X207.here hx rfl (hb hby at_224) rfl (l' := #[sI p1, sJ q2, sW, sI 1, sI c0, sI c1, sI c2, sI e0_, sI e1_, sI e2_, sI again, sJ v11, sW, sR b76, sR b87, sR b109, sR b142, sI 1, sU, sU, sU, sU, sU, sU]) rfl ?_
        refine XS.iloadN X207.here hx rfl (hb hby at_226) rfl ?_
        refine XS.iconst X207.here hx rfl (hb hby at_227) ?_
        refine XS.icmpYes X207.here hx rfl (pc0 := 228) (pc' := 240) rfl (hb hby at_228) rfl (flt (by decide : ¬ ((1 : Int32) < (1 : Int32)))).2.2.2 (by decide) (by decide) ?_
        refine XS.iconst X207.here hx rfl (hb hby at_240) ?_
        refine XS.istore X207.here hx rfl (hb hby at_241) rfl (l' := #[sI p1, sJ q2, sW, sI 1, sI c0, sI c1, sI c2, sI e0_, sI e1_, sI e2_, sI again, sJ v11, sW, sR b76, sR b87, sR b109, sR b142, sI 1, sI 0, sU, sU, sU, sU, sU]) rfl ?_
        refine XS.iloadN X207.here hx rfl (hb hby at_243) rfl ?_
        refine XS.iconst X207.here hx rfl (hb hby at_244) ?_
        refine XS.icmpYes X207.here hx rfl (pc0 := 245) (pc' := 257) rfl (hb hby at_245) rfl (flt (by decide : ¬ ((2 : Int32) < (1 : Int32)))).2.2.2 (by decide) (by decide) ?_
        refine XS.iconst X207.here hx rfl (hb hby at_257) ?_
        refine XS.istore X207.here hx rfl (hb hby at_258) rfl (l' := #[sI p1, sJ q2, sW, sI 1, sI c0, sI c1, sI c2, sI e0_, sI e1_, sI e2_, sI again, sJ v11, sW, sR b76, sR b87, sR b109, sR b142, sI 1, sI 0, sI 0, sU, sU, sU, sU]) rfl ?_
        refine XS.iloadN X207.here hx rfl (hb hby at_260) rfl ?_
        refine XS.ifNo X207.here hx rfl (hb hby at_261) rfl ((if0 _ _).trans (tlt (by decide : (0 : Int32) < (1 : Int32))).2.2.2) ?_
        refine XS.iload X207.here hx rfl (hb hby at_264) rfl ?_
        refine XS.ifYes X207.here hx rfl (pc0 := 266) (pc' := 276) rfl (hb hby at_266) rfl ((if0 _ _).trans (teq hc216).1) (by decide) (by decide) ?_
        refine XS.iloadN X207.here hx rfl (hb hby at_276) rfl ?_
        refine XS.iconst X207.here hx rfl (hb hby at_277) ?_
        show own_S p e below T207 m 278 #[sI p1, sJ q2, sW, sI 1, sI c0, sI c1, sI c2, sI e0_, sI e1_, sI e2_, sI again, sJ v11, sW, sR b76, sR b87, sR b109, sR b142, sI 1, sI 0, sI 0, sU, sU, sU, sU] [(.int 1), (.int 1)] _
        refine XS.icmpYes X207.here hx rfl (pc0 := 278) (pc' := 293) rfl (hb hby at_278) rfl (flt (by decide : ¬ ((1 : Int32) < (1 : Int32)))).2.2.2 (by decide) (by decide) ?_
        refine XS.iloadN X207.here hx rfl (hb hby at_293) rfl ?_
        refine XS.iconst X207.here hx rfl (hb hby at_294) ?_
        refine XS.icmpYes X207.here hx rfl (pc0 := 295) (pc' := 310) rfl (hb hby at_295) rfl (flt (by decide : ¬ ((2 : Int32) < (1 : Int32)))).2.2.2 (by decide) (by decide) ?_
        refine XS.iload X207.here hx rfl (hb hby at_310) rfl ?_
        refine XS.iload X207.here hx rfl (hb hby at_312) rfl ?_
        refine XS.iload X207.here hx rfl (hb hby at_314) rfl ?_
        refine XS.aload X207.here hx rfl (hb hby at_316) rfl rfl ?_
        refine XS.aload X207.here hx rfl (hb hby at_318) rfl rfl ?_
        refine XS.aload X207.here hx rfl (hb hby at_320) rfl rfl ?_
        exact k)
      obtain ⟨_, _, ⟨T220, L220, k220, n220⟩, -, X220, ⟨Lc220, hQ220, l220, y220, z220⟩, st220⟩ := Jvm.LawKit.callS X207 hx (y := own_y12) hown (mvT hZ hw45) (mvT hZ hw46) (mvT hZ hw47) (mvT hZ hw48) (by decide) (backOf (W := 0) (own_rm5a l Z a0 hw [] (0 : Int32) (0 : Int32) b76 b87 b109 T207.heap n0 f210 ) hZ hw48 hw47 (by decide) (by decide)) (g := (mkF m 322 #[sI p1, sJ q2, sW, sI 1, sI c0, sI c1, sI c2, sI e0_, sI e1_, sI e2_, sI again, sJ v11, sW, sR b76, sR b87, sR b109, sR b142, sI 1, sI 0, sI 0, sU, sU, sU, sU] [(.ref b109), (.ref b87), (.ref b76), (.int 0), (.int 0), (.int 1)])) rfl (by rw [hml]; rfl) (argsL := [(.int 1), (.int 0), (.int 0), (.ref b76), (.ref b87), (.ref b109)]) (rest := []) (lenOf own_pd_8 rfl) rfl (by show 2 * 0 + _ ≤ _; exact Nat.le_of_eq rfl) (hb hby at_322) (fun _ _ => ⟨rfl, rfl, (by decide : 8 + 0 ≤ _), (by decide : 53 + 0 ≤ _)⟩)
      dsimp only [Pt.U, Pt.locs, Pt.cells, Pt.slots] at X220 l220 y220 z220 st220 hQ220
      subst l220 y220 z220
      obtain ⟨rfl, N220q, eh220⟩ := hQ220
      have N220 := Fr.app N207 N220q
      have pre221 : ∀ t, own_S p e below T220 m 329 #[sI p1, sJ q2, sW, sI 1, sI c0, sI c1, sI c2, sI e0_, sI e1_, sI e2_, sI again, sJ v11, sW, sR b76, sR b87, sR b109, sR b142, sI 1, sI 0, sI 0, sR b76, sU, sU, sU] [(.ref b142)] t → R0 t := fun t k => pre219 t (by
        refine st220 _ ?_
        refine XS.astore X220.here hx rfl (hb hby at_325) rfl rfl (l' := #[sI p1, sJ q2, sW, sI 1, sI c0, sI c1, sI c2, sI e0_, sI e1_, sI e2_, sI again, sJ v11, sW, sR b76, sR b87, sR b109, sR b142, sI 1, sI 0, sI 0, sR b76, sU, sU, sU]) rfl ?_
        refine XS.aload X220.here hx rfl (hb hby at_327) rfl rfl ?_
        exact k)
      have hp222 : ¬ ((1 : Int32) = (0 : Int32)) := by decide
      have ex224 := own_QI_exa Q217
      have ex225 := own_QI_exa Q217
      obtain ⟨cq223, kq223, q223a, q223b, q223c⟩ := isOf hZ eh220 ex225
      obtain ⟨_, _, ⟨T223, L223, k223, n223⟩, -, X223, ⟨Lc223, hQ223, l223, y223, z223⟩, st223⟩ := X220.virtualBack hx (y := own_y11) (z := own_y11) hown (mvT hZ hw49) (mvT hZ hw50) (notFace_of_selects (args := #[]) (mvT hZ hw52)) (mvT hZ hw52) (mvT hZ hw51) (by decide) (backOf (W := 0) (own_rm6h0f0 l Z a0 hw [] b142 b76 .null .null v11 (0 : Int64) (0 : Int64) (1 : Int32) (1 : Int32) T207.heap n0 f210 Q217 hp222) hZ hw53 hw25 (by decide) (by decide)) q223a q223c (g := (mkF m 329 #[sI p1, sJ q2, sW, sI 1, sI c0, sI c1, sI c2, sI e0_, sI e1_, sI e2_, sI again, sJ v11, sW, sR b76, sR b87, sR b109, sR b142, sI 1, sI 0, sI 0, sR b76, sU, sU, sU] [(.ref b142)])) rfl (by rw [hml]; rfl) (Steps.refl _) (argsL := []) (rest := []) (lenOf own_pd_9 rfl) rfl (by show 2 * 0 + _ ≤ _; exact Nat.le_of_eq rfl) (hb hby at_329) (fun _ _ => ⟨rfl, eh220, (by decide : 8 + 0 ≤ _), (by decide : 53 + 0 ≤ _)⟩)
      dsimp only [Pt.U, Pt.locs, Pt.cells, Pt.slots] at X223 l223 y223 z223 st223 hQ223
      subst l223 y223 z223
      obtain ⟨rfl, N223q, Lw223, Qw223⟩ := hQ223
      have f226 := Nat.le_trans f210 Lw223.1
      have f227 := Lw223.exa f211 lne143
      have f228 := Lw223.fld f212 lne143
      have f229 := Lw223.exa f213 lne144
      have f230 := Lw223.fld f214 lne144
      have f231 := Lw223.exa f215 lne145
      have f232 := Lw223.fld f216 lne145
      have Q233 : own_QI Z T223.heap n0 b142 (.ref b76) .null .null v11 (0 : Int64) (0 : Int64) (0 : Int32) (1 : Int32) (1 : Int32) := Qw223
      have N223 := Fr.app N220 N223q
      have pre234 : ∀ t, own_S p e below T223 m 379 #[sI p1, sJ q2, sW, sI 1, sI c0, sI c1, sI c2, sI e0_, sI e1_, sI e2_, sI again, sJ v11, sW, sR b76, sR b87, sR b109, sR b142, sI 1, sI 0, sI 0, sR b76, sR b76, sI 1, sU] [(.ref b142)] t → R0 t := fun t k => pre221 t (by
        refine st223.trans ?_
        refine XS.astore X223.here hx rfl (hb hby at_332) rfl rfl (l' := #[sI p1, sJ q2, sW, sI 1, sI c0, sI c1, sI c2, sI e0_, sI e1_, sI e2_, sI again, sJ v11, sW, sR b76, sR b87, sR b109, sR b142, sI 1, sI 0, sI 0, sR b76, sR b76, sU, sU]) rfl ?_
        refine XS.aload X223.here hx rfl (hb hby at_334) rfl rfl ?_
        refine XS.aload X223.here hx rfl (hb hby at_336) rfl rfl ?_
        refine Jvm.RoadKit.acmp (g := (mkF m 338 #[sI p1, sJ q2, sW, sI 1, sI c0, sI c1, sI c2, sI e0_, sI e1_, sI e2_, sI again, sJ v11, sW, sR b76, sR b87, sR b109, sR b142, sI 1, sI 0, sI 0, sR b76, sR b76, sU, sU] [(.ref b76), (.ref b76)])) X223 hx rfl rfl rfl (pc0 := 338) (pc' := 343) (same := true) rfl (hb hby at_338) rfl (decide_eq_true rfl) (by decide) (by decide) ?_
        refine XS.iload X223.here hx rfl (hb hby at_343) rfl ?_
        refine XS.ifNo X223.here hx rfl (hb hby at_345) rfl ((if0 _ _).trans (feq (by decide : ¬ ((1 : Int32) = (0 : Int32)))).1) ?_
        refine XS.iconst X223.here hx rfl (hb hby at_348) ?_
        refine XS.goto X223.here hx rfl (pc0 := 349) (pc' := 353) rfl (hb hby at_349) (by decide) (by decide) ?_
        refine XS.iload X223.here hx rfl (hb hby at_353) rfl ?_
        refine XS.ifYes X223.here hx rfl (pc0 := 355) (pc' := 362) rfl (hb hby at_355) rfl ((if0 _ _).trans (teq (by decide : (0 : Int32) = (0 : Int32))).1) (by decide) (by decide) ?_
        refine XS.iconst X223.here hx rfl (hb hby at_362) ?_
        refine XS.iadd X223.here hx rfl (hb hby at_363) rfl ?_
        refine XS.iload X223.here hx rfl (hb hby at_364) rfl ?_
        refine XS.ifYes X223.here hx rfl (pc0 := 366) (pc' := 373) rfl (hb hby at_366) rfl ((if0 _ _).trans (teq (by decide : (0 : Int32) = (0 : Int32))).1) (by decide) (by decide) ?_
        refine XS.iconst X223.here hx rfl (hb hby at_373) ?_
        refine XS.iadd X223.here hx rfl (hb hby at_374) rfl ?_
        refine XS.istore X223.here hx rfl (hb hby at_375) rfl (l' := #[sI p1, sJ q2, sW, sI 1, sI c0, sI c1, sI c2, sI e0_, sI e1_, sI e2_, sI again, sJ v11, sW, sR b76, sR b87, sR b109, sR b142, sI 1, sI 0, sI 0, sR b76, sR b76, sI 1, sU]) rfl ?_
        refine XS.aload X223.here hx rfl (hb hby at_377) rfl rfl ?_
        exact k)
      have ex236 := own_QI_exa Q233
      have ex237 := own_QI_exa Q233
      obtain ⟨cq235, kq235, q235a, q235b, q235c⟩ := isOf hZ rfl ex237
      obtain ⟨_, _, ⟨T235, L235, k235, n235⟩, -, X235, ⟨Lc235, hQ235, l235, y235, z235⟩, st235⟩ := X223.virtualBack hx (y := own_y4) (z := own_y4) hown (mvT hZ hw56) (mvT hZ hw57) (notFace_of_selects (args := #[]) (mvT hZ hw59)) (mvT hZ hw59) (mvT hZ hw58) (by decide) (backOf (W := 0) (own_rm7 l Z a0 hw [] b142 (.ref b76) .null .null v11 (0 : Int64) (0 : Int64) (0 : Int32) (1 : Int32) (1 : Int32) T223.heap n0 f226 Q233) hZ hw60 hw25 (by decide) (by decide)) q235a q235c (g := (mkF m 379 #[sI p1, sJ q2, sW, sI 1, sI c0, sI c1, sI c2, sI e0_, sI e1_, sI e2_, sI again, sJ v11, sW, sR b76, sR b87, sR b109, sR b142, sI 1, sI 0, sI 0, sR b76, sR b76, sI 1, sU] [(.ref b142)])) rfl (by rw [hml]; rfl) (Steps.refl _) (argsL := []) (rest := []) (lenOf own_pd_10 rfl) rfl (by show 2 * 0 + _ ≤ _; exact Nat.le_of_eq rfl) (hb hby at_379) (fun _ _ => ⟨rfl, rfl, (by decide : 8 + 0 ≤ _), (by decide : 53 + 0 ≤ _)⟩)
      dsimp only [Pt.U, Pt.locs, Pt.cells, Pt.slots] at X235 l235 y235 z235 st235 hQ235
      subst l235 y235 z235
      obtain ⟨rfl, N235q, eh235⟩ := hQ235
      have N235 := Fr.app N223 N235q
      have pre238 : ∀ t, own_S p e below T235 m 391 #[sI p1, sJ q2, sW, sI 1, sI c0, sI c1, sI c2, sI e0_, sI e1_, sI e2_, sI again, sJ v11, sW, sR b76, sR b87, sR b109, sR b142, sI 1, sI 0, sI 0, sR b76, sR b76, sI 1, sU] [(.int again)] t → R0 t := fun t k => pre234 t (by
        refine st235.trans ?_
        refine XS.iload X235.here hx rfl (hb hby at_382) rfl ?_
        refine XS.icmpYes X235.here hx rfl (pc0 := 384) (pc' := 389) rfl (hb hby at_384) rfl (teq (by decide : (1 : Int32) = (1 : Int32))).1 (by decide) (by decide) ?_
        refine XS.iload X235.here hx rfl (hb hby at_389) rfl ?_
        exact k)
      by_cases hc391 : again = (0 : Int32)
      · have pre239 : ∀ t, own_S p e below T235 m 400 #[sI p1, sJ q2, sW, sI 1, sI c0, sI c1, sI c2, sI e0_, sI e1_, sI e2_, sI again, sJ v11, sW, sR b76, sR b87, sR b109, sR b142, sI 1, sI 0, sI 0, sR b76, sR b76, sI 1, sU] [(.int 1)] t → R0 t := fun t k => pre238 t (by
          refine XS.ifYes X235.here hx rfl (pc0 := 391) (pc' := 399) rfl (hb hby at_391) rfl ((if0 _ _).trans (teq hc391).1) (by decide) (by decide) ?_
          refine XS.iconst X235.here hx rfl (hb hby at_399) ?_
          exact k)
        obtain ⟨fs, hr, hrun, hended, hW, hsame⟩ := X235.leave (v := some (.int 1)) (fun h => by rw [Bd.returns] at h; cases h)
        refine ⟨_, _, cast (congrFun hR0 _) (pre239 _ (retN X235 hx (t := .boolean) Bd.returns (by simp) (hb hby at_400) hr)), hrun, hended, _, _, rfl, ?_, ⟨_, rfl⟩, hW, hsame.mono (by decide) (by decide)⟩
        show own_Q0 Z _ _ h0 n0 _ T235.heap _
        rw [eh235]
        exact ⟨rfl, N235⟩
      · have pre240 : ∀ t, own_S p e below T235 m 405 #[sI p1, sJ q2, sW, sI 1, sI c0, sI c1, sI c2, sI e0_, sI e1_, sI e2_, sI again, sJ v11, sW, sR b76, sR b87, sR b109, sR b142, sI 1, sI 0, sI 0, sR b76, sR b76, sI 1, sU] [(.ref b76), (.ref b142)] t → R0 t := fun t k => pre238 t (by
          refine XS.ifNo X235.here hx rfl (hb hby at_391) rfl ((if0 _ _).trans (feq hc391).1) ?_
          refine XS.aload X235.here hx rfl (hb hby at_394) rfl rfl ?_
          refine XS.ifnonnullYes X235.here hx rfl (pc0 := 396) (pc' := 401) rfl (hb hby at_396) rfl (by decide) (by decide) ?_
          refine XS.aload X235.here hx rfl (hb hby at_401) rfl rfl ?_
          refine XS.aload X235.here hx rfl (hb hby at_403) rfl rfl ?_
          exact k)
        have hp241 : ((0 : Int32) = (0 : Int32) ∧ (1 : Int32) = (1 : Int32)) ∨ ((0 : Int32) = (0 : Int32) ∧ (1 : Int32) = (2 : Int32)) ∨ ((0 : Int32) = (0 : Int32) ∧ (1 : Int32) = (3 : Int32)) := by decide
        have hp242 : ((1 : Int32) < (1 : Int32) → v11 < (0 : Int64)) ∧ ((2 : Int32) < (1 : Int32) → (0 : Int64) < (0 : Int64)) := ⟨fun q => absurd q (by decide), fun q => absurd q (by decide)⟩
        have hp243 : b76 < b142 := lne143
        have ex245 := own_QI_exa Q233
        have ex246 := own_QI_exa Q233
        obtain ⟨cq244, kq244, q244a, q244b, q244c⟩ := isOf hZ eh235 ex246
        obtain ⟨_, _, ⟨T244, L244, k244, n244⟩, -, X244, ⟨Lc244, hQ244, l244, y244, z244⟩, st244⟩ := X235.virtualBack hx (y := own_y10) (z := own_y10) hown (mvT hZ hw82) (mvT hZ hw83) (notFace_of_selects (args := #[]) (mvT hZ hw85)) (mvT hZ hw85) (mvT hZ hw84) (by decide) (backOf (W := 0) (own_rm11j0 l Z a0 hw [] b142 b76 .null .null v11 (0 : Int64) (0 : Int64) (0 : Int32) (1 : Int32) (1 : Int32) T223.heap n0 f226 Q233 f227 f228 hp241 hp242 hp243) hZ hw86 hw25 (by decide) (by decide)) q244a q244c (g := (mkF m 405 #[sI p1, sJ q2, sW, sI 1, sI c0, sI c1, sI c2, sI e0_, sI e1_, sI e2_, sI again, sJ v11, sW, sR b76, sR b87, sR b109, sR b142, sI 1, sI 0, sI 0, sR b76, sR b76, sI 1, sU] [(.ref b76), (.ref b142)])) rfl (by rw [hml]; rfl) (Steps.refl _) (argsL := [(.ref b76)]) (rest := []) (lenOf own_pd_12 rfl) rfl (by show 2 * 0 + _ ≤ _; exact Nat.le_of_eq rfl) (hb hby at_405) (fun _ _ => ⟨rfl, eh235, (by decide : 8 + 0 ≤ _), (by decide : 53 + 0 ≤ _)⟩)
        dsimp only [Pt.U, Pt.locs, Pt.cells, Pt.slots] at X244 l244 y244 z244 st244 hQ244
        subst l244 y244 z244
        obtain ⟨rfl, N244q, Lw244, Qw244⟩ := hQ244
        have f247 := Nat.le_trans f226 Lw244.1
        have f248 := Lw244.exa f227 lne143
        have f249 := Lw244.fld f228 lne143
        have f250 := Lw244.exa f229 lne144
        have f251 := Lw244.fld f230 lne144
        have f252 := Lw244.exa f231 lne145
        have f253 := Lw244.fld f232 lne145
        have Q254 : own_QI Z T244.heap n0 b142 .null .null .null v11 (0 : Int64) (0 : Int64) (0 : Int32) (1 : Int32) (0 : Int32) := Qw244
        have N244 := Fr.app N235 N244q
        have pre255 : ∀ t, own_S p e below T244 m 449 #[sI p1, sJ q2, sW, sI 1, sI c0, sI c1, sI c2, sI e0_, sI e1_, sI e2_, sI again, sJ v11, sW, sR b76, sR b87, sR b109, sR b142, sI 0, sI 0, sI 0, sR b76, sR b76, sI 1, sU] [(.ref b109), (.ref b87), (.ref b76), (.int 0), (.int 0), (.int 0)] t → R0 t := fun t k => pre240 t (by
          refine st244.trans ?_
          refine XS.aload X244.here hx rfl (hb hby at_408) rfl rfl ?_
          refine XS.aload X244.here hx rfl (hb hby at_410) rfl rfl ?_
          refine Jvm.RoadKit.acmp (g := (mkF m 412 #[sI p1, sJ q2, sW, sI 1, sI c0, sI c1, sI c2, sI e0_, sI e1_, sI e2_, sI again, sJ v11, sW, sR b76, sR b87, sR b109, sR b142, sI 1, sI 0, sI 0, sR b76, sR b76, sI 1, sU] [(.ref b76), (.ref b76)])) X244 hx rfl rfl rfl (pc0 := 412) (pc' := 415) (same := true) rfl (hb hby at_412) rfl (decide_eq_true rfl) (by decide) (by decide) ?_
          refine XS.iconst X244.here hx rfl (hb hby at_415) ?_
          refine XS.istore X244.here hx rfl (hb hby at_416) rfl (l' := #[sI p1, sJ q2, sW, sI 1, sI c0, sI c1, sI c2, sI e0_, sI e1_, sI e2_, sI again, sJ v11, sW, sR b76, sR b87, sR b109, sR b142, sI 0, sI 0, sI 0, sR b76, sR b76, sI 1, sU]) rfl ?_
          refine XS.goto X244.here hx rfl (pc0 := 418) (pc' := 437) rfl (hb hby at_418) (by decide) (by decide) ?_
          refine XS.iload X244.here hx rfl (hb hby at_437) rfl ?_
          refine XS.iload X244.here hx rfl (hb hby at_439) rfl ?_
          refine XS.iload X244.here hx rfl (hb hby at_441) rfl ?_
          refine XS.aload X244.here hx rfl (hb hby at_443) rfl rfl ?_
          refine XS.aload X244.here hx rfl (hb hby at_445) rfl rfl ?_
          refine XS.aload X244.here hx rfl (hb hby at_447) rfl rfl ?_
          exact k)
        obtain ⟨_, _, ⟨T256, L256, k256, n256⟩, -, X256, ⟨Lc256, hQ256, l256, y256, z256⟩, st256⟩ := Jvm.LawKit.callS X244 hx (y := own_y12) hown (mvT hZ hw45) (mvT hZ hw46) (mvT hZ hw47) (mvT hZ hw48) (by decide) (backOf (W := 0) (own_rm5d l Z a0 hw [] b76 b87 b109 T244.heap n0 f247 ) hZ hw48 hw47 (by decide) (by decide)) (g := (mkF m 449 #[sI p1, sJ q2, sW, sI 1, sI c0, sI c1, sI c2, sI e0_, sI e1_, sI e2_, sI again, sJ v11, sW, sR b76, sR b87, sR b109, sR b142, sI 0, sI 0, sI 0, sR b76, sR b76, sI 1, sU] [(.ref b109), (.ref b87), (.ref b76), (.int 0), (.int 0), (.int 0)])) rfl (by rw [hml]; rfl) (argsL := [(.int 0), (.int 0), (.int 0), (.ref b76), (.ref b87), (.ref b109)]) (rest := []) (lenOf own_pd_8 rfl) rfl (by show 2 * 0 + _ ≤ _; exact Nat.le_of_eq rfl) (hb hby at_449) (fun _ _ => ⟨rfl, rfl, (by decide : 8 + 0 ≤ _), (by decide : 53 + 0 ≤ _)⟩)
        dsimp only [Pt.U, Pt.locs, Pt.cells, Pt.slots] at X256 l256 y256 z256 st256 hQ256
        subst l256 y256 z256
        obtain ⟨rfl, N256q, eh256⟩ := hQ256
        have N256 := Fr.app N244 N256q
        have pre257 : ∀ t, own_S p e below T256 m 456 #[sI p1, sJ q2, sW, sI 1, sI c0, sI c1, sI c2, sI e0_, sI e1_, sI e2_, sI again, sJ v11, sW, sR b76, sR b87, sR b109, sR b142, sI 0, sI 0, sI 0, sR b76, sR b76, sI 1, sN] [(.ref b142)] t → R0 t := fun t k => pre255 t (by
          refine st256 _ ?_
          refine XS.astore X256.here hx rfl (hb hby at_452) rfl rfl (l' := #[sI p1, sJ q2, sW, sI 1, sI c0, sI c1, sI c2, sI e0_, sI e1_, sI e2_, sI again, sJ v11, sW, sR b76, sR b87, sR b109, sR b142, sI 0, sI 0, sI 0, sR b76, sR b76, sI 1, sN]) rfl ?_
          refine XS.aload X256.here hx rfl (hb hby at_454) rfl rfl ?_
          exact k)
        have hp258 : (0 : Int32) = (0 : Int32) := by decide
        have ex260 := own_QI_exa Q254
        have ex261 := own_QI_exa Q254
        obtain ⟨cq259, kq259, q259a, q259b, q259c⟩ := isOf hZ eh256 ex261
        obtain ⟨_, _, ⟨T259, L259, k259, n259⟩, -, X259, ⟨Lc259, hQ259, l259, y259, z259⟩, st259⟩ := X256.virtualBack hx (y := own_y11) (z := own_y11) hown (mvT hZ hw49) (mvT hZ hw50) (notFace_of_selects (args := #[]) (mvT hZ hw52)) (mvT hZ hw52) (mvT hZ hw51) (by decide) (backOf (W := 0) (own_rm6z l Z a0 hw [] b142 .null .null .null v11 (0 : Int64) (0 : Int64) (0 : Int32) (1 : Int32) (0 : Int32) T244.heap n0 f247 Q254 hp258) hZ hw53 hw25 (by decide) (by decide)) q259a q259c (g := (mkF m 456 #[sI p1, sJ q2, sW, sI 1, sI c0, sI c1, sI c2, sI e0_, sI e1_, sI e2_, sI again, sJ v11, sW, sR b76, sR b87, sR b109, sR b142, sI 0, sI 0, sI 0, sR b76, sR b76, sI 1, sN] [(.ref b142)])) rfl (by rw [hml]; rfl) (Steps.refl _) (argsL := []) (rest := []) (lenOf own_pd_9 rfl) rfl (by show 2 * 0 + _ ≤ _; exact Nat.le_of_eq rfl) (hb hby at_456) (fun _ _ => ⟨rfl, eh256, (by decide : 8 + 0 ≤ _), (by decide : 53 + 0 ≤ _)⟩)
        dsimp only [Pt.U, Pt.locs, Pt.cells, Pt.slots] at X259 l259 y259 z259 st259 hQ259
        subst l259 y259 z259
        obtain ⟨rfl, N259q, eh259⟩ := hQ259
        have N259 := Fr.app N256 N259q
        have pre262 : ∀ t, own_S p e below T259 m 469 #[sI p1, sJ q2, sW, sI 1, sI c0, sI c1, sI c2, sI e0_, sI e1_, sI e2_, sI again, sJ v11, sW, sR b76, sR b87, sR b109, sR b142, sI 0, sI 0, sI 0, sR b76, sR b76, sI 1, sN] [(.int 1)] t → R0 t := fun t k => pre257 t (by
          refine st259.trans ?_
          refine XS.aload X259.here hx rfl (hb hby at_459) rfl rfl ?_
          refine Jvm.RoadKit.acmp (g := (mkF m 461 #[sI p1, sJ q2, sW, sI 1, sI c0, sI c1, sI c2, sI e0_, sI e1_, sI e2_, sI again, sJ v11, sW, sR b76, sR b87, sR b109, sR b142, sI 0, sI 0, sI 0, sR b76, sR b76, sI 1, sN] [.null, .null])) X259 hx rfl rfl rfl (pc0 := 461) (pc' := 464) (same := true) rfl (hb hby at_461) rfl (decide_eq_true rfl) (by decide) (by decide) ?_
          refine XS.iconst X259.here hx rfl (hb hby at_464) ?_
          refine XS.goto X259.here hx rfl (pc0 := 465) (pc' := 469) rfl (hb hby at_465) (by decide) (by decide) ?_
          exact k)
        obtain ⟨fs, hr, hrun, hended, hW, hsame⟩ := X259.leave (v := some (.int 1)) (fun h => by rw [Bd.returns] at h; cases h)
        refine ⟨_, _, cast (congrFun hR0 _) (pre262 _ (retN X259 hx (t := .boolean) Bd.returns (by simp) (hb hby at_469) hr)), hrun, hended, _, _, rfl, ?_, ⟨_, rfl⟩, hW, hsame.mono (by decide) (by decide)⟩
        show own_Q0 Z _ _ h0 n0 _ T259.heap _
        rw [eh259]
        exact ⟨rfl, N259⟩
    · have pre263 : ∀ t, own_S p e below T207 m 273 #[sI p1, sJ q2, sW, sI 1, sI c0, sI c1, sI c2, sI e0_, sI e1_, sI e2_, sI again, sJ v11, sW, sR b76, sR b87, sR b109, sR b142, sI 0, sI 0, sI 0, sU, sU, sU, sU] [(.ref b76), (.ref b142)] t → R0 t := fun t k => pre218 t (by
        refine XS.ifYes X207.here hx rfl (pc0 := 216) (pc' := 223) rfl (hb hby at_216) rfl ((if0 _ _).trans (feq hc216).2) (by decide) (by decide) ?_
        refine XS.iconst X207.here hx rfl (hb hby at_223) ?_
        refine XS.istore X207.here hx rfl (hb hby at_224) rfl (l' := #[sI p1, sJ q2, sW, sI 1, sI c0, sI c1, sI c2, sI e0_, sI e1_, sI e2_, sI again, sJ v11, sW, sR b76, sR b87, sR b109, sR b142, sI 0, sU, sU, sU, sU, sU, sU]) rfl ?_
        refine XS.iloadN X207.here hx rfl (hb hby at_226) rfl ?_
        refine XS.iconst X207.here hx rfl (hb hby at_227) ?_
        refine XS.icmpYes X207.here hx rfl (pc0 := 228) (pc' := 240) rfl (hb hby at_228) rfl (flt (by decide : ¬ ((1 : Int32) < (1 : Int32)))).2.2.2 (by decide) (by decide) ?_
        refine XS.iconst X207.here hx rfl (hb hby at_240) ?_
        refine XS.istore X207.here hx rfl (hb hby at_241) rfl (l' := #[sI p1, sJ q2, sW, sI 1, sI c0, sI c1, sI c2, sI e0_, sI e1_, sI e2_, sI again, sJ v11, sW, sR b76, sR b87, sR b109, sR b142, sI 0, sI 0, sU, sU, sU, sU, sU]) rfl ?_
        refine XS.iloadN X207.here hx rfl (hb hby at_243) rfl ?_
        refine XS.iconst X207.here hx rfl (hb hby at_244) ?_
        refine XS.icmpYes X207.here hx rfl (pc0 := 245) (pc' := 257) rfl (hb hby at_245) rfl (flt (by decide : ¬ ((2 : Int32) < (1 : Int32)))).2.2.2 (by decide) (by decide) ?_
        refine XS.iconst X207.here hx rfl (hb hby at_257) ?_
        refine XS.istore X207.here hx rfl (hb hby at_258) rfl (l' := #[sI p1, sJ q2, sW, sI 1, sI c0, sI c1, sI c2, sI e0_, sI e1_, sI e2_, sI again, sJ v11, sW, sR b76, sR b87, sR b109, sR b142, sI 0, sI 0, sI 0, sU, sU, sU, sU]) rfl ?_
        refine XS.iloadN X207.here hx rfl (hb hby at_260) rfl ?_
        refine XS.ifNo X207.here hx rfl (hb hby at_261) rfl ((if0 _ _).trans (tlt (by decide : (0 : Int32) < (1 : Int32))).2.2.2) ?_
        refine XS.iload X207.here hx rfl (hb hby at_264) rfl ?_
        refine XS.ifNo X207.here hx rfl (hb hby at_266) rfl ((if0 _ _).trans (feq hc216).1) ?_
        refine XS.aload X207.here hx rfl (hb hby at_269) rfl rfl ?_
        refine XS.aload X207.here hx rfl (hb hby at_271) rfl rfl ?_
        exact k)
      have hp264 : ((0 : Int32) = (0 : Int32) ∧ (1 : Int32) = (1 : Int32)) ∨ ((0 : Int32) = (0 : Int32) ∧ (1 : Int32) = (2 : Int32)) ∨ ((0 : Int32) = (0 : Int32) ∧ (1 : Int32) = (3 : Int32)) := by decide
      have hp265 : ((1 : Int32) < (1 : Int32) → v11 < (0 : Int64)) ∧ ((2 : Int32) < (1 : Int32) → (0 : Int64) < (0 : Int64)) := ⟨fun q => absurd q (by decide), fun q => absurd q (by decide)⟩
      have hp266 : b76 < b142 := lne143
      have ex268 := own_QI_exa Q217
      have ex269 := own_QI_exa Q217
      obtain ⟨cq267, kq267, q267a, q267b, q267c⟩ := isOf hZ rfl ex269
      obtain ⟨_, _, ⟨T267, L267, k267, n267⟩, -, X267, ⟨Lc267, hQ267, l267, y267, z267⟩, st267⟩ := X207.virtualBack hx (y := own_y10) (z := own_y10) hown (mvT hZ hw82) (mvT hZ hw83) (notFace_of_selects (args := #[]) (mvT hZ hw85)) (mvT hZ hw85) (mvT hZ hw84) (by decide) (backOf (W := 0) (own_rm11j0 l Z a0 hw [] b142 b76 .null .null v11 (0 : Int64) (0 : Int64) (0 : Int32) (1 : Int32) (1 : Int32) T207.heap n0 f210 Q217 f211 f212 hp264 hp265 hp266) hZ hw86 hw25 (by decide) (by decide)) q267a q267c (g := (mkF m 273 #[sI p1, sJ q2, sW, sI 1, sI c0, sI c1, sI c2, sI e0_, sI e1_, sI e2_, sI again, sJ v11, sW, sR b76, sR b87, sR b109, sR b142, sI 0, sI 0, sI 0, sU, sU, sU, sU] [(.ref b76), (.ref b142)])) rfl (by rw [hml]; rfl) (Steps.refl _) (argsL := [(.ref b76)]) (rest := []) (lenOf own_pd_12 rfl) rfl (by show 2 * 0 + _ ≤ _; exact Nat.le_of_eq rfl) (hb hby at_273) (fun _ _ => ⟨rfl, rfl, (by decide : 8 + 0 ≤ _), (by decide : 53 + 0 ≤ _)⟩)
      dsimp only [Pt.U, Pt.locs, Pt.cells, Pt.slots] at X267 l267 y267 z267 st267 hQ267
      subst l267 y267 z267
      obtain ⟨rfl, N267q, Lw267, Qw267⟩ := hQ267
      have f270 := Nat.le_trans f210 Lw267.1
      have f271 := Lw267.exa f211 lne143
      have f272 := Lw267.fld f212 lne143
      have f273 := Lw267.exa f213 lne144
      have f274 := Lw267.fld f214 lne144
      have f275 := Lw267.exa f215 lne145
      have f276 := Lw267.fld f216 lne145
      have Q277 : own_QI Z T267.heap n0 b142 .null .null .null v11 (0 : Int64) (0 : Int64) (0 : Int32) (1 : Int32) (0 : Int32) := Qw267
      have N267 := Fr.app N207 N267q
      have pre278 : ∀ t, own_S p e below T267 m 322 #[sI p1, sJ q2, sW, sI 1, sI c0, sI c1, sI c2, sI e0_, sI e1_, sI e2_, sI again, sJ v11, sW, sR b76, sR b87, sR b109, sR b142, sI 0, sI 0, sI 0, sU, sU, sU, sU] [(.ref b109), (.ref b87), (.ref b76), (.int 0), (.int 0), (.int 0)] t → R0 t := fun t k => pre263 t (by
        refine st267.trans ?_
        refine XS.iloadN X267.here hx rfl (hb hby at_276) rfl ?_
        refine XS.iconst X267.here hx rfl (hb hby at_277) ?_
        refine XS.icmpYes X267.here hx rfl (pc0 := 278) (pc' := 293) rfl (hb hby at_278) rfl (flt (by decide : ¬ ((1 : Int32) < (1 : Int32)))).2.2.2 (by decide) (by decide) ?_
        refine XS.iloadN X267.here hx rfl (hb hby at_293) rfl ?_
        refine XS.iconst X267.here hx rfl (hb hby at_294) ?_
        refine XS.icmpYes X267.here hx rfl (pc0 := 295) (pc' := 310) rfl (hb hby at_295) rfl (flt (by decide : ¬ ((2 : Int32) < (1 : Int32)))).2.2.2 (by decide) (by decide) ?_
        refine XS.iload X267.here hx rfl (hb hby at_310) rfl ?_
        refine XS.iload X267.here hx rfl (hb hby at_312) rfl ?_
        refine XS.iload X267.here hx rfl (hb hby at_314) rfl ?_
        refine XS.aload X267.here hx rfl (hb hby at_316) rfl rfl ?_
        refine XS.aload X267.here hx rfl (hb hby at_318) rfl rfl ?_
        refine XS.aload X267.here hx rfl (hb hby at_320) rfl rfl ?_
        exact k)
      obtain ⟨_, _, ⟨T279, L279, k279, n279⟩, -, X279, ⟨Lc279, hQ279, l279, y279, z279⟩, st279⟩ := Jvm.LawKit.callS X267 hx (y := own_y12) hown (mvT hZ hw45) (mvT hZ hw46) (mvT hZ hw47) (mvT hZ hw48) (by decide) (backOf (W := 0) (own_rm5d l Z a0 hw [] b76 b87 b109 T267.heap n0 f270 ) hZ hw48 hw47 (by decide) (by decide)) (g := (mkF m 322 #[sI p1, sJ q2, sW, sI 1, sI c0, sI c1, sI c2, sI e0_, sI e1_, sI e2_, sI again, sJ v11, sW, sR b76, sR b87, sR b109, sR b142, sI 0, sI 0, sI 0, sU, sU, sU, sU] [(.ref b109), (.ref b87), (.ref b76), (.int 0), (.int 0), (.int 0)])) rfl (by rw [hml]; rfl) (argsL := [(.int 0), (.int 0), (.int 0), (.ref b76), (.ref b87), (.ref b109)]) (rest := []) (lenOf own_pd_8 rfl) rfl (by show 2 * 0 + _ ≤ _; exact Nat.le_of_eq rfl) (hb hby at_322) (fun _ _ => ⟨rfl, rfl, (by decide : 8 + 0 ≤ _), (by decide : 53 + 0 ≤ _)⟩)
      dsimp only [Pt.U, Pt.locs, Pt.cells, Pt.slots] at X279 l279 y279 z279 st279 hQ279
      subst l279 y279 z279
      obtain ⟨rfl, N279q, eh279⟩ := hQ279
      have N279 := Fr.app N267 N279q
      have pre280 : ∀ t, own_S p e below T279 m 329 #[sI p1, sJ q2, sW, sI 1, sI c0, sI c1, sI c2, sI e0_, sI e1_, sI e2_, sI again, sJ v11, sW, sR b76, sR b87, sR b109, sR b142, sI 0, sI 0, sI 0, sN, sU, sU, sU] [(.ref b142)] t → R0 t := fun t k => pre278 t (by
        refine st279 _ ?_
        refine XS.astore X279.here hx rfl (hb hby at_325) rfl rfl (l' := #[sI p1, sJ q2, sW, sI 1, sI c0, sI c1, sI c2, sI e0_, sI e1_, sI e2_, sI again, sJ v11, sW, sR b76, sR b87, sR b109, sR b142, sI 0, sI 0, sI 0, sN, sU, sU, sU]) rfl ?_
        refine XS.aload X279.here hx rfl (hb hby at_327) rfl rfl ?_
        exact k)
      have hp281 : (0 : Int32) = (0 : Int32) := by decide
      have ex283 := own_QI_exa Q277
      have ex284 := own_QI_exa Q277
      obtain ⟨cq282, kq282, q282a, q282b, q282c⟩ := isOf hZ eh279 ex284
      obtain ⟨_, _, ⟨T282, L282, k282, n282⟩, -, X282, ⟨Lc282, hQ282, l282, y282, z282⟩, st282⟩ := X279.virtualBack hx (y := own_y11) (z := own_y11) hown (mvT hZ hw49) (mvT hZ hw50) (notFace_of_selects (args := #[]) (mvT hZ hw52)) (mvT hZ hw52) (mvT hZ hw51) (by decide) (backOf (W := 0) (own_rm6z l Z a0 hw [] b142 .null .null .null v11 (0 : Int64) (0 : Int64) (0 : Int32) (1 : Int32) (0 : Int32) T267.heap n0 f270 Q277 hp281) hZ hw53 hw25 (by decide) (by decide)) q282a q282c (g := (mkF m 329 #[sI p1, sJ q2, sW, sI 1, sI c0, sI c1, sI c2, sI e0_, sI e1_, sI e2_, sI again, sJ v11, sW, sR b76, sR b87, sR b109, sR b142, sI 0, sI 0, sI 0, sN, sU, sU, sU] [(.ref b142)])) rfl (by rw [hml]; rfl) (Steps.refl _) (argsL := []) (rest := []) (lenOf own_pd_9 rfl) rfl (by show 2 * 0 + _ ≤ _; exact Nat.le_of_eq rfl) (hb hby at_329) (fun _ _ => ⟨rfl, eh279, (by decide : 8 + 0 ≤ _), (by decide : 53 + 0 ≤ _)⟩)
      dsimp only [Pt.U, Pt.locs, Pt.cells, Pt.slots] at X282 l282 y282 z282 st282 hQ282
      subst l282 y282 z282
      obtain ⟨rfl, N282q, eh282⟩ := hQ282
      have N282 := Fr.app N279 N282q
      have pre285 : ∀ t, own_S p e below T282 m 379 #[sI p1, sJ q2, sW, sI 1, sI c0, sI c1, sI c2, sI e0_, sI e1_, sI e2_, sI again, sJ v11, sW, sR b76, sR b87, sR b109, sR b142, sI 0, sI 0, sI 0, sN, sN, sI 0, sU] [(.ref b142)] t → R0 t := fun t k => pre280 t (by
        refine st282.trans ?_
        refine XS.astore X282.here hx rfl (hb hby at_332) rfl rfl (l' := #[sI p1, sJ q2, sW, sI 1, sI c0, sI c1, sI c2, sI e0_, sI e1_, sI e2_, sI again, sJ v11, sW, sR b76, sR b87, sR b109, sR b142, sI 0, sI 0, sI 0, sN, sN, sU, sU]) rfl ?_
        refine XS.aload X282.here hx rfl (hb hby at_334) rfl rfl ?_
        refine XS.aload X282.here hx rfl (hb hby at_336) rfl rfl ?_
        refine Jvm.RoadKit.acmp (g := (mkF m 338 #[sI p1, sJ q2, sW, sI 1, sI c0, sI c1, sI c2, sI e0_, sI e1_, sI e2_, sI again, sJ v11, sW, sR b76, sR b87, sR b109, sR b142, sI 0, sI 0, sI 0, sN, sN, sU, sU] [.null, .null])) X282 hx rfl rfl rfl (pc0 := 338) (pc' := 343) (same := true) rfl (hb hby at_338) rfl (decide_eq_true rfl) (by decide) (by decide) ?_
        refine XS.iload X282.here hx rfl (hb hby at_343) rfl ?_
        refine XS.ifYes X282.here hx rfl (pc0 := 345) (pc' := 352) rfl (hb hby at_345) rfl ((if0 _ _).trans (teq (by decide : (0 : Int32) = (0 : Int32))).1) (by decide) (by decide) ?_
        refine XS.iconst X282.here hx rfl (hb hby at_352) ?_
        refine XS.iload X282.here hx rfl (hb hby at_353) rfl ?_
        refine XS.ifYes X282.here hx rfl (pc0 := 355) (pc' := 362) rfl (hb hby at_355) rfl ((if0 _ _).trans (teq (by decide : (0 : Int32) = (0 : Int32))).1) (by decide) (by decide) ?_
        refine XS.iconst X282.here hx rfl (hb hby at_362) ?_
        refine XS.iadd X282.here hx rfl (hb hby at_363) rfl ?_
        refine XS.iload X282.here hx rfl (hb hby at_364) rfl ?_
        refine XS.ifYes X282.here hx rfl (pc0 := 366) (pc' := 373) rfl (hb hby at_366) rfl ((if0 _ _).trans (teq (by decide : (0 : Int32) = (0 : Int32))).1) (by decide) (by decide) ?_
        refine XS.iconst X282.here hx rfl (hb hby at_373) ?_
        refine XS.iadd X282.here hx rfl (hb hby at_374) rfl ?_
        refine XS.istore X282.here hx rfl (hb hby at_375) rfl (l' := #[sI p1, sJ q2, sW, sI 1, sI c0, sI c1, sI c2, sI e0_, sI e1_, sI e2_, sI again, sJ v11, sW, sR b76, sR b87, sR b109, sR b142, sI 0, sI 0, sI 0, sN, sN, sI 0, sU]) rfl ?_
        refine XS.aload X282.here hx rfl (hb hby at_377) rfl rfl ?_
        exact k)
      have ex287 := own_QI_exa Q277
      have ex288 := own_QI_exa Q277
      obtain ⟨cq286, kq286, q286a, q286b, q286c⟩ := isOf hZ eh282 ex288
      obtain ⟨_, _, ⟨T286, L286, k286, n286⟩, -, X286, ⟨Lc286, hQ286, l286, y286, z286⟩, st286⟩ := X282.virtualBack hx (y := own_y4) (z := own_y4) hown (mvT hZ hw56) (mvT hZ hw57) (notFace_of_selects (args := #[]) (mvT hZ hw59)) (mvT hZ hw59) (mvT hZ hw58) (by decide) (backOf (W := 0) (own_rm7 l Z a0 hw [] b142 .null .null .null v11 (0 : Int64) (0 : Int64) (0 : Int32) (1 : Int32) (0 : Int32) T267.heap n0 f270 Q277) hZ hw60 hw25 (by decide) (by decide)) q286a q286c (g := (mkF m 379 #[sI p1, sJ q2, sW, sI 1, sI c0, sI c1, sI c2, sI e0_, sI e1_, sI e2_, sI again, sJ v11, sW, sR b76, sR b87, sR b109, sR b142, sI 0, sI 0, sI 0, sN, sN, sI 0, sU] [(.ref b142)])) rfl (by rw [hml]; rfl) (Steps.refl _) (argsL := []) (rest := []) (lenOf own_pd_10 rfl) rfl (by show 2 * 0 + _ ≤ _; exact Nat.le_of_eq rfl) (hb hby at_379) (fun _ _ => ⟨rfl, eh282, (by decide : 8 + 0 ≤ _), (by decide : 53 + 0 ≤ _)⟩)
      dsimp only [Pt.U, Pt.locs, Pt.cells, Pt.slots] at X286 l286 y286 z286 st286 hQ286
      subst l286 y286 z286
      obtain ⟨rfl, N286q, eh286⟩ := hQ286
      have N286 := Fr.app N282 N286q
      have pre289 : ∀ t, own_S p e below T286 m 391 #[sI p1, sJ q2, sW, sI 1, sI c0, sI c1, sI c2, sI e0_, sI e1_, sI e2_, sI again, sJ v11, sW, sR b76, sR b87, sR b109, sR b142, sI 0, sI 0, sI 0, sN, sN, sI 0, sU] [(.int again)] t → R0 t := fun t k => pre285 t (by
        refine st286.trans ?_
        refine XS.iload X286.here hx rfl (hb hby at_382) rfl ?_
        refine XS.icmpYes X286.here hx rfl (pc0 := 384) (pc' := 389) rfl (hb hby at_384) rfl (teq (by decide : (0 : Int32) = (0 : Int32))).1 (by decide) (by decide) ?_
        refine XS.iload X286.here hx rfl (hb hby at_389) rfl ?_
        exact k)
      by_cases hc391 : again = (0 : Int32)
      · have pre290 : ∀ t, own_S p e below T286 m 400 #[sI p1, sJ q2, sW, sI 1, sI c0, sI c1, sI c2, sI e0_, sI e1_, sI e2_, sI again, sJ v11, sW, sR b76, sR b87, sR b109, sR b142, sI 0, sI 0, sI 0, sN, sN, sI 0, sU] [(.int 1)] t → R0 t := fun t k => pre289 t (by
          refine XS.ifYes X286.here hx rfl (pc0 := 391) (pc' := 399) rfl (hb hby at_391) rfl ((if0 _ _).trans (teq hc391).1) (by decide) (by decide) ?_
          refine XS.iconst X286.here hx rfl (hb hby at_399) ?_
          exact k)
        obtain ⟨fs, hr, hrun, hended, hW, hsame⟩ := X286.leave (v := some (.int 1)) (fun h => by rw [Bd.returns] at h; cases h)
        refine ⟨_, _, cast (congrFun hR0 _) (pre290 _ (retN X286 hx (t := .boolean) Bd.returns (by simp) (hb hby at_400) hr)), hrun, hended, _, _, rfl, ?_, ⟨_, rfl⟩, hW, hsame.mono (by decide) (by decide)⟩
        show own_Q0 Z _ _ h0 n0 _ T286.heap _
        rw [eh286]
        exact ⟨rfl, N286⟩
      · have pre291 : ∀ t, own_S p e below T286 m 400 #[sI p1, sJ q2, sW, sI 1, sI c0, sI c1, sI c2, sI e0_, sI e1_, sI e2_, sI again, sJ v11, sW, sR b76, sR b87, sR b109, sR b142, sI 0, sI 0, sI 0, sN, sN, sI 0, sU] [(.int 1)] t → R0 t := fun t k => pre289 t (by
          refine XS.ifNo X286.here hx rfl (hb hby at_391) rfl ((if0 _ _).trans (feq hc391).1) ?_
          refine XS.aload X286.here hx rfl (hb hby at_394) rfl rfl ?_
          refine XS.ifnonnullNo X286.here hx rfl (hb hby at_396) rfl ?_
          refine XS.iconst X286.here hx rfl (hb hby at_399) ?_
          exact k)
        obtain ⟨fs, hr, hrun, hended, hW, hsame⟩ := X286.leave (v := some (.int 1)) (fun h => by rw [Bd.returns] at h; cases h)
        refine ⟨_, _, cast (congrFun hR0 _) (pre291 _ (retN X286 hx (t := .boolean) Bd.returns (by simp) (hb hby at_400) hr)), hrun, hended, _, _, rfl, ?_, ⟨_, rfl⟩, hW, hsame.mono (by decide) (by decide)⟩
        show own_Q0 Z _ _ h0 n0 _ T286.heap _
        rw [eh286]
        exact ⟨rfl, N286⟩
  · have pre292 : ∀ t, own_S p e below T172 m 179 #[sI p1, sJ q2, sW, sI 2, sI c0, sI c1, sI c2, sI e0_, sI e1_, sI e2_, sI again, sJ v11, sW, sR b76, sR b87, sR b109, sR b142, sU, sU, sU, sU, sU, sU, sU] [(.int c0), (.ref b76), (.ref b142)] t → R0 t := fun t k => pre190 t (by
      refine XS.iloadN X172.here hx rfl (hb hby at_169) rfl ?_
      refine XS.ifNo X172.here hx rfl (hb hby at_170) rfl ((if0 _ _).trans (tlt (by decide : (0 : Int32) < (2 : Int32))).2.2.2) ?_
      refine XS.aload X172.here hx rfl (hb hby at_173) rfl rfl ?_
      refine XS.aload X172.here hx rfl (hb hby at_175) rfl rfl ?_
      refine XS.iload X172.here hx rfl (hb hby at_177) rfl ?_
      exact k)
    have hp293 : b76 < b142 := lne143
    have ex295 := own_QI_exa Q189
    have ex296 := own_QI_exa Q189
    obtain ⟨cq294, kq294, q294a, q294b, q294c⟩ := isOf hZ rfl ex296
    obtain ⟨_, _, ⟨T294, L294, k294, n294⟩, -, X294, ⟨Lc294, hQ294, l294, y294, z294⟩, st294⟩ := X172.virtualBack hx (y := own_y6) (z := own_y6) hown (mvT hZ hw61) (mvT hZ hw62) (notFace_of_selects (args := #[]) (mvT hZ hw64)) (mvT hZ hw64) (mvT hZ hw63) (by decide) (backOf (W := 0) (own_rm8t0 l Z a0 hw [] b142 b76 c0 .null .null .null (0 : Int64) (0 : Int64) (0 : Int64) (0 : Int32) (0 : Int32) v11 T172.heap n0 f173 Q189 f174 f178 hp293) hZ hw65 hw25 (by decide) (by decide)) q294a q294c (g := (mkF m 179 #[sI p1, sJ q2, sW, sI 2, sI c0, sI c1, sI c2, sI e0_, sI e1_, sI e2_, sI again, sJ v11, sW, sR b76, sR b87, sR b109, sR b142, sU, sU, sU, sU, sU, sU, sU] [(.int c0), (.ref b76), (.ref b142)])) rfl (by rw [hml]; rfl) (Steps.refl _) (argsL := [(.ref b76), (.int c0)]) (rest := []) (lenOf own_pd_11 rfl) rfl (by show 2 * 0 + _ ≤ _; exact Nat.le_of_eq rfl) (hb hby at_179) (fun _ _ => ⟨rfl, rfl, (by decide : 8 + 0 ≤ _), (by decide : 53 + 0 ≤ _)⟩)
    dsimp only [Pt.U, Pt.locs, Pt.cells, Pt.slots] at X294 l294 y294 z294 st294 hQ294
    subst l294 y294 z294
    obtain ⟨rfl, N294q, Lw294, Qw294⟩ := hQ294
    have f297 := Nat.le_trans f173 Lw294.1
    have f298 := Lw294.exa f174 lne143
    have f299 := Lw294.fld f178 lne143
    have f300 := Lw294.exa f179 lne144
    have f301 := Lw294.fld f183 lne144
    have f302 := Lw294.exa f184 lne145
    have f303 := Lw294.fld f188 lne145
    have Q304 : own_QI Z T294.heap n0 b142 (.ref b76) .null .null v11 (0 : Int64) (0 : Int64) (0 : Int32) (1 : Int32) (1 : Int32) := Qw294
    have N294 := Fr.app N172 N294q
    have pre305 : ∀ t, own_S p e below T294 m 193 #[sI p1, sJ q2, sW, sI 2, sI c0, sI c1, sI c2, sI e0_, sI e1_, sI e2_, sI again, sJ v11, sW, sR b76, sR b87, sR b109, sR b142, sU, sU, sU, sU, sU, sU, sU] [(.int c1), (.ref b87), (.ref b142)] t → R0 t := fun t k => pre292 t (by
      refine st294.trans ?_
      refine XS.iloadN X294.here hx rfl (hb hby at_182) rfl ?_
      refine XS.iconst X294.here hx rfl (hb hby at_183) ?_
      refine XS.icmpNo X294.here hx rfl (hb hby at_184) rfl (tlt (by decide : (1 : Int32) < (2 : Int32))).2.2.2 ?_
      refine XS.aload X294.here hx rfl (hb hby at_187) rfl rfl ?_
      refine XS.aload X294.here hx rfl (hb hby at_189) rfl rfl ?_
      refine XS.iload X294.here hx rfl (hb hby at_191) rfl ?_
      exact k)
    have hp306 : b87 < b142 := lne144
    have ex308 := own_QI_exa Q304
    have ex309 := own_QI_exa Q304
    obtain ⟨cq307, kq307, q307a, q307b, q307c⟩ := isOf hZ rfl ex309
    obtain ⟨_, _, ⟨T307, L307, k307, n307⟩, -, X307, ⟨Lc307, hQ307, l307, y307, z307⟩, st307⟩ := X294.virtualBack hx (y := own_y6) (z := own_y6) hown (mvT hZ hw61) (mvT hZ hw62) (notFace_of_selects (args := #[]) (mvT hZ hw64)) (mvT hZ hw64) (mvT hZ hw63) (by decide) (backOf (W := 0) (own_rm8t1 l Z a0 hw [] b142 b87 c1 (.ref b76) .null .null v11 (0 : Int64) (0 : Int64) (0 : Int32) (1 : Int32) (v11 + (1 : Int64)) T294.heap n0 f297 Q304 f300 f301 hp306) hZ hw65 hw25 (by decide) (by decide)) q307a q307c (g := (mkF m 193 #[sI p1, sJ q2, sW, sI 2, sI c0, sI c1, sI c2, sI e0_, sI e1_, sI e2_, sI again, sJ v11, sW, sR b76, sR b87, sR b109, sR b142, sU, sU, sU, sU, sU, sU, sU] [(.int c1), (.ref b87), (.ref b142)])) rfl (by rw [hml]; rfl) (Steps.refl _) (argsL := [(.ref b87), (.int c1)]) (rest := []) (lenOf own_pd_11 rfl) rfl (by show 2 * 0 + _ ≤ _; exact Nat.le_of_eq rfl) (hb hby at_193) (fun _ _ => ⟨rfl, rfl, (by decide : 8 + 0 ≤ _), (by decide : 53 + 0 ≤ _)⟩)
    dsimp only [Pt.U, Pt.locs, Pt.cells, Pt.slots] at X307 l307 y307 z307 st307 hQ307
    subst l307 y307 z307
    obtain ⟨rfl, N307q, Lw307, Qw307⟩ := hQ307
    have f310 := Nat.le_trans f297 Lw307.1
    have f311 := Lw307.exa f298 lne143
    have f312 := Lw307.fld f299 lne143
    have f313 := Lw307.exa f300 lne144
    have f314 := Lw307.fld f301 lne144
    have f315 := Lw307.exa f302 lne145
    have f316 := Lw307.fld f303 lne145
    have Q317 : own_QI Z T307.heap n0 b142 (.ref b76) (.ref b87) .null v11 (v11 + (1 : Int64)) (0 : Int64) (0 : Int32) (2 : Int32) (2 : Int32) := Qw307
    have N307 := Fr.app N294 N307q
    have pre318 : ∀ t, own_S p e below T307 m 216 #[sI p1, sJ q2, sW, sI 2, sI c0, sI c1, sI c2, sI e0_, sI e1_, sI e2_, sI again, sJ v11, sW, sR b76, sR b87, sR b109, sR b142, sU, sU, sU, sU, sU, sU, sU] [(.int e0_)] t → R0 t := fun t k => pre305 t (by
      refine st307.trans ?_
      refine XS.iloadN X307.here hx rfl (hb hby at_196) rfl ?_
      refine XS.iconst X307.here hx rfl (hb hby at_197) ?_
      refine XS.icmpYes X307.here hx rfl (pc0 := 198) (pc' := 210) rfl (hb hby at_198) rfl (flt (by decide : ¬ ((2 : Int32) < (2 : Int32)))).2.2.2 (by decide) (by decide) ?_
      refine XS.iloadN X307.here hx rfl (hb hby at_210) rfl ?_
      refine XS.ifNo X307.here hx rfl (hb hby at_211) rfl ((if0 _ _).trans (tlt (by decide : (0 : Int32) < (2 : Int32))).2.2.2) ?_
      refine XS.iload X307.here hx rfl (hb hby at_214) rfl ?_
      exact k)
    by_cases hc216 : e0_ = (0 : Int32)
    · have pre319 : ∀ t, own_S p e below T307 m 233 #[sI p1, sJ q2, sW, sI 2, sI c0, sI c1, sI c2, sI e0_, sI e1_, sI e2_, sI again, sJ v11, sW, sR b76, sR b87, sR b109, sR b142, sI 1, sU, sU, sU, sU, sU, sU] [(.int e1_)] t → R0 t := fun t k => pre318 t (by
        refine XS.ifNo X307.here hx rfl (hb hby at_216) rfl ((if0 _ _).trans (teq hc216).2) ?_
        refine XS.iconst X307.here hx rfl (hb hby at_219) ?_
        refine XS.goto X307.here hx rfl (pc0 := 220) (pc' := 224) rfl (hb hby at_220) (by decide) (by decide) ?_
        refine XS.istore X307.here hx rfl (hb hby at_224) rfl (l' := #[sI p1, sJ q2, sW, sI 2, sI c0, sI c1, sI c2, sI e0_, sI e1_, sI e2_, sI again, sJ v11, sW, sR b76, sR b87, sR b109, sR b142, sI 1, sU, sU, sU, sU, sU, sU]) rfl ?_
        refine XS.iloadN X307.here hx rfl (hb hby at_226) rfl ?_
        refine XS.iconst X307.here hx rfl (hb hby at_227) ?_
        refine XS.icmpNo X307.here hx rfl (hb hby at_228) rfl (tlt (by decide : (1 : Int32) < (2 : Int32))).2.2.2 ?_
        refine XS.iload X307.here hx rfl (hb hby at_231) rfl ?_
        exact k)
      by_cases hc233 : e1_ = (0 : Int32)
      · have pre320 : ∀ t, own_S p e below T307 m 322 #[sI p1, sJ q2, sW, sI 2, sI c0, sI c1, sI c2, sI e0_, sI e1_, sI e2_, sI again, sJ v11, sW, sR b76, sR b87, sR b109, sR b142, sI 1, sI 1, sI 0, sU, sU, sU, sU] [(.ref b109), (.ref b87), (.ref b76), (.int 0), (.int 1), (.int 1)] t → R0 t := fun t k => pre319 t (by
          refine XS.ifNo X307.here hx rfl (hb hby at_233) rfl ((if0 _ _).trans (teq hc233).2) ?_
          refine XS.iconst X307.here hx rfl (hb hby at_236) ?_
          refine XS.goto X307.here hx rfl (pc0 := 237) (pc' := 241) rfl (hb hby at_237) (by decide) (by decide) ?_
          refine XS.istore X307.here hx rfl (hb hby at_241) rfl (l' := #[sI p1, sJ q2, sW, sI 2, sI c0, sI c1, sI c2, sI e0_, sI e1_, sI e2_, sI again, sJ v11, sW, sR b76, sR b87, sR b109, sR b142, sI 1, sI 1, sU, sU, sU, sU, sU]) rfl ?_
          refine XS.iloadN X307.here hx rfl (hb hby at_243) rfl ?_
          refine XS.iconst X307.here hx rfl (hb hby at_244) ?_
          refine XS.icmpYes X307.here hx rfl (pc0 := 245) (pc' := 257) rfl (hb hby at_245) rfl (flt (by decide : ¬ ((2 : Int32) < (2 : Int32)))).2.2.2 (by decide) (by decide) ?_
          refine XS.iconst X307.here hx rfl (hb hby at_257) ?_
          refine XS.istore X307.here hx rfl (hb hby at_258) rfl (l' := #[sI p1, sJ q2, sW, sI 2, sI c0, sI c1, sI c2, sI e0_, sI e1_, sI e2_, sI again, sJ v11, sW, sR b76, sR b87, sR b109, sR b142, sI 1, sI 1, sI 0, sU, sU, sU, sU]) rfl ?_
          refine XS.iloadN X307.here hx rfl (hb hby at_260) rfl ?_
          refine XS.ifNo X307.here hx rfl (hb hby at_261) rfl ((if0 _ _).trans (tlt (by decide : (0 : Int32) < (2 : Int32))).2.2.2) ?_
          refine XS.iload X307.here hx rfl (hb hby at_264) rfl ?_
          refine XS.ifYes X307.here hx rfl (pc0 := 266) (pc' := 276) rfl (hb hby at_266) rfl ((if0 _ _).trans (teq hc216).1) (by decide) (by decide) ?_
          refine XS.iloadN X307.here hx rfl (hb hby at_276) rfl ?_
          refine XS.iconst X307.here hx rfl (hb hby at_277) ?_
          refine XS.icmpNo X307.here hx rfl (hb hby at_278) rfl (tlt (by decide : (1 : Int32) < (2 : Int32))).2.2.2 ?_
          refine XS.iload X307.here hx rfl (hb hby at_281) rfl ?_
          refine XS.ifYes X307.here hx rfl (pc0 := 283) (pc' := 293) rfl (hb hby at_283) rfl ((if0 _ _).trans (teq hc233).1) (by decide) (by decide) ?_
          refine XS.iloadN X307.here hx rfl (hb hby at_293) rfl ?_
          refine XS.iconst X307.here hx rfl (hb hby at_294) ?_
          show own_S p e below T307 m 295 #[sI p1, sJ q2, sW, sI 2, sI c0, sI c1, sI c2, sI e0_, sI e1_, sI e2_, sI again, sJ v11, sW, sR b76, sR b87, sR b109, sR b142, sI 1, sI 1, sI 0, sU, sU, sU, sU] [(.int 2), (.int 2)] _
          refine XS.icmpYes X307.here hx rfl (pc0 := 295) (pc' := 310) rfl (hb hby at_295) rfl (flt (by decide : ¬ ((2 : Int32) < (2 : Int32)))).2.2.2 (by decide) (by decide) ?_
          refine XS.iload X307.here hx rfl (hb hby at_310) rfl ?_
          refine XS.iload X307.here hx rfl (hb hby at_312) rfl ?_
          refine XS.iload X307.here hx rfl (hb hby at_314) rfl ?_
          refine XS.aload X307.here hx rfl (hb hby at_316) rfl rfl ?_
          refine XS.aload X307.here hx rfl (hb hby at_318) rfl rfl ?_
          refine XS.aload X307.here hx rfl (hb hby at_320) rfl rfl ?_
          exact k)
        obtain ⟨_, _, ⟨T321, L321, k321, n321⟩, -, X321, ⟨Lc321, hQ321, l321, y321, z321⟩, st321⟩ := Jvm.LawKit.callS X307 hx (y := own_y12) hown (mvT hZ hw45) (mvT hZ hw46) (mvT hZ hw47) (mvT hZ hw48) (by decide) (backOf (W := 0) (own_rm5a l Z a0 hw [] (1 : Int32) (0 : Int32) b76 b87 b109 T307.heap n0 f310 ) hZ hw48 hw47 (by decide) (by decide)) (g := (mkF m 322 #[sI p1, sJ q2, sW, sI 2, sI c0, sI c1, sI c2, sI e0_, sI e1_, sI e2_, sI again, sJ v11, sW, sR b76, sR b87, sR b109, sR b142, sI 1, sI 1, sI 0, sU, sU, sU, sU] [(.ref b109), (.ref b87), (.ref b76), (.int 0), (.int 1), (.int 1)])) rfl (by rw [hml]; rfl) (argsL := [(.int 1), (.int 1), (.int 0), (.ref b76), (.ref b87), (.ref b109)]) (rest := []) (lenOf own_pd_8 rfl) rfl (by show 2 * 0 + _ ≤ _; exact Nat.le_of_eq rfl) (hb hby at_322) (fun _ _ => ⟨rfl, rfl, (by decide : 8 + 0 ≤ _), (by decide : 53 + 0 ≤ _)⟩)
        dsimp only [Pt.U, Pt.locs, Pt.cells, Pt.slots] at X321 l321 y321 z321 st321 hQ321
        subst l321 y321 z321
        obtain ⟨rfl, N321q, eh321⟩ := hQ321
        have N321 := Fr.app N307 N321q
        have pre322 : ∀ t, own_S p e below T321 m 329 #[sI p1, sJ q2, sW, sI 2, sI c0, sI c1, sI c2, sI e0_, sI e1_, sI e2_, sI again, sJ v11, sW, sR b76, sR b87, sR b109, sR b142, sI 1, sI 1, sI 0, sR b76, sU, sU, sU] [(.ref b142)] t → R0 t := fun t k => pre320 t (by
          refine st321 _ ?_
          refine XS.astore X321.here hx rfl (hb hby at_325) rfl rfl (l' := #[sI p1, sJ q2, sW, sI 2, sI c0, sI c1, sI c2, sI e0_, sI e1_, sI e2_, sI again, sJ v11, sW, sR b76, sR b87, sR b109, sR b142, sI 1, sI 1, sI 0, sR b76, sU, sU, sU]) rfl ?_
          refine XS.aload X321.here hx rfl (hb hby at_327) rfl rfl ?_
          exact k)
        have hp323 : ¬ ((2 : Int32) = (0 : Int32)) := by decide
        have ex325 := own_QI_exa Q317
        have ex326 := own_QI_exa Q317
        obtain ⟨cq324, kq324, q324a, q324b, q324c⟩ := isOf hZ eh321 ex326
        obtain ⟨_, _, ⟨T324, L324, k324, n324⟩, -, X324, ⟨Lc324, hQ324, l324, y324, z324⟩, st324⟩ := X321.virtualBack hx (y := own_y11) (z := own_y11) hown (mvT hZ hw49) (mvT hZ hw50) (notFace_of_selects (args := #[]) (mvT hZ hw52)) (mvT hZ hw52) (mvT hZ hw51) (by decide) (backOf (W := 0) (own_rm6h0f0 l Z a0 hw [] b142 b76 (.ref b87) .null v11 (v11 + (1 : Int64)) (0 : Int64) (2 : Int32) (2 : Int32) T307.heap n0 f310 Q317 hp323) hZ hw53 hw25 (by decide) (by decide)) q324a q324c (g := (mkF m 329 #[sI p1, sJ q2, sW, sI 2, sI c0, sI c1, sI c2, sI e0_, sI e1_, sI e2_, sI again, sJ v11, sW, sR b76, sR b87, sR b109, sR b142, sI 1, sI 1, sI 0, sR b76, sU, sU, sU] [(.ref b142)])) rfl (by rw [hml]; rfl) (Steps.refl _) (argsL := []) (rest := []) (lenOf own_pd_9 rfl) rfl (by show 2 * 0 + _ ≤ _; exact Nat.le_of_eq rfl) (hb hby at_329) (fun _ _ => ⟨rfl, eh321, (by decide : 8 + 0 ≤ _), (by decide : 53 + 0 ≤ _)⟩)
        dsimp only [Pt.U, Pt.locs, Pt.cells, Pt.slots] at X324 l324 y324 z324 st324 hQ324
        subst l324 y324 z324
        obtain ⟨rfl, N324q, Lw324, Qw324⟩ := hQ324
        have f327 := Nat.le_trans f310 Lw324.1
        have f328 := Lw324.exa f311 lne143
        have f329 := Lw324.fld f312 lne143
        have f330 := Lw324.exa f313 lne144
        have f331 := Lw324.fld f314 lne144
        have f332 := Lw324.exa f315 lne145
        have f333 := Lw324.fld f316 lne145
        have Q334 : own_QI Z T324.heap n0 b142 (.ref b76) (.ref b87) .null v11 (v11 + (1 : Int64)) (0 : Int64) (0 : Int32) (2 : Int32) (2 : Int32) := Qw324
        have N324 := Fr.app N321 N324q
        have pre335 : ∀ t, own_S p e below T324 m 379 #[sI p1, sJ q2, sW, sI 2, sI c0, sI c1, sI c2, sI e0_, sI e1_, sI e2_, sI again, sJ v11, sW, sR b76, sR b87, sR b109, sR b142, sI 1, sI 1, sI 0, sR b76, sR b76, sI 2, sU] [(.ref b142)] t → R0 t := fun t k => pre322 t (by
          refine st324.trans ?_
          refine XS.astore X324.here hx rfl (hb hby at_332) rfl rfl (l' := #[sI p1, sJ q2, sW, sI 2, sI c0, sI c1, sI c2, sI e0_, sI e1_, sI e2_, sI again, sJ v11, sW, sR b76, sR b87, sR b109, sR b142, sI 1, sI 1, sI 0, sR b76, sR b76, sU, sU]) rfl ?_
          refine XS.aload X324.here hx rfl (hb hby at_334) rfl rfl ?_
          refine XS.aload X324.here hx rfl (hb hby at_336) rfl rfl ?_
          refine Jvm.RoadKit.acmp (g := (mkF m 338 #[sI p1, sJ q2, sW, sI 2, sI c0, sI c1, sI c2, sI e0_, sI e1_, sI e2_, sI again, sJ v11, sW, sR b76, sR b87, sR b109, sR b142, sI 1, sI 1, sI 0, sR b76, sR b76, sU, sU] [(.ref b76), (.ref b76)])) X324 hx rfl rfl rfl (pc0 := 338) (pc' := 343) (same := true) rfl (hb hby at_338) rfl (decide_eq_true rfl) (by decide) (by decide) ?_
          refine XS.iload X324.here hx rfl (hb hby at_343) rfl ?_
          refine XS.ifNo X324.here hx rfl (hb hby at_345) rfl ((if0 _ _).trans (feq (by decide : ¬ ((1 : Int32) = (0 : Int32)))).1) ?_
          refine XS.iconst X324.here hx rfl (hb hby at_348) ?_
          refine XS.goto X324.here hx rfl (pc0 := 349) (pc' := 353) rfl (hb hby at_349) (by decide) (by decide) ?_
          refine XS.iload X324.here hx rfl (hb hby at_353) rfl ?_
          refine XS.ifNo X324.here hx rfl (hb hby at_355) rfl ((if0 _ _).trans (feq (by decide : ¬ ((1 : Int32) = (0 : Int32)))).1) ?_
          refine XS.iconst X324.here hx rfl (hb hby at_358) ?_
          refine XS.goto X324.here hx rfl (pc0 := 359) (pc' := 363) rfl (hb hby at_359) (by decide) (by decide) ?_
          refine XS.iadd X324.here hx rfl (hb hby at_363) rfl ?_
          refine XS.iload X324.here hx rfl (hb hby at_364) rfl ?_
          refine XS.ifYes X324.here hx rfl (pc0 := 366) (pc' := 373) rfl (hb hby at_366) rfl ((if0 _ _).trans (teq (by decide : (0 : Int32) = (0 : Int32))).1) (by decide) (by decide) ?_
          refine XS.iconst X324.here hx rfl (hb hby at_373) ?_
          refine XS.iadd X324.here hx rfl (hb hby at_374) rfl ?_
          refine XS.istore X324.here hx rfl (hb hby at_375) rfl (l' := #[sI p1, sJ q2, sW, sI 2, sI c0, sI c1, sI c2, sI e0_, sI e1_, sI e2_, sI again, sJ v11, sW, sR b76, sR b87, sR b109, sR b142, sI 1, sI 1, sI 0, sR b76, sR b76, sI 2, sU]) rfl ?_
          refine XS.aload X324.here hx rfl (hb hby at_377) rfl rfl ?_
          exact k)
        have ex337 := own_QI_exa Q334
        have ex338 := own_QI_exa Q334
        obtain ⟨cq336, kq336, q336a, q336b, q336c⟩ := isOf hZ rfl ex338
        obtain ⟨_, _, ⟨T336, L336, k336, n336⟩, -, X336, ⟨Lc336, hQ336, l336, y336, z336⟩, st336⟩ := X324.virtualBack hx (y := own_y4) (z := own_y4) hown (mvT hZ hw56) (mvT hZ hw57) (notFace_of_selects (args := #[]) (mvT hZ hw59)) (mvT hZ hw59) (mvT hZ hw58) (by decide) (backOf (W := 0) (own_rm7 l Z a0 hw [] b142 (.ref b76) (.ref b87) .null v11 (v11 + (1 : Int64)) (0 : Int64) (0 : Int32) (2 : Int32) (2 : Int32) T324.heap n0 f327 Q334) hZ hw60 hw25 (by decide) (by decide)) q336a q336c (g := (mkF m 379 #[sI p1, sJ q2, sW, sI 2, sI c0, sI c1, sI c2, sI e0_, sI e1_, sI e2_, sI again, sJ v11, sW, sR b76, sR b87, sR b109, sR b142, sI 1, sI 1, sI 0, sR b76, sR b76, sI 2, sU] [(.ref b142)])) rfl (by rw [hml]; rfl) (Steps.refl _) (argsL := []) (rest := []) (lenOf own_pd_10 rfl) rfl (by show 2 * 0 + _ ≤ _; exact Nat.le_of_eq rfl) (hb hby at_379) (fun _ _ => ⟨rfl, rfl, (by decide : 8 + 0 ≤ _), (by decide : 53 + 0 ≤ _)⟩)
        dsimp only [Pt.U, Pt.locs, Pt.cells, Pt.slots] at X336 l336 y336 z336 st336 hQ336
        subst l336 y336 z336
        obtain ⟨rfl, N336q, eh336⟩ := hQ336
        have N336 := Fr.app N324 N336q
        have pre339 : ∀ t, own_S p e below T336 m 391 #[sI p1, sJ q2, sW, sI 2, sI c0, sI c1, sI c2, sI e0_, sI e1_, sI e2_, sI again, sJ v11, sW, sR b76, sR b87, sR b109, sR b142, sI 1, sI 1, sI 0, sR b76, sR b76, sI 2, sU] [(.int again)] t → R0 t := fun t k => pre335 t (by
          refine st336.trans ?_
          refine XS.iload X336.here hx rfl (hb hby at_382) rfl ?_
          refine XS.icmpYes X336.here hx rfl (pc0 := 384) (pc' := 389) rfl (hb hby at_384) rfl (teq (by decide : (2 : Int32) = (2 : Int32))).1 (by decide) (by decide) ?_
          refine XS.iload X336.here hx rfl (hb hby at_389) rfl ?_
          exact k)
        by_cases hc391 : again = (0 : Int32)
        · have pre340 : ∀ t, own_S p e below T336 m 400 #[sI p1, sJ q2, sW, sI 2, sI c0, sI c1, sI c2, sI e0_, sI e1_, sI e2_, sI again, sJ v11, sW, sR b76, sR b87, sR b109, sR b142, sI 1, sI 1, sI 0, sR b76, sR b76, sI 2, sU] [(.int 1)] t → R0 t := fun t k => pre339 t (by
            refine XS.ifYes X336.here hx rfl (pc0 := 391) (pc' := 399) rfl (hb hby at_391) rfl ((if0 _ _).trans (teq hc391).1) (by decide) (by decide) ?_
            refine XS.iconst X336.here hx rfl (hb hby at_399) ?_
            exact k)
          obtain ⟨fs, hr, hrun, hended, hW, hsame⟩ := X336.leave (v := some (.int 1)) (fun h => by rw [Bd.returns] at h; cases h)
          refine ⟨_, _, cast (congrFun hR0 _) (pre340 _ (retN X336 hx (t := .boolean) Bd.returns (by simp) (hb hby at_400) hr)), hrun, hended, _, _, rfl, ?_, ⟨_, rfl⟩, hW, hsame.mono (by decide) (by decide)⟩
          show own_Q0 Z _ _ h0 n0 _ T336.heap _
          rw [eh336]
          exact ⟨rfl, N336⟩
        · have pre341 : ∀ t, own_S p e below T336 m 405 #[sI p1, sJ q2, sW, sI 2, sI c0, sI c1, sI c2, sI e0_, sI e1_, sI e2_, sI again, sJ v11, sW, sR b76, sR b87, sR b109, sR b142, sI 1, sI 1, sI 0, sR b76, sR b76, sI 2, sU] [(.ref b76), (.ref b142)] t → R0 t := fun t k => pre339 t (by
            refine XS.ifNo X336.here hx rfl (hb hby at_391) rfl ((if0 _ _).trans (feq hc391).1) ?_
            refine XS.aload X336.here hx rfl (hb hby at_394) rfl rfl ?_
            refine XS.ifnonnullYes X336.here hx rfl (pc0 := 396) (pc' := 401) rfl (hb hby at_396) rfl (by decide) (by decide) ?_
            refine XS.aload X336.here hx rfl (hb hby at_401) rfl rfl ?_
            refine XS.aload X336.here hx rfl (hb hby at_403) rfl rfl ?_
            exact k)
          have hp342 : ((0 : Int32) = (0 : Int32) ∧ (2 : Int32) = (1 : Int32)) ∨ ((0 : Int32) = (0 : Int32) ∧ (2 : Int32) = (2 : Int32)) ∨ ((0 : Int32) = (0 : Int32) ∧ (2 : Int32) = (3 : Int32)) := by decide
          have hp343 : ((1 : Int32) < (2 : Int32) → v11 < (v11 + (1 : Int64))) ∧ ((2 : Int32) < (2 : Int32) → (v11 + (1 : Int64)) < (0 : Int64)) := ⟨fun _ => hq01, fun q => absurd q (by decide)⟩
          have hp344 : b76 < b142 := lne143
          have ex346 := own_QI_exa Q334
          have ex347 := own_QI_exa Q334
          obtain ⟨cq345, kq345, q345a, q345b, q345c⟩ := isOf hZ eh336 ex347
          obtain ⟨_, _, ⟨T345, L345, k345, n345⟩, -, X345, ⟨Lc345, hQ345, l345, y345, z345⟩, st345⟩ := X336.virtualBack hx (y := own_y10) (z := own_y10) hown (mvT hZ hw82) (mvT hZ hw83) (notFace_of_selects (args := #[]) (mvT hZ hw85)) (mvT hZ hw85) (mvT hZ hw84) (by decide) (backOf (W := 0) (own_rm11j0 l Z a0 hw [] b142 b76 (.ref b87) .null v11 (v11 + (1 : Int64)) (0 : Int64) (0 : Int32) (2 : Int32) (2 : Int32) T324.heap n0 f327 Q334 f328 f329 hp342 hp343 hp344) hZ hw86 hw25 (by decide) (by decide)) q345a q345c (g := (mkF m 405 #[sI p1, sJ q2, sW, sI 2, sI c0, sI c1, sI c2, sI e0_, sI e1_, sI e2_, sI again, sJ v11, sW, sR b76, sR b87, sR b109, sR b142, sI 1, sI 1, sI 0, sR b76, sR b76, sI 2, sU] [(.ref b76), (.ref b142)])) rfl (by rw [hml]; rfl) (Steps.refl _) (argsL := [(.ref b76)]) (rest := []) (lenOf own_pd_12 rfl) rfl (by show 2 * 0 + _ ≤ _; exact Nat.le_of_eq rfl) (hb hby at_405) (fun _ _ => ⟨rfl, eh336, (by decide : 8 + 0 ≤ _), (by decide : 53 + 0 ≤ _)⟩)
          dsimp only [Pt.U, Pt.locs, Pt.cells, Pt.slots] at X345 l345 y345 z345 st345 hQ345
          subst l345 y345 z345
          obtain ⟨rfl, N345q, Lw345, Qw345⟩ := hQ345
          have f348 := Nat.le_trans f327 Lw345.1
          have f349 := Lw345.exa f328 lne143
          have f350 := Lw345.fld f329 lne143
          have f351 := Lw345.exa f330 lne144
          have f352 := Lw345.fld f331 lne144
          have f353 := Lw345.exa f332 lne145
          have f354 := Lw345.fld f333 lne145
          have Q355 : own_QI Z T345.heap n0 b142 .null (.ref b87) .null v11 (v11 + (1 : Int64)) (0 : Int64) (0 : Int32) (2 : Int32) (1 : Int32) := Qw345
          have N345 := Fr.app N336 N345q
          have pre356 : ∀ t, own_S p e below T345 m 449 #[sI p1, sJ q2, sW, sI 2, sI c0, sI c1, sI c2, sI e0_, sI e1_, sI e2_, sI again, sJ v11, sW, sR b76, sR b87, sR b109, sR b142, sI 0, sI 1, sI 0, sR b76, sR b76, sI 2, sU] [(.ref b109), (.ref b87), (.ref b76), (.int 0), (.int 1), (.int 0)] t → R0 t := fun t k => pre341 t (by
            refine st345.trans ?_
            refine XS.aload X345.here hx rfl (hb hby at_408) rfl rfl ?_
            refine XS.aload X345.here hx rfl (hb hby at_410) rfl rfl ?_
            refine Jvm.RoadKit.acmp (g := (mkF m 412 #[sI p1, sJ q2, sW, sI 2, sI c0, sI c1, sI c2, sI e0_, sI e1_, sI e2_, sI again, sJ v11, sW, sR b76, sR b87, sR b109, sR b142, sI 1, sI 1, sI 0, sR b76, sR b76, sI 2, sU] [(.ref b76), (.ref b76)])) X345 hx rfl rfl rfl (pc0 := 412) (pc' := 415) (same := true) rfl (hb hby at_412) rfl (decide_eq_true rfl) (by decide) (by decide) ?_
            refine XS.iconst X345.here hx rfl (hb hby at_415) ?_
            refine XS.istore X345.here hx rfl (hb hby at_416) rfl (l' := #[sI p1, sJ q2, sW, sI 2, sI c0, sI c1, sI c2, sI e0_, sI e1_, sI e2_, sI again, sJ v11, sW, sR b76, sR b87, sR b109, sR b142, sI 0, sI 1, sI 0, sR b76, sR b76, sI 2, sU]) rfl ?_
            refine XS.goto X345.here hx rfl (pc0 := 418) (pc' := 437) rfl (hb hby at_418) (by decide) (by decide) ?_
            refine XS.iload X345.here hx rfl (hb hby at_437) rfl ?_
            refine XS.iload X345.here hx rfl (hb hby at_439) rfl ?_
            refine XS.iload X345.here hx rfl (hb hby at_441) rfl ?_
            refine XS.aload X345.here hx rfl (hb hby at_443) rfl rfl ?_
            refine XS.aload X345.here hx rfl (hb hby at_445) rfl rfl ?_
            refine XS.aload X345.here hx rfl (hb hby at_447) rfl rfl ?_
            exact k)
          obtain ⟨_, _, ⟨T357, L357, k357, n357⟩, -, X357, ⟨Lc357, hQ357, l357, y357, z357⟩, st357⟩ := Jvm.LawKit.callS X345 hx (y := own_y12) hown (mvT hZ hw45) (mvT hZ hw46) (mvT hZ hw47) (mvT hZ hw48) (by decide) (backOf (W := 0) (own_rm5b l Z a0 hw [] (0 : Int32) b76 b87 b109 T345.heap n0 f348 ) hZ hw48 hw47 (by decide) (by decide)) (g := (mkF m 449 #[sI p1, sJ q2, sW, sI 2, sI c0, sI c1, sI c2, sI e0_, sI e1_, sI e2_, sI again, sJ v11, sW, sR b76, sR b87, sR b109, sR b142, sI 0, sI 1, sI 0, sR b76, sR b76, sI 2, sU] [(.ref b109), (.ref b87), (.ref b76), (.int 0), (.int 1), (.int 0)])) rfl (by rw [hml]; rfl) (argsL := [(.int 0), (.int 1), (.int 0), (.ref b76), (.ref b87), (.ref b109)]) (rest := []) (lenOf own_pd_8 rfl) rfl (by show 2 * 0 + _ ≤ _; exact Nat.le_of_eq rfl) (hb hby at_449) (fun _ _ => ⟨rfl, rfl, (by decide : 8 + 0 ≤ _), (by decide : 53 + 0 ≤ _)⟩)
          dsimp only [Pt.U, Pt.locs, Pt.cells, Pt.slots] at X357 l357 y357 z357 st357 hQ357
          subst l357 y357 z357
          obtain ⟨rfl, N357q, eh357⟩ := hQ357
          have N357 := Fr.app N345 N357q
          have pre358 : ∀ t, own_S p e below T357 m 456 #[sI p1, sJ q2, sW, sI 2, sI c0, sI c1, sI c2, sI e0_, sI e1_, sI e2_, sI again, sJ v11, sW, sR b76, sR b87, sR b109, sR b142, sI 0, sI 1, sI 0, sR b76, sR b76, sI 2, sR b87] [(.ref b142)] t → R0 t := fun t k => pre356 t (by
            refine st357 _ ?_
            refine XS.astore X357.here hx rfl (hb hby at_452) rfl rfl (l' := #[sI p1, sJ q2, sW, sI 2, sI c0, sI c1, sI c2, sI e0_, sI e1_, sI e2_, sI again, sJ v11, sW, sR b76, sR b87, sR b109, sR b142, sI 0, sI 1, sI 0, sR b76, sR b76, sI 2, sR b87]) rfl ?_
            refine XS.aload X357.here hx rfl (hb hby at_454) rfl rfl ?_
            exact k)
          have hp359 : ¬ ((1 : Int32) = (0 : Int32)) := by decide
          have ex361 := own_QI_exa Q355
          have ex362 := own_QI_exa Q355
          obtain ⟨cq360, kq360, q360a, q360b, q360c⟩ := isOf hZ eh357 ex362
          obtain ⟨_, _, ⟨T360, L360, k360, n360⟩, -, X360, ⟨Lc360, hQ360, l360, y360, z360⟩, st360⟩ := X357.virtualBack hx (y := own_y11) (z := own_y11) hown (mvT hZ hw49) (mvT hZ hw50) (notFace_of_selects (args := #[]) (mvT hZ hw52)) (mvT hZ hw52) (mvT hZ hw51) (by decide) (backOf (W := 0) (own_rm6h0f1 l Z a0 hw [] b142 b87 .null v11 (v11 + (1 : Int64)) (0 : Int64) (2 : Int32) (1 : Int32) T345.heap n0 f348 Q355 hp359) hZ hw53 hw25 (by decide) (by decide)) q360a q360c (g := (mkF m 456 #[sI p1, sJ q2, sW, sI 2, sI c0, sI c1, sI c2, sI e0_, sI e1_, sI e2_, sI again, sJ v11, sW, sR b76, sR b87, sR b109, sR b142, sI 0, sI 1, sI 0, sR b76, sR b76, sI 2, sR b87] [(.ref b142)])) rfl (by rw [hml]; rfl) (Steps.refl _) (argsL := []) (rest := []) (lenOf own_pd_9 rfl) rfl (by show 2 * 0 + _ ≤ _; exact Nat.le_of_eq rfl) (hb hby at_456) (fun _ _ => ⟨rfl, eh357, (by decide : 8 + 0 ≤ _), (by decide : 53 + 0 ≤ _)⟩)
          dsimp only [Pt.U, Pt.locs, Pt.cells, Pt.slots] at X360 l360 y360 z360 st360 hQ360
          subst l360 y360 z360
          obtain ⟨rfl, N360q, Lw360, Qw360⟩ := hQ360
          have f363 := Nat.le_trans f348 Lw360.1
          have f364 := Lw360.exa f349 lne143
          have f365 := Lw360.fld f350 lne143
          have f366 := Lw360.exa f351 lne144
          have f367 := Lw360.fld f352 lne144
          have f368 := Lw360.exa f353 lne145
          have f369 := Lw360.fld f354 lne145
          have Q370 : own_QI Z T360.heap n0 b142 .null (.ref b87) .null v11 (v11 + (1 : Int64)) (0 : Int64) (1 : Int32) (2 : Int32) (1 : Int32) := Qw360
          have N360 := Fr.app N357 N360q
          have pre371 : ∀ t, own_S p e below T360 m 469 #[sI p1, sJ q2, sW, sI 2, sI c0, sI c1, sI c2, sI e0_, sI e1_, sI e2_, sI again, sJ v11, sW, sR b76, sR b87, sR b109, sR b142, sI 0, sI 1, sI 0, sR b76, sR b76, sI 2, sR b87] [(.int 1)] t → R0 t := fun t k => pre358 t (by
            refine st360.trans ?_
            refine XS.aload X360.here hx rfl (hb hby at_459) rfl rfl ?_
            refine Jvm.RoadKit.acmp (g := (mkF m 461 #[sI p1, sJ q2, sW, sI 2, sI c0, sI c1, sI c2, sI e0_, sI e1_, sI e2_, sI again, sJ v11, sW, sR b76, sR b87, sR b109, sR b142, sI 0, sI 1, sI 0, sR b76, sR b76, sI 2, sR b87] [(.ref b87), (.ref b87)])) X360 hx rfl rfl rfl (pc0 := 461) (pc' := 464) (same := true) rfl (hb hby at_461) rfl (decide_eq_true rfl) (by decide) (by decide) ?_
            refine XS.iconst X360.here hx rfl (hb hby at_464) ?_
            refine XS.goto X360.here hx rfl (pc0 := 465) (pc' := 469) rfl (hb hby at_465) (by decide) (by decide) ?_
            exact k)
          obtain ⟨fs, hr, hrun, hended, hW, hsame⟩ := X360.leave (v := some (.int 1)) (fun h => by rw [Bd.returns] at h; cases h)
          refine ⟨_, _, cast (congrFun hR0 _) (pre371 _ (retN X360 hx (t := .boolean) Bd.returns (by simp) (hb hby at_469) hr)), hrun, hended, _, _, rfl, ?_, ⟨_, rfl⟩, hW, hsame.mono (by decide) (by decide)⟩
          show own_Q0 Z _ _ h0 n0 _ T360.heap _
          exact ⟨rfl, N360⟩
      · have pre372 : ∀ t, own_S p e below T307 m 290 #[sI p1, sJ q2, sW, sI 2, sI c0, sI c1, sI c2, sI e0_, sI e1_, sI e2_, sI again, sJ v11, sW, sR b76, sR b87, sR b109, sR b142, sI 1, sI 0, sI 0, sU, sU, sU, sU] [(.ref b87), (.ref b142)] t → R0 t := fun t k => pre319 t (by
          refine XS.ifYes X307.here hx rfl (pc0 := 233) (pc' := 240) rfl (hb hby at_233) rfl ((if0 _ _).trans (feq hc233).2) (by decide) (by decide) ?_
          refine XS.iconst X307.here hx rfl (hb hby at_240) ?_
          refine XS.istore X307.here hx rfl (hb hby at_241) rfl (l' := #[sI p1, sJ q2, sW, sI 2, sI c0, sI c1, sI c2, sI e0_, sI e1_, sI e2_, sI again, sJ v11, sW, sR b76, sR b87, sR b109, sR b142, sI 1, sI 0, sU, sU, sU, sU, sU]) rfl ?_
          refine XS.iloadN X307.here hx rfl (hb hby at_243) rfl ?_
          refine XS.iconst X307.here hx rfl (hb hby at_244) ?_
          refine XS.icmpYes X307.here hx rfl (pc0 := 245) (pc' := 257) rfl (hb hby at_245) rfl (flt (by decide : ¬ ((2 : Int32) < (2 : Int32)))).2.2.2 (by decide) (by decide) ?_
          refine XS.iconst X307.here hx rfl (hb hby at_257) ?_
          refine XS.istore X307.here hx rfl (hb hby at_258) rfl (l' := #[sI p1, sJ q2, sW, sI 2, sI c0, sI c1, sI c2, sI e0_, sI e1_, sI e2_, sI again, sJ v11, sW, sR b76, sR b87, sR b109, sR b142, sI 1, sI 0, sI 0, sU, sU, sU, sU]) rfl ?_
          refine XS.iloadN X307.here hx rfl (hb hby at_260) rfl ?_
          refine XS.ifNo X307.here hx rfl (hb hby at_261) rfl ((if0 _ _).trans (tlt (by decide : (0 : Int32) < (2 : Int32))).2.2.2) ?_
          refine XS.iload X307.here hx rfl (hb hby at_264) rfl ?_
          refine XS.ifYes X307.here hx rfl (pc0 := 266) (pc' := 276) rfl (hb hby at_266) rfl ((if0 _ _).trans (teq hc216).1) (by decide) (by decide) ?_
          refine XS.iloadN X307.here hx rfl (hb hby at_276) rfl ?_
          refine XS.iconst X307.here hx rfl (hb hby at_277) ?_
          refine XS.icmpNo X307.here hx rfl (hb hby at_278) rfl (tlt (by decide : (1 : Int32) < (2 : Int32))).2.2.2 ?_
          refine XS.iload X307.here hx rfl (hb hby at_281) rfl ?_
          refine XS.ifNo X307.here hx rfl (hb hby at_283) rfl ((if0 _ _).trans (feq hc233).1) ?_
          refine XS.aload X307.here hx rfl (hb hby at_286) rfl rfl ?_
          refine XS.aload X307.here hx rfl (hb hby at_288) rfl rfl ?_
          exact k)
        have hp373 : ((0 : Int32) = (0 : Int32) ∧ (2 : Int32) = (2 : Int32)) ∨ ((0 : Int32) = (0 : Int32) ∧ (2 : Int32) = (3 : Int32)) ∨ ((0 : Int32) = (1 : Int32) ∧ (2 : Int32) = (2 : Int32)) ∨ ((0 : Int32) = (1 : Int32) ∧ (2 : Int32) = (3 : Int32)) := by decide
        have hp374 : ((1 : Int32) < (2 : Int32) → v11 < (v11 + (1 : Int64))) ∧ ((2 : Int32) < (2 : Int32) → (v11 + (1 : Int64)) < (0 : Int64)) := ⟨fun _ => hq01, fun q => absurd q (by decide)⟩
        have hp375 : b87 < b142 := lne144
        have ex377 := own_QI_exa Q317
        have ex378 := own_QI_exa Q317
        obtain ⟨cq376, kq376, q376a, q376b, q376c⟩ := isOf hZ rfl ex378
        obtain ⟨_, _, ⟨T376, L376, k376, n376⟩, -, X376, ⟨Lc376, hQ376, l376, y376, z376⟩, st376⟩ := X307.virtualBack hx (y := own_y10) (z := own_y10) hown (mvT hZ hw82) (mvT hZ hw83) (notFace_of_selects (args := #[]) (mvT hZ hw85)) (mvT hZ hw85) (mvT hZ hw84) (by decide) (backOf (W := 0) (own_rm11j1 l Z a0 hw [] b142 b87 (.ref b76) .null v11 (v11 + (1 : Int64)) (0 : Int64) (0 : Int32) (2 : Int32) (2 : Int32) T307.heap n0 f310 Q317 f313 f314 hp373 hp374 hp375) hZ hw86 hw25 (by decide) (by decide)) q376a q376c (g := (mkF m 290 #[sI p1, sJ q2, sW, sI 2, sI c0, sI c1, sI c2, sI e0_, sI e1_, sI e2_, sI again, sJ v11, sW, sR b76, sR b87, sR b109, sR b142, sI 1, sI 0, sI 0, sU, sU, sU, sU] [(.ref b87), (.ref b142)])) rfl (by rw [hml]; rfl) (Steps.refl _) (argsL := [(.ref b87)]) (rest := []) (lenOf own_pd_12 rfl) rfl (by show 2 * 0 + _ ≤ _; exact Nat.le_of_eq rfl) (hb hby at_290) (fun _ _ => ⟨rfl, rfl, (by decide : 8 + 0 ≤ _), (by decide : 53 + 0 ≤ _)⟩)
        dsimp only [Pt.U, Pt.locs, Pt.cells, Pt.slots] at X376 l376 y376 z376 st376 hQ376
        subst l376 y376 z376
        obtain ⟨rfl, N376q, Lw376, Qw376⟩ := hQ376
        have f379 := Nat.le_trans f310 Lw376.1
        have f380 := Lw376.exa f311 lne143
        have f381 := Lw376.fld f312 lne143
        have f382 := Lw376.exa f313 lne144
        have f383 := Lw376.fld f314 lne144
        have f384 := Lw376.exa f315 lne145
        have f385 := Lw376.fld f316 lne145
        have Q386 : own_QI Z T376.heap n0 b142 (.ref b76) .null .null v11 (v11 + (1 : Int64)) (0 : Int64) (0 : Int32) (2 : Int32) (1 : Int32) := Qw376
        have N376 := Fr.app N307 N376q
        have pre387 : ∀ t, own_S p e below T376 m 322 #[sI p1, sJ q2, sW, sI 2, sI c0, sI c1, sI c2, sI e0_, sI e1_, sI e2_, sI again, sJ v11, sW, sR b76, sR b87, sR b109, sR b142, sI 1, sI 0, sI 0, sU, sU, sU, sU] [(.ref b109), (.ref b87), (.ref b76), (.int 0), (.int 0), (.int 1)] t → R0 t := fun t k => pre372 t (by
          refine st376.trans ?_
          refine XS.iloadN X376.here hx rfl (hb hby at_293) rfl ?_
          refine XS.iconst X376.here hx rfl (hb hby at_294) ?_
          refine XS.icmpYes X376.here hx rfl (pc0 := 295) (pc' := 310) rfl (hb hby at_295) rfl (flt (by decide : ¬ ((2 : Int32) < (2 : Int32)))).2.2.2 (by decide) (by decide) ?_
          refine XS.iload X376.here hx rfl (hb hby at_310) rfl ?_
          refine XS.iload X376.here hx rfl (hb hby at_312) rfl ?_
          refine XS.iload X376.here hx rfl (hb hby at_314) rfl ?_
          refine XS.aload X376.here hx rfl (hb hby at_316) rfl rfl ?_
          refine XS.aload X376.here hx rfl (hb hby at_318) rfl rfl ?_
          refine XS.aload X376.here hx rfl (hb hby at_320) rfl rfl ?_
          exact k)
        obtain ⟨_, _, ⟨T388, L388, k388, n388⟩, -, X388, ⟨Lc388, hQ388, l388, y388, z388⟩, st388⟩ := Jvm.LawKit.callS X376 hx (y := own_y12) hown (mvT hZ hw45) (mvT hZ hw46) (mvT hZ hw47) (mvT hZ hw48) (by decide) (backOf (W := 0) (own_rm5a l Z a0 hw [] (0 : Int32) (0 : Int32) b76 b87 b109 T376.heap n0 f379 ) hZ hw48 hw47 (by decide) (by decide)) (g := (mkF m 322 #[sI p1, sJ q2, sW, sI 2, sI c0, sI c1, sI c2, sI e0_, sI e1_, sI e2_, sI again, sJ v11, sW, sR b76, sR b87, sR b109, sR b142, sI 1, sI 0, sI 0, sU, sU, sU, sU] [(.ref b109), (.ref b87), (.ref b76), (.int 0), (.int 0), (.int 1)])) rfl (by rw [hml]; rfl) (argsL := [(.int 1), (.int 0), (.int 0), (.ref b76), (.ref b87), (.ref b109)]) (rest := []) (lenOf own_pd_8 rfl) rfl (by show 2 * 0 + _ ≤ _; exact Nat.le_of_eq rfl) (hb hby at_322) (fun _ _ => ⟨rfl, rfl, (by decide : 8 + 0 ≤ _), (by decide : 53 + 0 ≤ _)⟩)
        dsimp only [Pt.U, Pt.locs, Pt.cells, Pt.slots] at X388 l388 y388 z388 st388 hQ388
        subst l388 y388 z388
        obtain ⟨rfl, N388q, eh388⟩ := hQ388
        have N388 := Fr.app N376 N388q
        have pre389 : ∀ t, own_S p e below T388 m 329 #[sI p1, sJ q2, sW, sI 2, sI c0, sI c1, sI c2, sI e0_, sI e1_, sI e2_, sI again, sJ v11, sW, sR b76, sR b87, sR b109, sR b142, sI 1, sI 0, sI 0, sR b76, sU, sU, sU] [(.ref b142)] t → R0 t := fun t k => pre387 t (by
          refine st388 _ ?_
          refine XS.astore X388.here hx rfl (hb hby at_325) rfl rfl (l' := #[sI p1, sJ q2, sW, sI 2, sI c0, sI c1, sI c2, sI e0_, sI e1_, sI e2_, sI again, sJ v11, sW, sR b76, sR b87, sR b109, sR b142, sI 1, sI 0, sI 0, sR b76, sU, sU, sU]) rfl ?_
          refine XS.aload X388.here hx rfl (hb hby at_327) rfl rfl ?_
          exact k)
        have hp390 : ¬ ((1 : Int32) = (0 : Int32)) := by decide
        have ex392 := own_QI_exa Q386
        have ex393 := own_QI_exa Q386
        obtain ⟨cq391, kq391, q391a, q391b, q391c⟩ := isOf hZ eh388 ex393
        obtain ⟨_, _, ⟨T391, L391, k391, n391⟩, -, X391, ⟨Lc391, hQ391, l391, y391, z391⟩, st391⟩ := X388.virtualBack hx (y := own_y11) (z := own_y11) hown (mvT hZ hw49) (mvT hZ hw50) (notFace_of_selects (args := #[]) (mvT hZ hw52)) (mvT hZ hw52) (mvT hZ hw51) (by decide) (backOf (W := 0) (own_rm6h0f0 l Z a0 hw [] b142 b76 .null .null v11 (v11 + (1 : Int64)) (0 : Int64) (2 : Int32) (1 : Int32) T376.heap n0 f379 Q386 hp390) hZ hw53 hw25 (by decide) (by decide)) q391a q391c (g := (mkF m 329 #[sI p1, sJ q2, sW, sI 2, sI c0, sI c1, sI c2, sI e0_, sI e1_, sI e2_, sI again, sJ v11, sW, sR b76, sR b87, sR b109, sR b142, sI 1, sI 0, sI 0, sR b76, sU, sU, sU] [(.ref b142)])) rfl (by rw [hml]; rfl) (Steps.refl _) (argsL := []) (rest := []) (lenOf own_pd_9 rfl) rfl (by show 2 * 0 + _ ≤ _; exact Nat.le_of_eq rfl) (hb hby at_329) (fun _ _ => ⟨rfl, eh388, (by decide : 8 + 0 ≤ _), (by decide : 53 + 0 ≤ _)⟩)
        dsimp only [Pt.U, Pt.locs, Pt.cells, Pt.slots] at X391 l391 y391 z391 st391 hQ391
        subst l391 y391 z391
        obtain ⟨rfl, N391q, Lw391, Qw391⟩ := hQ391
        have f394 := Nat.le_trans f379 Lw391.1
        have f395 := Lw391.exa f380 lne143
        have f396 := Lw391.fld f381 lne143
        have f397 := Lw391.exa f382 lne144
        have f398 := Lw391.fld f383 lne144
        have f399 := Lw391.exa f384 lne145
        have f400 := Lw391.fld f385 lne145
        have Q401 : own_QI Z T391.heap n0 b142 (.ref b76) .null .null v11 (v11 + (1 : Int64)) (0 : Int64) (0 : Int32) (2 : Int32) (1 : Int32) := Qw391
        have N391 := Fr.app N388 N391q
        have pre402 : ∀ t, own_S p e below T391 m 379 #[sI p1, sJ q2, sW, sI 2, sI c0, sI c1, sI c2, sI e0_, sI e1_, sI e2_, sI again, sJ v11, sW, sR b76, sR b87, sR b109, sR b142, sI 1, sI 0, sI 0, sR b76, sR b76, sI 1, sU] [(.ref b142)] t → R0 t := fun t k => pre389 t (by
          refine st391.trans ?_
          refine XS.astore X391.here hx rfl (hb hby at_332) rfl rfl (l' := #[sI p1, sJ q2, sW, sI 2, sI c0, sI c1, sI c2, sI e0_, sI e1_, sI e2_, sI again, sJ v11, sW, sR b76, sR b87, sR b109, sR b142, sI 1, sI 0, sI 0, sR b76, sR b76, sU, sU]) rfl ?_
          refine XS.aload X391.here hx rfl (hb hby at_334) rfl rfl ?_
          refine XS.aload X391.here hx rfl (hb hby at_336) rfl rfl ?_
          refine Jvm.RoadKit.acmp (g := (mkF m 338 #[sI p1, sJ q2, sW, sI 2, sI c0, sI c1, sI c2, sI e0_, sI e1_, sI e2_, sI again, sJ v11, sW, sR b76, sR b87, sR b109, sR b142, sI 1, sI 0, sI 0, sR b76, sR b76, sU, sU] [(.ref b76), (.ref b76)])) X391 hx rfl rfl rfl (pc0 := 338) (pc' := 343) (same := true) rfl (hb hby at_338) rfl (decide_eq_true rfl) (by decide) (by decide) ?_
          refine XS.iload X391.here hx rfl (hb hby at_343) rfl ?_
          refine XS.ifNo X391.here hx rfl (hb hby at_345) rfl ((if0 _ _).trans (feq (by decide : ¬ ((1 : Int32) = (0 : Int32)))).1) ?_
          refine XS.iconst X391.here hx rfl (hb hby at_348) ?_
          refine XS.goto X391.here hx rfl (pc0 := 349) (pc' := 353) rfl (hb hby at_349) (by decide) (by decide) ?_
          refine XS.iload X391.here hx rfl (hb hby at_353) rfl ?_
          refine XS.ifYes X391.here hx rfl (pc0 := 355) (pc' := 362) rfl (hb hby at_355) rfl ((if0 _ _).trans (teq (by decide : (0 : Int32) = (0 : Int32))).1) (by decide) (by decide) ?_
          refine XS.iconst X391.here hx rfl (hb hby at_362) ?_
          refine XS.iadd X391.here hx rfl (hb hby at_363) rfl ?_
          refine XS.iload X391.here hx rfl (hb hby at_364) rfl ?_
          refine XS.ifYes X391.here hx rfl (pc0 := 366) (pc' := 373) rfl (hb hby at_366) rfl ((if0 _ _).trans (teq (by decide : (0 : Int32) = (0 : Int32))).1) (by decide) (by decide) ?_
          refine XS.iconst X391.here hx rfl (hb hby at_373) ?_
          refine XS.iadd X391.here hx rfl (hb hby at_374) rfl ?_
          refine XS.istore X391.here hx rfl (hb hby at_375) rfl (l' := #[sI p1, sJ q2, sW, sI 2, sI c0, sI c1, sI c2, sI e0_, sI e1_, sI e2_, sI again, sJ v11, sW, sR b76, sR b87, sR b109, sR b142, sI 1, sI 0, sI 0, sR b76, sR b76, sI 1, sU]) rfl ?_
          refine XS.aload X391.here hx rfl (hb hby at_377) rfl rfl ?_
          exact k)
        have ex404 := own_QI_exa Q401
        have ex405 := own_QI_exa Q401
        obtain ⟨cq403, kq403, q403a, q403b, q403c⟩ := isOf hZ rfl ex405
        obtain ⟨_, _, ⟨T403, L403, k403, n403⟩, -, X403, ⟨Lc403, hQ403, l403, y403, z403⟩, st403⟩ := X391.virtualBack hx (y := own_y4) (z := own_y4) hown (mvT hZ hw56) (mvT hZ hw57) (notFace_of_selects (args := #[]) (mvT hZ hw59)) (mvT hZ hw59) (mvT hZ hw58) (by decide) (backOf (W := 0) (own_rm7 l Z a0 hw [] b142 (.ref b76) .null .null v11 (v11 + (1 : Int64)) (0 : Int64) (0 : Int32) (2 : Int32) (1 : Int32) T391.heap n0 f394 Q401) hZ hw60 hw25 (by decide) (by decide)) q403a q403c (g := (mkF m 379 #[sI p1, sJ q2, sW, sI 2, sI c0, sI c1, sI c2, sI e0_, sI e1_, sI e2_, sI again, sJ v11, sW, sR b76, sR b87, sR b109, sR b142, sI 1, sI 0, sI 0, sR b76, sR b76, sI 1, sU] [(.ref b142)])) rfl (by rw [hml]; rfl) (Steps.refl _) (argsL := []) (rest := []) (lenOf own_pd_10 rfl) rfl (by show 2 * 0 + _ ≤ _; exact Nat.le_of_eq rfl) (hb hby at_379) (fun _ _ => ⟨rfl, rfl, (by decide : 8 + 0 ≤ _), (by decide : 53 + 0 ≤ _)⟩)
        dsimp only [Pt.U, Pt.locs, Pt.cells, Pt.slots] at X403 l403 y403 z403 st403 hQ403
        subst l403 y403 z403
        obtain ⟨rfl, N403q, eh403⟩ := hQ403
        have N403 := Fr.app N391 N403q
        have pre406 : ∀ t, own_S p e below T403 m 391 #[sI p1, sJ q2, sW, sI 2, sI c0, sI c1, sI c2, sI e0_, sI e1_, sI e2_, sI again, sJ v11, sW, sR b76, sR b87, sR b109, sR b142, sI 1, sI 0, sI 0, sR b76, sR b76, sI 1, sU] [(.int again)] t → R0 t := fun t k => pre402 t (by
          refine st403.trans ?_
          refine XS.iload X403.here hx rfl (hb hby at_382) rfl ?_
          refine XS.icmpYes X403.here hx rfl (pc0 := 384) (pc' := 389) rfl (hb hby at_384) rfl (teq (by decide : (1 : Int32) = (1 : Int32))).1 (by decide) (by decide) ?_
          refine XS.iload X403.here hx rfl (hb hby at_389) rfl ?_
          exact k)
        by_cases hc391 : again = (0 : Int32)
        · have pre407 : ∀ t, own_S p e below T403 m 400 #[sI p1, sJ q2, sW, sI 2, sI c0, sI c1, sI c2, sI e0_, sI e1_, sI e2_, sI again, sJ v11, sW, sR b76, sR b87, sR b109, sR b142, sI 1, sI 0, sI 0, sR b76, sR b76, sI 1, sU] [(.int 1)] t → R0 t := fun t k => pre406 t (by
            refine XS.ifYes X403.here hx rfl (pc0 := 391) (pc' := 399) rfl (hb hby at_391) rfl ((if0 _ _).trans (teq hc391).1) (by decide) (by decide) ?_
            refine XS.iconst X403.here hx rfl (hb hby at_399) ?_
            exact k)
          obtain ⟨fs, hr, hrun, hended, hW, hsame⟩ := X403.leave (v := some (.int 1)) (fun h => by rw [Bd.returns] at h; cases h)
          refine ⟨_, _, cast (congrFun hR0 _) (pre407 _ (retN X403 hx (t := .boolean) Bd.returns (by simp) (hb hby at_400) hr)), hrun, hended, _, _, rfl, ?_, ⟨_, rfl⟩, hW, hsame.mono (by decide) (by decide)⟩
          show own_Q0 Z _ _ h0 n0 _ T403.heap _
          rw [eh403]
          exact ⟨rfl, N403⟩
        · have pre408 : ∀ t, own_S p e below T403 m 405 #[sI p1, sJ q2, sW, sI 2, sI c0, sI c1, sI c2, sI e0_, sI e1_, sI e2_, sI again, sJ v11, sW, sR b76, sR b87, sR b109, sR b142, sI 1, sI 0, sI 0, sR b76, sR b76, sI 1, sU] [(.ref b76), (.ref b142)] t → R0 t := fun t k => pre406 t (by
            refine XS.ifNo X403.here hx rfl (hb hby at_391) rfl ((if0 _ _).trans (feq hc391).1) ?_
            refine XS.aload X403.here hx rfl (hb hby at_394) rfl rfl ?_
            refine XS.ifnonnullYes X403.here hx rfl (pc0 := 396) (pc' := 401) rfl (hb hby at_396) rfl (by decide) (by decide) ?_
            refine XS.aload X403.here hx rfl (hb hby at_401) rfl rfl ?_
            refine XS.aload X403.here hx rfl (hb hby at_403) rfl rfl ?_
            exact k)
          have hp409 : ((0 : Int32) = (0 : Int32) ∧ (2 : Int32) = (1 : Int32)) ∨ ((0 : Int32) = (0 : Int32) ∧ (2 : Int32) = (2 : Int32)) ∨ ((0 : Int32) = (0 : Int32) ∧ (2 : Int32) = (3 : Int32)) := by decide
          have hp410 : ((1 : Int32) < (2 : Int32) → v11 < (v11 + (1 : Int64))) ∧ ((2 : Int32) < (2 : Int32) → (v11 + (1 : Int64)) < (0 : Int64)) := ⟨fun _ => hq01, fun q => absurd q (by decide)⟩
          have hp411 : b76 < b142 := lne143
          have ex413 := own_QI_exa Q401
          have ex414 := own_QI_exa Q401
          obtain ⟨cq412, kq412, q412a, q412b, q412c⟩ := isOf hZ eh403 ex414
          obtain ⟨_, _, ⟨T412, L412, k412, n412⟩, -, X412, ⟨Lc412, hQ412, l412, y412, z412⟩, st412⟩ := X403.virtualBack hx (y := own_y10) (z := own_y10) hown (mvT hZ hw82) (mvT hZ hw83) (notFace_of_selects (args := #[]) (mvT hZ hw85)) (mvT hZ hw85) (mvT hZ hw84) (by decide) (backOf (W := 0) (own_rm11j0 l Z a0 hw [] b142 b76 .null .null v11 (v11 + (1 : Int64)) (0 : Int64) (0 : Int32) (2 : Int32) (1 : Int32) T391.heap n0 f394 Q401 f395 f396 hp409 hp410 hp411) hZ hw86 hw25 (by decide) (by decide)) q412a q412c (g := (mkF m 405 #[sI p1, sJ q2, sW, sI 2, sI c0, sI c1, sI c2, sI e0_, sI e1_, sI e2_, sI again, sJ v11, sW, sR b76, sR b87, sR b109, sR b142, sI 1, sI 0, sI 0, sR b76, sR b76, sI 1, sU] [(.ref b76), (.ref b142)])) rfl (by rw [hml]; rfl) (Steps.refl _) (argsL := [(.ref b76)]) (rest := []) (lenOf own_pd_12 rfl) rfl (by show 2 * 0 + _ ≤ _; exact Nat.le_of_eq rfl) (hb hby at_405) (fun _ _ => ⟨rfl, eh403, (by decide : 8 + 0 ≤ _), (by decide : 53 + 0 ≤ _)⟩)
          dsimp only [Pt.U, Pt.locs, Pt.cells, Pt.slots] at X412 l412 y412 z412 st412 hQ412
          subst l412 y412 z412
          obtain ⟨rfl, N412q, Lw412, Qw412⟩ := hQ412
          have f415 := Nat.le_trans f394 Lw412.1
          have f416 := Lw412.exa f395 lne143
          have f417 := Lw412.fld f396 lne143
          have f418 := Lw412.exa f397 lne144
          have f419 := Lw412.fld f398 lne144
          have f420 := Lw412.exa f399 lne145
          have f421 := Lw412.fld f400 lne145
          have Q422 : own_QI Z T412.heap n0 b142 .null .null .null v11 (v11 + (1 : Int64)) (0 : Int64) (0 : Int32) (2 : Int32) (0 : Int32) := Qw412
          have N412 := Fr.app N403 N412q
          have pre423 : ∀ t, own_S p e below T412 m 449 #[sI p1, sJ q2, sW, sI 2, sI c0, sI c1, sI c2, sI e0_, sI e1_, sI e2_, sI again, sJ v11, sW, sR b76, sR b87, sR b109, sR b142, sI 0, sI 0, sI 0, sR b76, sR b76, sI 1, sU] [(.ref b109), (.ref b87), (.ref b76), (.int 0), (.int 0), (.int 0)] t → R0 t := fun t k => pre408 t (by
            refine st412.trans ?_
            refine XS.aload X412.here hx rfl (hb hby at_408) rfl rfl ?_
            refine XS.aload X412.here hx rfl (hb hby at_410) rfl rfl ?_
            refine Jvm.RoadKit.acmp (g := (mkF m 412 #[sI p1, sJ q2, sW, sI 2, sI c0, sI c1, sI c2, sI e0_, sI e1_, sI e2_, sI again, sJ v11, sW, sR b76, sR b87, sR b109, sR b142, sI 1, sI 0, sI 0, sR b76, sR b76, sI 1, sU] [(.ref b76), (.ref b76)])) X412 hx rfl rfl rfl (pc0 := 412) (pc' := 415) (same := true) rfl (hb hby at_412) rfl (decide_eq_true rfl) (by decide) (by decide) ?_
            refine XS.iconst X412.here hx rfl (hb hby at_415) ?_
            refine XS.istore X412.here hx rfl (hb hby at_416) rfl (l' := #[sI p1, sJ q2, sW, sI 2, sI c0, sI c1, sI c2, sI e0_, sI e1_, sI e2_, sI again, sJ v11, sW, sR b76, sR b87, sR b109, sR b142, sI 0, sI 0, sI 0, sR b76, sR b76, sI 1, sU]) rfl ?_
            refine XS.goto X412.here hx rfl (pc0 := 418) (pc' := 437) rfl (hb hby at_418) (by decide) (by decide) ?_
            refine XS.iload X412.here hx rfl (hb hby at_437) rfl ?_
            refine XS.iload X412.here hx rfl (hb hby at_439) rfl ?_
            refine XS.iload X412.here hx rfl (hb hby at_441) rfl ?_
            refine XS.aload X412.here hx rfl (hb hby at_443) rfl rfl ?_
            refine XS.aload X412.here hx rfl (hb hby at_445) rfl rfl ?_
            refine XS.aload X412.here hx rfl (hb hby at_447) rfl rfl ?_
            exact k)
          obtain ⟨_, _, ⟨T424, L424, k424, n424⟩, -, X424, ⟨Lc424, hQ424, l424, y424, z424⟩, st424⟩ := Jvm.LawKit.callS X412 hx (y := own_y12) hown (mvT hZ hw45) (mvT hZ hw46) (mvT hZ hw47) (mvT hZ hw48) (by decide) (backOf (W := 0) (own_rm5d l Z a0 hw [] b76 b87 b109 T412.heap n0 f415 ) hZ hw48 hw47 (by decide) (by decide)) (g := (mkF m 449 #[sI p1, sJ q2, sW, sI 2, sI c0, sI c1, sI c2, sI e0_, sI e1_, sI e2_, sI again, sJ v11, sW, sR b76, sR b87, sR b109, sR b142, sI 0, sI 0, sI 0, sR b76, sR b76, sI 1, sU] [(.ref b109), (.ref b87), (.ref b76), (.int 0), (.int 0), (.int 0)])) rfl (by rw [hml]; rfl) (argsL := [(.int 0), (.int 0), (.int 0), (.ref b76), (.ref b87), (.ref b109)]) (rest := []) (lenOf own_pd_8 rfl) rfl (by show 2 * 0 + _ ≤ _; exact Nat.le_of_eq rfl) (hb hby at_449) (fun _ _ => ⟨rfl, rfl, (by decide : 8 + 0 ≤ _), (by decide : 53 + 0 ≤ _)⟩)
          dsimp only [Pt.U, Pt.locs, Pt.cells, Pt.slots] at X424 l424 y424 z424 st424 hQ424
          subst l424 y424 z424
          obtain ⟨rfl, N424q, eh424⟩ := hQ424
          have N424 := Fr.app N412 N424q
          have pre425 : ∀ t, own_S p e below T424 m 456 #[sI p1, sJ q2, sW, sI 2, sI c0, sI c1, sI c2, sI e0_, sI e1_, sI e2_, sI again, sJ v11, sW, sR b76, sR b87, sR b109, sR b142, sI 0, sI 0, sI 0, sR b76, sR b76, sI 1, sN] [(.ref b142)] t → R0 t := fun t k => pre423 t (by
            refine st424 _ ?_
            refine XS.astore X424.here hx rfl (hb hby at_452) rfl rfl (l' := #[sI p1, sJ q2, sW, sI 2, sI c0, sI c1, sI c2, sI e0_, sI e1_, sI e2_, sI again, sJ v11, sW, sR b76, sR b87, sR b109, sR b142, sI 0, sI 0, sI 0, sR b76, sR b76, sI 1, sN]) rfl ?_
            refine XS.aload X424.here hx rfl (hb hby at_454) rfl rfl ?_
            exact k)
          have hp426 : (0 : Int32) = (0 : Int32) := by decide
          have ex428 := own_QI_exa Q422
          have ex429 := own_QI_exa Q422
          obtain ⟨cq427, kq427, q427a, q427b, q427c⟩ := isOf hZ eh424 ex429
          obtain ⟨_, _, ⟨T427, L427, k427, n427⟩, -, X427, ⟨Lc427, hQ427, l427, y427, z427⟩, st427⟩ := X424.virtualBack hx (y := own_y11) (z := own_y11) hown (mvT hZ hw49) (mvT hZ hw50) (notFace_of_selects (args := #[]) (mvT hZ hw52)) (mvT hZ hw52) (mvT hZ hw51) (by decide) (backOf (W := 0) (own_rm6z l Z a0 hw [] b142 .null .null .null v11 (v11 + (1 : Int64)) (0 : Int64) (0 : Int32) (2 : Int32) (0 : Int32) T412.heap n0 f415 Q422 hp426) hZ hw53 hw25 (by decide) (by decide)) q427a q427c (g := (mkF m 456 #[sI p1, sJ q2, sW, sI 2, sI c0, sI c1, sI c2, sI e0_, sI e1_, sI e2_, sI again, sJ v11, sW, sR b76, sR b87, sR b109, sR b142, sI 0, sI 0, sI 0, sR b76, sR b76, sI 1, sN] [(.ref b142)])) rfl (by rw [hml]; rfl) (Steps.refl _) (argsL := []) (rest := []) (lenOf own_pd_9 rfl) rfl (by show 2 * 0 + _ ≤ _; exact Nat.le_of_eq rfl) (hb hby at_456) (fun _ _ => ⟨rfl, eh424, (by decide : 8 + 0 ≤ _), (by decide : 53 + 0 ≤ _)⟩)
          dsimp only [Pt.U, Pt.locs, Pt.cells, Pt.slots] at X427 l427 y427 z427 st427 hQ427
          subst l427 y427 z427
          obtain ⟨rfl, N427q, eh427⟩ := hQ427
          have N427 := Fr.app N424 N427q
          have pre430 : ∀ t, own_S p e below T427 m 469 #[sI p1, sJ q2, sW, sI 2, sI c0, sI c1, sI c2, sI e0_, sI e1_, sI e2_, sI again, sJ v11, sW, sR b76, sR b87, sR b109, sR b142, sI 0, sI 0, sI 0, sR b76, sR b76, sI 1, sN] [(.int 1)] t → R0 t := fun t k => pre425 t (by
            refine st427.trans ?_
            refine XS.aload X427.here hx rfl (hb hby at_459) rfl rfl ?_
            refine Jvm.RoadKit.acmp (g := (mkF m 461 #[sI p1, sJ q2, sW, sI 2, sI c0, sI c1, sI c2, sI e0_, sI e1_, sI e2_, sI again, sJ v11, sW, sR b76, sR b87, sR b109, sR b142, sI 0, sI 0, sI 0, sR b76, sR b76, sI 1, sN] [.null, .null])) X427 hx rfl rfl rfl (pc0 := 461) (pc' := 464) (same := true) rfl (hb hby at_461) rfl (decide_eq_true rfl) (by decide) (by decide) ?_
            refine XS.iconst X427.here hx rfl (hb hby at_464) ?_
            refine XS.goto X427.here hx rfl (pc0 := 465) (pc' := 469) rfl (hb hby at_465) (by decide) (by decide) ?_
            exact k)
          obtain ⟨fs, hr, hrun, hended, hW, hsame⟩ := X427.leave (v := some (.int 1)) (fun h => by rw [Bd.returns] at h; cases h)
          refine ⟨_, _, cast (congrFun hR0 _) (pre430 _ (retN X427 hx (t := .boolean) Bd.returns (by simp) (hb hby at_469) hr)), hrun, hended, _, _, rfl, ?_, ⟨_, rfl⟩, hW, hsame.mono (by decide) (by decide)⟩
          show own_Q0 Z _ _ h0 n0 _ T427.heap _
          rw [eh427]
          exact ⟨rfl, N427⟩
    · have pre431 : ∀ t, own_S p e below T307 m 233 #[sI p1, sJ q2, sW, sI 2, sI c0, sI c1, sI c2, sI e0_, sI e1_, sI e2_, sI again, sJ v11, sW, sR b76, sR b87, sR b109, sR b142, sI 0, sU, sU, sU, sU, sU, sU] [(.int e1_)] t → R0 t := fun t k => pre318 t (by
        refine XS.ifYes X307.here hx rfl (pc0 := 216) (pc' := 223) rfl (hb hby at_216) rfl ((if0 _ _).trans (feq hc216).2) (by decide) (by decide) ?_
        refine XS.iconst X307.here hx rfl (hb hby at_223) ?_
        refine XS.istore X307.here hx rfl (hb hby at_224) rfl (l' := #[sI p1, sJ q2, sW, sI 2, sI c0, sI c1, sI c2, sI e0_, sI e1_, sI e2_, sI again, sJ v11, sW, sR b76, sR b87, sR b109, sR b142, sI 0, sU, sU, sU, sU, sU, sU]) rfl ?_
        refine XS.iloadN X307.here hx rfl (hb hby at_226) rfl ?_
        refine XS.iconst X307.here hx rfl (hb hby at_227) ?_
        refine XS.icmpNo X307.here hx rfl (hb hby at_228) rfl (tlt (by decide : (1 : Int32) < (2 : Int32))).2.2.2 ?_
        refine XS.iload X307.here hx rfl (hb hby at_231) rfl ?_
        exact k)
      by_cases hc233 : e1_ = (0 : Int32)
      · have pre432 : ∀ t, own_S p e below T307 m 273 #[sI p1, sJ q2, sW, sI 2, sI c0, sI c1, sI c2, sI e0_, sI e1_, sI e2_, sI again, sJ v11, sW, sR b76, sR b87, sR b109, sR b142, sI 0, sI 1, sI 0, sU, sU, sU, sU] [(.ref b76), (.ref b142)] t → R0 t := fun t k => pre431 t (by
          refine XS.ifNo X307.here hx rfl (hb hby at_233) rfl ((if0 _ _).trans (teq hc233).2) ?_
          refine XS.iconst X307.here hx rfl (hb hby at_236) ?_
          refine XS.goto X307.here hx rfl (pc0 := 237) (pc' := 241) rfl (hb hby at_237) (by decide) (by decide) ?_
          refine XS.istore X307.here hx rfl (hb hby at_241) rfl (l' := #[sI p1, sJ q2, sW, sI 2, sI c0, sI c1, sI c2, sI e0_, sI e1_, sI e2_, sI again, sJ v11, sW, sR b76, sR b87, sR b109, sR b142, sI 0, sI 1, sU, sU, sU, sU, sU]) rfl ?_
          refine XS.iloadN X307.here hx rfl (hb hby at_243) rfl ?_
          refine XS.iconst X307.here hx rfl (hb hby at_244) ?_
          refine XS.icmpYes X307.here hx rfl (pc0 := 245) (pc' := 257) rfl (hb hby at_245) rfl (flt (by decide : ¬ ((2 : Int32) < (2 : Int32)))).2.2.2 (by decide) (by decide) ?_
          refine XS.iconst X307.here hx rfl (hb hby at_257) ?_
          refine XS.istore X307.here hx rfl (hb hby at_258) rfl (l' := #[sI p1, sJ q2, sW, sI 2, sI c0, sI c1, sI c2, sI e0_, sI e1_, sI e2_, sI again, sJ v11, sW, sR b76, sR b87, sR b109, sR b142, sI 0, sI 1, sI 0, sU, sU, sU, sU]) rfl ?_
          refine XS.iloadN X307.here hx rfl (hb hby at_260) rfl ?_
          refine XS.ifNo X307.here hx rfl (hb hby at_261) rfl ((if0 _ _).trans (tlt (by decide : (0 : Int32) < (2 : Int32))).2.2.2) ?_
          refine XS.iload X307.here hx rfl (hb hby at_264) rfl ?_
          refine XS.ifNo X307.here hx rfl (hb hby at_266) rfl ((if0 _ _).trans (feq hc216).1) ?_
          refine XS.aload X307.here hx rfl (hb hby at_269) rfl rfl ?_
          refine XS.aload X307.here hx rfl (hb hby at_271) rfl rfl ?_
          exact k)
        have hp433 : ((0 : Int32) = (0 : Int32) ∧ (2 : Int32) = (1 : Int32)) ∨ ((0 : Int32) = (0 : Int32) ∧ (2 : Int32) = (2 : Int32)) ∨ ((0 : Int32) = (0 : Int32) ∧ (2 : Int32) = (3 : Int32)) := by decide
        have hp434 : ((1 : Int32) < (2 : Int32) → v11 < (v11 + (1 : Int64))) ∧ ((2 : Int32) < (2 : Int32) → (v11 + (1 : Int64)) < (0 : Int64)) := ⟨fun _ => hq01, fun q => absurd q (by decide)⟩
        have hp435 : b76 < b142 := lne143
        have ex437 := own_QI_exa Q317
        have ex438 := own_QI_exa Q317
        obtain ⟨cq436, kq436, q436a, q436b, q436c⟩ := isOf hZ rfl ex438
        obtain ⟨_, _, ⟨T436, L436, k436, n436⟩, -, X436, ⟨Lc436, hQ436, l436, y436, z436⟩, st436⟩ := X307.virtualBack hx (y := own_y10) (z := own_y10) hown (mvT hZ hw82) (mvT hZ hw83) (notFace_of_selects (args := #[]) (mvT hZ hw85)) (mvT hZ hw85) (mvT hZ hw84) (by decide) (backOf (W := 0) (own_rm11j0 l Z a0 hw [] b142 b76 (.ref b87) .null v11 (v11 + (1 : Int64)) (0 : Int64) (0 : Int32) (2 : Int32) (2 : Int32) T307.heap n0 f310 Q317 f311 f312 hp433 hp434 hp435) hZ hw86 hw25 (by decide) (by decide)) q436a q436c (g := (mkF m 273 #[sI p1, sJ q2, sW, sI 2, sI c0, sI c1, sI c2, sI e0_, sI e1_, sI e2_, sI again, sJ v11, sW, sR b76, sR b87, sR b109, sR b142, sI 0, sI 1, sI 0, sU, sU, sU, sU] [(.ref b76), (.ref b142)])) rfl (by rw [hml]; rfl) (Steps.refl _) (argsL := [(.ref b76)]) (rest := []) (lenOf own_pd_12 rfl) rfl (by show 2 * 0 + _ ≤ _; exact Nat.le_of_eq rfl) (hb hby at_273) (fun _ _ => ⟨rfl, rfl, (by decide : 8 + 0 ≤ _), (by decide : 53 + 0 ≤ _)⟩)
        dsimp only [Pt.U, Pt.locs, Pt.cells, Pt.slots] at X436 l436 y436 z436 st436 hQ436
        subst l436 y436 z436
        obtain ⟨rfl, N436q, Lw436, Qw436⟩ := hQ436
        have f439 := Nat.le_trans f310 Lw436.1
        have f440 := Lw436.exa f311 lne143
        have f441 := Lw436.fld f312 lne143
        have f442 := Lw436.exa f313 lne144
        have f443 := Lw436.fld f314 lne144
        have f444 := Lw436.exa f315 lne145
        have f445 := Lw436.fld f316 lne145
        have Q446 : own_QI Z T436.heap n0 b142 .null (.ref b87) .null v11 (v11 + (1 : Int64)) (0 : Int64) (0 : Int32) (2 : Int32) (1 : Int32) := Qw436
        have N436 := Fr.app N307 N436q
        have pre447 : ∀ t, own_S p e below T436 m 322 #[sI p1, sJ q2, sW, sI 2, sI c0, sI c1, sI c2, sI e0_, sI e1_, sI e2_, sI again, sJ v11, sW, sR b76, sR b87, sR b109, sR b142, sI 0, sI 1, sI 0, sU, sU, sU, sU] [(.ref b109), (.ref b87), (.ref b76), (.int 0), (.int 1), (.int 0)] t → R0 t := fun t k => pre432 t (by
          refine st436.trans ?_
          refine XS.iloadN X436.here hx rfl (hb hby at_276) rfl ?_
          refine XS.iconst X436.here hx rfl (hb hby at_277) ?_
          refine XS.icmpNo X436.here hx rfl (hb hby at_278) rfl (tlt (by decide : (1 : Int32) < (2 : Int32))).2.2.2 ?_
          refine XS.iload X436.here hx rfl (hb hby at_281) rfl ?_
          refine XS.ifYes X436.here hx rfl (pc0 := 283) (pc' := 293) rfl (hb hby at_283) rfl ((if0 _ _).trans (teq hc233).1) (by decide) (by decide) ?_
          refine XS.iloadN X436.here hx rfl (hb hby at_293) rfl ?_
          refine XS.iconst X436.here hx rfl (hb hby at_294) ?_
          refine XS.icmpYes X436.here hx rfl (pc0 := 295) (pc' := 310) rfl (hb hby at_295) rfl (flt (by decide : ¬ ((2 : Int32) < (2 : Int32)))).2.2.2 (by decide) (by decide) ?_
          refine XS.iload X436.here hx rfl (hb hby at_310) rfl ?_
          refine XS.iload X436.here hx rfl (hb hby at_312) rfl ?_
          refine XS.iload X436.here hx rfl (hb hby at_314) rfl ?_
          refine XS.aload X436.here hx rfl (hb hby at_316) rfl rfl ?_
          refine XS.aload X436.here hx rfl (hb hby at_318) rfl rfl ?_
          refine XS.aload X436.here hx rfl (hb hby at_320) rfl rfl ?_
          exact k)
        obtain ⟨_, _, ⟨T448, L448, k448, n448⟩, -, X448, ⟨Lc448, hQ448, l448, y448, z448⟩, st448⟩ := Jvm.LawKit.callS X436 hx (y := own_y12) hown (mvT hZ hw45) (mvT hZ hw46) (mvT hZ hw47) (mvT hZ hw48) (by decide) (backOf (W := 0) (own_rm5b l Z a0 hw [] (0 : Int32) b76 b87 b109 T436.heap n0 f439 ) hZ hw48 hw47 (by decide) (by decide)) (g := (mkF m 322 #[sI p1, sJ q2, sW, sI 2, sI c0, sI c1, sI c2, sI e0_, sI e1_, sI e2_, sI again, sJ v11, sW, sR b76, sR b87, sR b109, sR b142, sI 0, sI 1, sI 0, sU, sU, sU, sU] [(.ref b109), (.ref b87), (.ref b76), (.int 0), (.int 1), (.int 0)])) rfl (by rw [hml]; rfl) (argsL := [(.int 0), (.int 1), (.int 0), (.ref b76), (.ref b87), (.ref b109)]) (rest := []) (lenOf own_pd_8 rfl) rfl (by show 2 * 0 + _ ≤ _; exact Nat.le_of_eq rfl) (hb hby at_322) (fun _ _ => ⟨rfl, rfl, (by decide : 8 + 0 ≤ _), (by decide : 53 + 0 ≤ _)⟩)
        dsimp only [Pt.U, Pt.locs, Pt.cells, Pt.slots] at X448 l448 y448 z448 st448 hQ448
        subst l448 y448 z448
        obtain ⟨rfl, N448q, eh448⟩ := hQ448
        have N448 := Fr.app N436 N448q
        have pre449 : ∀ t, own_S p e below T448 m 329 #[sI p1, sJ q2, sW, sI 2, sI c0, sI c1, sI c2, sI e0_, sI e1_, sI e2_, sI again, sJ v11, sW, sR b76, sR b87, sR b109, sR b142, sI 0, sI 1, sI 0, sR b87, sU, sU, sU] [(.ref b142)] t → R0 t := fun t k => pre447 t (by
          refine st448 _ ?_
          refine XS.astore X448.here hx rfl (hb hby at_325) rfl rfl (l' := #[sI p1, sJ q2, sW, sI 2, sI c0, sI c1, sI c2, sI e0_, sI e1_, sI e2_, sI again, sJ v11, sW, sR b76, sR b87, sR b109, sR b142, sI 0, sI 1, sI 0, sR b87, sU, sU, sU]) rfl ?_
          refine XS.aload X448.here hx rfl (hb hby at_327) rfl rfl ?_
          exact k)
        have hp450 : ¬ ((1 : Int32) = (0 : Int32)) := by decide
        have ex452 := own_QI_exa Q446
        have ex453 := own_QI_exa Q446
        obtain ⟨cq451, kq451, q451a, q451b, q451c⟩ := isOf hZ eh448 ex453
        obtain ⟨_, _, ⟨T451, L451, k451, n451⟩, -, X451, ⟨Lc451, hQ451, l451, y451, z451⟩, st451⟩ := X448.virtualBack hx (y := own_y11) (z := own_y11) hown (mvT hZ hw49) (mvT hZ hw50) (notFace_of_selects (args := #[]) (mvT hZ hw52)) (mvT hZ hw52) (mvT hZ hw51) (by decide) (backOf (W := 0) (own_rm6h0f1 l Z a0 hw [] b142 b87 .null v11 (v11 + (1 : Int64)) (0 : Int64) (2 : Int32) (1 : Int32) T436.heap n0 f439 Q446 hp450) hZ hw53 hw25 (by decide) (by decide)) q451a q451c (g := (mkF m 329 #[sI p1, sJ q2, sW, sI 2, sI c0, sI c1, sI c2, sI e0_, sI e1_, sI e2_, sI again, sJ v11, sW, sR b76, sR b87, sR b109, sR b142, sI 0, sI 1, sI 0, sR b87, sU, sU, sU] [(.ref b142)])) rfl (by rw [hml]; rfl) (Steps.refl _) (argsL := []) (rest := []) (lenOf own_pd_9 rfl) rfl (by show 2 * 0 + _ ≤ _; exact Nat.le_of_eq rfl) (hb hby at_329) (fun _ _ => ⟨rfl, eh448, (by decide : 8 + 0 ≤ _), (by decide : 53 + 0 ≤ _)⟩)
        dsimp only [Pt.U, Pt.locs, Pt.cells, Pt.slots] at X451 l451 y451 z451 st451 hQ451
        subst l451 y451 z451
        obtain ⟨rfl, N451q, Lw451, Qw451⟩ := hQ451
        have f454 := Nat.le_trans f439 Lw451.1
        have f455 := Lw451.exa f440 lne143
        have f456 := Lw451.fld f441 lne143
        have f457 := Lw451.exa f442 lne144
        have f458 := Lw451.fld f443 lne144
        have f459 := Lw451.exa f444 lne145
        have f460 := Lw451.fld f445 lne145
        have Q461 : own_QI Z T451.heap n0 b142 .null (.ref b87) .null v11 (v11 + (1 : Int64)) (0 : Int64) (1 : Int32) (2 : Int32) (1 : Int32) := Qw451
        have N451 := Fr.app N448 N451q
        have pre462 : ∀ t, own_S p e below T451 m 379 #[sI p1, sJ q2, sW, sI 2, sI c0, sI c1, sI c2, sI e0_, sI e1_, sI e2_, sI again, sJ v11, sW, sR b76, sR b87, sR b109, sR b142, sI 0, sI 1, sI 0, sR b87, sR b87, sI 1, sU] [(.ref b142)] t → R0 t := fun t k => pre449 t (by
          refine st451.trans ?_
          refine XS.astore X451.here hx rfl (hb hby at_332) rfl rfl (l' := #[sI p1, sJ q2, sW, sI 2, sI c0, sI c1, sI c2, sI e0_, sI e1_, sI e2_, sI again, sJ v11, sW, sR b76, sR b87, sR b109, sR b142, sI 0, sI 1, sI 0, sR b87, sR b87, sU, sU]) rfl ?_
          refine XS.aload X451.here hx rfl (hb hby at_334) rfl rfl ?_
          refine XS.aload X451.here hx rfl (hb hby at_336) rfl rfl ?_
          refine Jvm.RoadKit.acmp (g := (mkF m 338 #[sI p1, sJ q2, sW, sI 2, sI c0, sI c1, sI c2, sI e0_, sI e1_, sI e2_, sI again, sJ v11, sW, sR b76, sR b87, sR b109, sR b142, sI 0, sI 1, sI 0, sR b87, sR b87, sU, sU] [(.ref b87), (.ref b87)])) X451 hx rfl rfl rfl (pc0 := 338) (pc' := 343) (same := true) rfl (hb hby at_338) rfl (decide_eq_true rfl) (by decide) (by decide) ?_
          refine XS.iload X451.here hx rfl (hb hby at_343) rfl ?_
          refine XS.ifYes X451.here hx rfl (pc0 := 345) (pc' := 352) rfl (hb hby at_345) rfl ((if0 _ _).trans (teq (by decide : (0 : Int32) = (0 : Int32))).1) (by decide) (by decide) ?_
          refine XS.iconst X451.here hx rfl (hb hby at_352) ?_
          refine XS.iload X451.here hx rfl (hb hby at_353) rfl ?_
          refine XS.ifNo X451.here hx rfl (hb hby at_355) rfl ((if0 _ _).trans (feq (by decide : ¬ ((1 : Int32) = (0 : Int32)))).1) ?_
          refine XS.iconst X451.here hx rfl (hb hby at_358) ?_
          refine XS.goto X451.here hx rfl (pc0 := 359) (pc' := 363) rfl (hb hby at_359) (by decide) (by decide) ?_
          refine XS.iadd X451.here hx rfl (hb hby at_363) rfl ?_
          refine XS.iload X451.here hx rfl (hb hby at_364) rfl ?_
          refine XS.ifYes X451.here hx rfl (pc0 := 366) (pc' := 373) rfl (hb hby at_366) rfl ((if0 _ _).trans (teq (by decide : (0 : Int32) = (0 : Int32))).1) (by decide) (by decide) ?_
          refine XS.iconst X451.here hx rfl (hb hby at_373) ?_
          refine XS.iadd X451.here hx rfl (hb hby at_374) rfl ?_
          refine XS.istore X451.here hx rfl (hb hby at_375) rfl (l' := #[sI p1, sJ q2, sW, sI 2, sI c0, sI c1, sI c2, sI e0_, sI e1_, sI e2_, sI again, sJ v11, sW, sR b76, sR b87, sR b109, sR b142, sI 0, sI 1, sI 0, sR b87, sR b87, sI 1, sU]) rfl ?_
          refine XS.aload X451.here hx rfl (hb hby at_377) rfl rfl ?_
          exact k)
        have ex464 := own_QI_exa Q461
        have ex465 := own_QI_exa Q461
        obtain ⟨cq463, kq463, q463a, q463b, q463c⟩ := isOf hZ rfl ex465
        obtain ⟨_, _, ⟨T463, L463, k463, n463⟩, -, X463, ⟨Lc463, hQ463, l463, y463, z463⟩, st463⟩ := X451.virtualBack hx (y := own_y4) (z := own_y4) hown (mvT hZ hw56) (mvT hZ hw57) (notFace_of_selects (args := #[]) (mvT hZ hw59)) (mvT hZ hw59) (mvT hZ hw58) (by decide) (backOf (W := 0) (own_rm7 l Z a0 hw [] b142 .null (.ref b87) .null v11 (v11 + (1 : Int64)) (0 : Int64) (1 : Int32) (2 : Int32) (1 : Int32) T451.heap n0 f454 Q461) hZ hw60 hw25 (by decide) (by decide)) q463a q463c (g := (mkF m 379 #[sI p1, sJ q2, sW, sI 2, sI c0, sI c1, sI c2, sI e0_, sI e1_, sI e2_, sI again, sJ v11, sW, sR b76, sR b87, sR b109, sR b142, sI 0, sI 1, sI 0, sR b87, sR b87, sI 1, sU] [(.ref b142)])) rfl (by rw [hml]; rfl) (Steps.refl _) (argsL := []) (rest := []) (lenOf own_pd_10 rfl) rfl (by show 2 * 0 + _ ≤ _; exact Nat.le_of_eq rfl) (hb hby at_379) (fun _ _ => ⟨rfl, rfl, (by decide : 8 + 0 ≤ _), (by decide : 53 + 0 ≤ _)⟩)
        dsimp only [Pt.U, Pt.locs, Pt.cells, Pt.slots] at X463 l463 y463 z463 st463 hQ463
        subst l463 y463 z463
        obtain ⟨rfl, N463q, eh463⟩ := hQ463
        have N463 := Fr.app N451 N463q
        have pre466 : ∀ t, own_S p e below T463 m 391 #[sI p1, sJ q2, sW, sI 2, sI c0, sI c1, sI c2, sI e0_, sI e1_, sI e2_, sI again, sJ v11, sW, sR b76, sR b87, sR b109, sR b142, sI 0, sI 1, sI 0, sR b87, sR b87, sI 1, sU] [(.int again)] t → R0 t := fun t k => pre462 t (by
          refine st463.trans ?_
          refine XS.iload X463.here hx rfl (hb hby at_382) rfl ?_
          refine XS.icmpYes X463.here hx rfl (pc0 := 384) (pc' := 389) rfl (hb hby at_384) rfl (teq (by decide : (1 : Int32) = (1 : Int32))).1 (by decide) (by decide) ?_
          refine XS.iload X463.here hx rfl (hb hby at_389) rfl ?_
          exact k)
        by_cases hc391 : again = (0 : Int32)
        · have pre467 : ∀ t, own_S p e below T463 m 400 #[sI p1, sJ q2, sW, sI 2, sI c0, sI c1, sI c2, sI e0_, sI e1_, sI e2_, sI again, sJ v11, sW, sR b76, sR b87, sR b109, sR b142, sI 0, sI 1, sI 0, sR b87, sR b87, sI 1, sU] [(.int 1)] t → R0 t := fun t k => pre466 t (by
            refine XS.ifYes X463.here hx rfl (pc0 := 391) (pc' := 399) rfl (hb hby at_391) rfl ((if0 _ _).trans (teq hc391).1) (by decide) (by decide) ?_
            refine XS.iconst X463.here hx rfl (hb hby at_399) ?_
            exact k)
          obtain ⟨fs, hr, hrun, hended, hW, hsame⟩ := X463.leave (v := some (.int 1)) (fun h => by rw [Bd.returns] at h; cases h)
          refine ⟨_, _, cast (congrFun hR0 _) (pre467 _ (retN X463 hx (t := .boolean) Bd.returns (by simp) (hb hby at_400) hr)), hrun, hended, _, _, rfl, ?_, ⟨_, rfl⟩, hW, hsame.mono (by decide) (by decide)⟩
          show own_Q0 Z _ _ h0 n0 _ T463.heap _
          rw [eh463]
          exact ⟨rfl, N463⟩
        · have pre468 : ∀ t, own_S p e below T463 m 405 #[sI p1, sJ q2, sW, sI 2, sI c0, sI c1, sI c2, sI e0_, sI e1_, sI e2_, sI again, sJ v11, sW, sR b76, sR b87, sR b109, sR b142, sI 0, sI 1, sI 0, sR b87, sR b87, sI 1, sU] [(.ref b87), (.ref b142)] t → R0 t := fun t k => pre466 t (by
            refine XS.ifNo X463.here hx rfl (hb hby at_391) rfl ((if0 _ _).trans (feq hc391).1) ?_
            refine XS.aload X463.here hx rfl (hb hby at_394) rfl rfl ?_
            refine XS.ifnonnullYes X463.here hx rfl (pc0 := 396) (pc' := 401) rfl (hb hby at_396) rfl (by decide) (by decide) ?_
            refine XS.aload X463.here hx rfl (hb hby at_401) rfl rfl ?_
            refine XS.aload X463.here hx rfl (hb hby at_403) rfl rfl ?_
            exact k)
          have hp469 : ((1 : Int32) = (0 : Int32) ∧ (2 : Int32) = (2 : Int32)) ∨ ((1 : Int32) = (0 : Int32) ∧ (2 : Int32) = (3 : Int32)) ∨ ((1 : Int32) = (1 : Int32) ∧ (2 : Int32) = (2 : Int32)) ∨ ((1 : Int32) = (1 : Int32) ∧ (2 : Int32) = (3 : Int32)) := by decide
          have hp470 : ((1 : Int32) < (2 : Int32) → v11 < (v11 + (1 : Int64))) ∧ ((2 : Int32) < (2 : Int32) → (v11 + (1 : Int64)) < (0 : Int64)) := ⟨fun _ => hq01, fun q => absurd q (by decide)⟩
          have hp471 : b87 < b142 := lne144
          have ex473 := own_QI_exa Q461
          have ex474 := own_QI_exa Q461
          obtain ⟨cq472, kq472, q472a, q472b, q472c⟩ := isOf hZ eh463 ex474
          obtain ⟨_, _, ⟨T472, L472, k472, n472⟩, -, X472, ⟨Lc472, hQ472, l472, y472, z472⟩, st472⟩ := X463.virtualBack hx (y := own_y10) (z := own_y10) hown (mvT hZ hw82) (mvT hZ hw83) (notFace_of_selects (args := #[]) (mvT hZ hw85)) (mvT hZ hw85) (mvT hZ hw84) (by decide) (backOf (W := 0) (own_rm11j1 l Z a0 hw [] b142 b87 .null .null v11 (v11 + (1 : Int64)) (0 : Int64) (1 : Int32) (2 : Int32) (1 : Int32) T451.heap n0 f454 Q461 f457 f458 hp469 hp470 hp471) hZ hw86 hw25 (by decide) (by decide)) q472a q472c (g := (mkF m 405 #[sI p1, sJ q2, sW, sI 2, sI c0, sI c1, sI c2, sI e0_, sI e1_, sI e2_, sI again, sJ v11, sW, sR b76, sR b87, sR b109, sR b142, sI 0, sI 1, sI 0, sR b87, sR b87, sI 1, sU] [(.ref b87), (.ref b142)])) rfl (by rw [hml]; rfl) (Steps.refl _) (argsL := [(.ref b87)]) (rest := []) (lenOf own_pd_12 rfl) rfl (by show 2 * 0 + _ ≤ _; exact Nat.le_of_eq rfl) (hb hby at_405) (fun _ _ => ⟨rfl, eh463, (by decide : 8 + 0 ≤ _), (by decide : 53 + 0 ≤ _)⟩)
          dsimp only [Pt.U, Pt.locs, Pt.cells, Pt.slots] at X472 l472 y472 z472 st472 hQ472
          subst l472 y472 z472
          obtain ⟨rfl, N472q, Lw472, Qw472⟩ := hQ472
          have f475 := Nat.le_trans f454 Lw472.1
          have f476 := Lw472.exa f455 lne143
          have f477 := Lw472.fld f456 lne143
          have f478 := Lw472.exa f457 lne144
          have f479 := Lw472.fld f458 lne144
          have f480 := Lw472.exa f459 lne145
          have f481 := Lw472.fld f460 lne145
          have Q482 : own_QI Z T472.heap n0 b142 .null .null .null v11 (v11 + (1 : Int64)) (0 : Int64) (1 : Int32) (2 : Int32) (0 : Int32) := Qw472
          have N472 := Fr.app N463 N472q
          have pre483 : ∀ t, own_S p e below T472 m 449 #[sI p1, sJ q2, sW, sI 2, sI c0, sI c1, sI c2, sI e0_, sI e1_, sI e2_, sI again, sJ v11, sW, sR b76, sR b87, sR b109, sR b142, sI 0, sI 0, sI 0, sR b87, sR b87, sI 1, sU] [(.ref b109), (.ref b87), (.ref b76), (.int 0), (.int 0), (.int 0)] t → R0 t := fun t k => pre468 t (by
            refine st472.trans ?_
            refine XS.aload X472.here hx rfl (hb hby at_408) rfl rfl ?_
            refine XS.aload X472.here hx rfl (hb hby at_410) rfl rfl ?_
            refine Jvm.RoadKit.acmp (g := (mkF m 412 #[sI p1, sJ q2, sW, sI 2, sI c0, sI c1, sI c2, sI e0_, sI e1_, sI e2_, sI again, sJ v11, sW, sR b76, sR b87, sR b109, sR b142, sI 0, sI 1, sI 0, sR b87, sR b87, sI 1, sU] [(.ref b76), (.ref b87)])) X472 hx rfl rfl rfl (pc0 := 412) (pc' := 421) (same := false) rfl (hb hby at_412) rfl (decide_eq_false fun q => (Ne.symm ne88) (Value.ref.inj q)) (by decide) (by decide) ?_
            refine XS.aload X472.here hx rfl (hb hby at_421) rfl rfl ?_
            refine XS.aload X472.here hx rfl (hb hby at_423) rfl rfl ?_
            refine Jvm.RoadKit.acmp (g := (mkF m 425 #[sI p1, sJ q2, sW, sI 2, sI c0, sI c1, sI c2, sI e0_, sI e1_, sI e2_, sI again, sJ v11, sW, sR b76, sR b87, sR b109, sR b142, sI 0, sI 1, sI 0, sR b87, sR b87, sI 1, sU] [(.ref b87), (.ref b87)])) X472 hx rfl rfl rfl (pc0 := 425) (pc' := 428) (same := true) rfl (hb hby at_425) rfl (decide_eq_true rfl) (by decide) (by decide) ?_
            refine XS.iconst X472.here hx rfl (hb hby at_428) ?_
            refine XS.istore X472.here hx rfl (hb hby at_429) rfl (l' := #[sI p1, sJ q2, sW, sI 2, sI c0, sI c1, sI c2, sI e0_, sI e1_, sI e2_, sI again, sJ v11, sW, sR b76, sR b87, sR b109, sR b142, sI 0, sI 0, sI 0, sR b87, sR b87, sI 1, sU]) rfl ?_
            refine XS.goto X472.here hx rfl (pc0 := 431) (pc' := 437) rfl (hb hby at_431) (by decide) (by decide) ?_
            refine XS.iload X472.here hx rfl (hb hby at_437) rfl ?_
            refine XS.iload X472.here hx rfl (hb hby at_439) rfl ?_
            refine XS.iload X472.here hx rfl (hb hby at_441) rfl ?_
            refine XS.aload X472.here hx rfl (hb hby at_443) rfl rfl ?_
            refine XS.aload X472.here hx rfl (hb hby at_445) rfl rfl ?_
            refine XS.aload X472.here hx rfl (hb hby at_447) rfl rfl ?_
            exact k)
          obtain ⟨_, _, ⟨T484, L484, k484, n484⟩, -, X484, ⟨Lc484, hQ484, l484, y484, z484⟩, st484⟩ := Jvm.LawKit.callS X472 hx (y := own_y12) hown (mvT hZ hw45) (mvT hZ hw46) (mvT hZ hw47) (mvT hZ hw48) (by decide) (backOf (W := 0) (own_rm5d l Z a0 hw [] b76 b87 b109 T472.heap n0 f475 ) hZ hw48 hw47 (by decide) (by decide)) (g := (mkF m 449 #[sI p1, sJ q2, sW, sI 2, sI c0, sI c1, sI c2, sI e0_, sI e1_, sI e2_, sI again, sJ v11, sW, sR b76, sR b87, sR b109, sR b142, sI 0, sI 0, sI 0, sR b87, sR b87, sI 1, sU] [(.ref b109), (.ref b87), (.ref b76), (.int 0), (.int 0), (.int 0)])) rfl (by rw [hml]; rfl) (argsL := [(.int 0), (.int 0), (.int 0), (.ref b76), (.ref b87), (.ref b109)]) (rest := []) (lenOf own_pd_8 rfl) rfl (by show 2 * 0 + _ ≤ _; exact Nat.le_of_eq rfl) (hb hby at_449) (fun _ _ => ⟨rfl, rfl, (by decide : 8 + 0 ≤ _), (by decide : 53 + 0 ≤ _)⟩)
          dsimp only [Pt.U, Pt.locs, Pt.cells, Pt.slots] at X484 l484 y484 z484 st484 hQ484
          subst l484 y484 z484
          obtain ⟨rfl, N484q, eh484⟩ := hQ484
          have N484 := Fr.app N472 N484q
          have pre485 : ∀ t, own_S p e below T484 m 456 #[sI p1, sJ q2, sW, sI 2, sI c0, sI c1, sI c2, sI e0_, sI e1_, sI e2_, sI again, sJ v11, sW, sR b76, sR b87, sR b109, sR b142, sI 0, sI 0, sI 0, sR b87, sR b87, sI 1, sN] [(.ref b142)] t → R0 t := fun t k => pre483 t (by
            refine st484 _ ?_
            refine XS.astore X484.here hx rfl (hb hby at_452) rfl rfl (l' := #[sI p1, sJ q2, sW, sI 2, sI c0, sI c1, sI c2, sI e0_, sI e1_, sI e2_, sI again, sJ v11, sW, sR b76, sR b87, sR b109, sR b142, sI 0, sI 0, sI 0, sR b87, sR b87, sI 1, sN]) rfl ?_
            refine XS.aload X484.here hx rfl (hb hby at_454) rfl rfl ?_
            exact k)
          have hp486 : (0 : Int32) = (0 : Int32) := by decide
          have ex488 := own_QI_exa Q482
          have ex489 := own_QI_exa Q482
          obtain ⟨cq487, kq487, q487a, q487b, q487c⟩ := isOf hZ eh484 ex489
          obtain ⟨_, _, ⟨T487, L487, k487, n487⟩, -, X487, ⟨Lc487, hQ487, l487, y487, z487⟩, st487⟩ := X484.virtualBack hx (y := own_y11) (z := own_y11) hown (mvT hZ hw49) (mvT hZ hw50) (notFace_of_selects (args := #[]) (mvT hZ hw52)) (mvT hZ hw52) (mvT hZ hw51) (by decide) (backOf (W := 0) (own_rm6z l Z a0 hw [] b142 .null .null .null v11 (v11 + (1 : Int64)) (0 : Int64) (1 : Int32) (2 : Int32) (0 : Int32) T472.heap n0 f475 Q482 hp486) hZ hw53 hw25 (by decide) (by decide)) q487a q487c (g := (mkF m 456 #[sI p1, sJ q2, sW, sI 2, sI c0, sI c1, sI c2, sI e0_, sI e1_, sI e2_, sI again, sJ v11, sW, sR b76, sR b87, sR b109, sR b142, sI 0, sI 0, sI 0, sR b87, sR b87, sI 1, sN] [(.ref b142)])) rfl (by rw [hml]; rfl) (Steps.refl _) (argsL := []) (rest := []) (lenOf own_pd_9 rfl) rfl (by show 2 * 0 + _ ≤ _; exact Nat.le_of_eq rfl) (hb hby at_456) (fun _ _ => ⟨rfl, eh484, (by decide : 8 + 0 ≤ _), (by decide : 53 + 0 ≤ _)⟩)
          dsimp only [Pt.U, Pt.locs, Pt.cells, Pt.slots] at X487 l487 y487 z487 st487 hQ487
          subst l487 y487 z487
          obtain ⟨rfl, N487q, eh487⟩ := hQ487
          have N487 := Fr.app N484 N487q
          have pre490 : ∀ t, own_S p e below T487 m 469 #[sI p1, sJ q2, sW, sI 2, sI c0, sI c1, sI c2, sI e0_, sI e1_, sI e2_, sI again, sJ v11, sW, sR b76, sR b87, sR b109, sR b142, sI 0, sI 0, sI 0, sR b87, sR b87, sI 1, sN] [(.int 1)] t → R0 t := fun t k => pre485 t (by
            refine st487.trans ?_
            refine XS.aload X487.here hx rfl (hb hby at_459) rfl rfl ?_
            refine Jvm.RoadKit.acmp (g := (mkF m 461 #[sI p1, sJ q2, sW, sI 2, sI c0, sI c1, sI c2, sI e0_, sI e1_, sI e2_, sI again, sJ v11, sW, sR b76, sR b87, sR b109, sR b142, sI 0, sI 0, sI 0, sR b87, sR b87, sI 1, sN] [.null, .null])) X487 hx rfl rfl rfl (pc0 := 461) (pc' := 464) (same := true) rfl (hb hby at_461) rfl (decide_eq_true rfl) (by decide) (by decide) ?_
            refine XS.iconst X487.here hx rfl (hb hby at_464) ?_
            refine XS.goto X487.here hx rfl (pc0 := 465) (pc' := 469) rfl (hb hby at_465) (by decide) (by decide) ?_
            exact k)
          obtain ⟨fs, hr, hrun, hended, hW, hsame⟩ := X487.leave (v := some (.int 1)) (fun h => by rw [Bd.returns] at h; cases h)
          refine ⟨_, _, cast (congrFun hR0 _) (pre490 _ (retN X487 hx (t := .boolean) Bd.returns (by simp) (hb hby at_469) hr)), hrun, hended, _, _, rfl, ?_, ⟨_, rfl⟩, hW, hsame.mono (by decide) (by decide)⟩
          show own_Q0 Z _ _ h0 n0 _ T487.heap _
          rw [eh487]
          exact ⟨rfl, N487⟩
      · have pre491 : ∀ t, own_S p e below T307 m 273 #[sI p1, sJ q2, sW, sI 2, sI c0, sI c1, sI c2, sI e0_, sI e1_, sI e2_, sI again, sJ v11, sW, sR b76, sR b87, sR b109, sR b142, sI 0, sI 0, sI 0, sU, sU, sU, sU] [(.ref b76), (.ref b142)] t → R0 t := fun t k => pre431 t (by
          refine XS.ifYes X307.here hx rfl (pc0 := 233) (pc' := 240) rfl (hb hby at_233) rfl ((if0 _ _).trans (feq hc233).2) (by decide) (by decide) ?_
          refine XS.iconst X307.here hx rfl (hb hby at_240) ?_
          refine XS.istore X307.here hx rfl (hb hby at_241) rfl (l' := #[sI p1, sJ q2, sW, sI 2, sI c0, sI c1, sI c2, sI e0_, sI e1_, sI e2_, sI again, sJ v11, sW, sR b76, sR b87, sR b109, sR b142, sI 0, sI 0, sU, sU, sU, sU, sU]) rfl ?_
          refine XS.iloadN X307.here hx rfl (hb hby at_243) rfl ?_
          refine XS.iconst X307.here hx rfl (hb hby at_244) ?_
          refine XS.icmpYes X307.here hx rfl (pc0 := 245) (pc' := 257) rfl (hb hby at_245) rfl (flt (by decide : ¬ ((2 : Int32) < (2 : Int32)))).2.2.2 (by decide) (by decide) ?_
          refine XS.iconst X307.here hx rfl (hb hby at_257) ?_
          refine XS.istore X307.here hx rfl (hb hby at_258) rfl (l' := #[sI p1, sJ q2, sW, sI 2, sI c0, sI c1, sI c2, sI e0_, sI e1_, sI e2_, sI again, sJ v11, sW, sR b76, sR b87, sR b109, sR b142, sI 0, sI 0, sI 0, sU, sU, sU, sU]) rfl ?_
          refine XS.iloadN X307.here hx rfl (hb hby at_260) rfl ?_
          refine XS.ifNo X307.here hx rfl (hb hby at_261) rfl ((if0 _ _).trans (tlt (by decide : (0 : Int32) < (2 : Int32))).2.2.2) ?_
          refine XS.iload X307.here hx rfl (hb hby at_264) rfl ?_
          refine XS.ifNo X307.here hx rfl (hb hby at_266) rfl ((if0 _ _).trans (feq hc216).1) ?_
          refine XS.aload X307.here hx rfl (hb hby at_269) rfl rfl ?_
          refine XS.aload X307.here hx rfl (hb hby at_271) rfl rfl ?_
          exact k)
        have hp492 : ((0 : Int32) = (0 : Int32) ∧ (2 : Int32) = (1 : Int32)) ∨ ((0 : Int32) = (0 : Int32) ∧ (2 : Int32) = (2 : Int32)) ∨ ((0 : Int32) = (0 : Int32) ∧ (2 : Int32) = (3 : Int32)) := by decide
        have hp493 : ((1 : Int32) < (2 : Int32) → v11 < (v11 + (1 : Int64))) ∧ ((2 : Int32) < (2 : Int32) → (v11 + (1 : Int64)) < (0 : Int64)) := ⟨fun _ => hq01, fun q => absurd q (by decide)⟩
        have hp494 : b76 < b142 := lne143
        have ex496 := own_QI_exa Q317
        have ex497 := own_QI_exa Q317
        obtain ⟨cq495, kq495, q495a, q495b, q495c⟩ := isOf hZ rfl ex497
        obtain ⟨_, _, ⟨T495, L495, k495, n495⟩, -, X495, ⟨Lc495, hQ495, l495, y495, z495⟩, st495⟩ := X307.virtualBack hx (y := own_y10) (z := own_y10) hown (mvT hZ hw82) (mvT hZ hw83) (notFace_of_selects (args := #[]) (mvT hZ hw85)) (mvT hZ hw85) (mvT hZ hw84) (by decide) (backOf (W := 0) (own_rm11j0 l Z a0 hw [] b142 b76 (.ref b87) .null v11 (v11 + (1 : Int64)) (0 : Int64) (0 : Int32) (2 : Int32) (2 : Int32) T307.heap n0 f310 Q317 f311 f312 hp492 hp493 hp494) hZ hw86 hw25 (by decide) (by decide)) q495a q495c (g := (mkF m 273 #[sI p1, sJ q2, sW, sI 2, sI c0, sI c1, sI c2, sI e0_, sI e1_, sI e2_, sI again, sJ v11, sW, sR b76, sR b87, sR b109, sR b142, sI 0, sI 0, sI 0, sU, sU, sU, sU] [(.ref b76), (.ref b142)])) rfl (by rw [hml]; rfl) (Steps.refl _) (argsL := [(.ref b76)]) (rest := []) (lenOf own_pd_12 rfl) rfl (by show 2 * 0 + _ ≤ _; exact Nat.le_of_eq rfl) (hb hby at_273) (fun _ _ => ⟨rfl, rfl, (by decide : 8 + 0 ≤ _), (by decide : 53 + 0 ≤ _)⟩)
        dsimp only [Pt.U, Pt.locs, Pt.cells, Pt.slots] at X495 l495 y495 z495 st495 hQ495
        subst l495 y495 z495
        obtain ⟨rfl, N495q, Lw495, Qw495⟩ := hQ495
        have f498 := Nat.le_trans f310 Lw495.1
        have f499 := Lw495.exa f311 lne143
        have f500 := Lw495.fld f312 lne143
        have f501 := Lw495.exa f313 lne144
        have f502 := Lw495.fld f314 lne144
        have f503 := Lw495.exa f315 lne145
        have f504 := Lw495.fld f316 lne145
        have Q505 : own_QI Z T495.heap n0 b142 .null (.ref b87) .null v11 (v11 + (1 : Int64)) (0 : Int64) (0 : Int32) (2 : Int32) (1 : Int32) := Qw495
        have N495 := Fr.app N307 N495q
        have pre506 : ∀ t, own_S p e below T495 m 290 #[sI p1, sJ q2, sW, sI 2, sI c0, sI c1, sI c2, sI e0_, sI e1_, sI e2_, sI again, sJ v11, sW, sR b76, sR b87, sR b109, sR b142, sI 0, sI 0, sI 0, sU, sU, sU, sU] [(.ref b87), (.ref b142)] t → R0 t := fun t k => pre491 t (by
          refine st495.trans ?_
          refine XS.iloadN X495.here hx rfl (hb hby at_276) rfl ?_
          refine XS.iconst X495.here hx rfl (hb hby at_277) ?_
          refine XS.icmpNo X495.here hx rfl (hb hby at_278) rfl (tlt (by decide : (1 : Int32) < (2 : Int32))).2.2.2 ?_
          refine XS.iload X495.here hx rfl (hb hby at_281) rfl ?_
          refine XS.ifNo X495.here hx rfl (hb hby at_283) rfl ((if0 _ _).trans (feq hc233).1) ?_
          refine XS.aload X495.here hx rfl (hb hby at_286) rfl rfl ?_
          refine XS.aload X495.here hx rfl (hb hby at_288) rfl rfl ?_
          exact k)
        have hp507 : ((0 : Int32) = (0 : Int32) ∧ (2 : Int32) = (2 : Int32)) ∨ ((0 : Int32) = (0 : Int32) ∧ (2 : Int32) = (3 : Int32)) ∨ ((0 : Int32) = (1 : Int32) ∧ (2 : Int32) = (2 : Int32)) ∨ ((0 : Int32) = (1 : Int32) ∧ (2 : Int32) = (3 : Int32)) := by decide
        have hp508 : ((1 : Int32) < (2 : Int32) → v11 < (v11 + (1 : Int64))) ∧ ((2 : Int32) < (2 : Int32) → (v11 + (1 : Int64)) < (0 : Int64)) := ⟨fun _ => hq01, fun q => absurd q (by decide)⟩
        have hp509 : b87 < b142 := lne144
        have ex511 := own_QI_exa Q505
        have ex512 := own_QI_exa Q505
        obtain ⟨cq510, kq510, q510a, q510b, q510c⟩ := isOf hZ rfl ex512
        obtain ⟨_, _, ⟨T510, L510, k510, n510⟩, -, X510, ⟨Lc510, hQ510, l510, y510, z510⟩, st510⟩ := X495.virtualBack hx (y := own_y10) (z := own_y10) hown (mvT hZ hw82) (mvT hZ hw83) (notFace_of_selects (args := #[]) (mvT hZ hw85)) (mvT hZ hw85) (mvT hZ hw84) (by decide) (backOf (W := 0) (own_rm11j1 l Z a0 hw [] b142 b87 .null .null v11 (v11 + (1 : Int64)) (0 : Int64) (0 : Int32) (2 : Int32) (1 : Int32) T495.heap n0 f498 Q505 f501 f502 hp507 hp508 hp509) hZ hw86 hw25 (by decide) (by decide)) q510a q510c (g := (mkF m 290 #[sI p1, sJ q2, sW, sI 2, sI c0, sI c1, sI c2, sI e0_, sI e1_, sI e2_, sI again, sJ v11, sW, sR b76, sR b87, sR b109, sR b142, sI 0, sI 0, sI 0, sU, sU, sU, sU] [(.ref b87), (.ref b142)])) rfl (by rw [hml]; rfl) (Steps.refl _) (argsL := [(.ref b87)]) (rest := []) (lenOf own_pd_12 rfl) rfl (by show 2 * 0 + _ ≤ _; exact Nat.le_of_eq rfl) (hb hby at_290) (fun _ _ => ⟨rfl, rfl, (by decide : 8 + 0 ≤ _), (by decide : 53 + 0 ≤ _)⟩)
        dsimp only [Pt.U, Pt.locs, Pt.cells, Pt.slots] at X510 l510 y510 z510 st510 hQ510
        subst l510 y510 z510
        obtain ⟨rfl, N510q, Lw510, Qw510⟩ := hQ510
        have f513 := Nat.le_trans f498 Lw510.1
        have f514 := Lw510.exa f499 lne143
        have f515 := Lw510.fld f500 lne143
        have f516 := Lw510.exa f501 lne144
        have f517 := Lw510.fld f502 lne144
        have f518 := Lw510.exa f503 lne145
        have f519 := Lw510.fld f504 lne145
        have Q520 : own_QI Z T510.heap n0 b142 .null .null .null v11 (v11 + (1 : Int64)) (0 : Int64) (0 : Int32) (2 : Int32) (0 : Int32) := Qw510
        have N510 := Fr.app N495 N510q
        have pre521 : ∀ t, own_S p e below T510 m 322 #[sI p1, sJ q2, sW, sI 2, sI c0, sI c1, sI c2, sI e0_, sI e1_, sI e2_, sI again, sJ v11, sW, sR b76, sR b87, sR b109, sR b142, sI 0, sI 0, sI 0, sU, sU, sU, sU] [(.ref b109), (.ref b87), (.ref b76), (.int 0), (.int 0), (.int 0)] t → R0 t := fun t k => pre506 t (by
          refine st510.trans ?_
          refine XS.iloadN X510.here hx rfl (hb hby at_293) rfl ?_
          refine XS.iconst X510.here hx rfl (hb hby at_294) ?_
          refine XS.icmpYes X510.here hx rfl (pc0 := 295) (pc' := 310) rfl (hb hby at_295) rfl (flt (by decide : ¬ ((2 : Int32) < (2 : Int32)))).2.2.2 (by decide) (by decide) ?_
          refine XS.iload X510.here hx rfl (hb hby at_310) rfl ?_
          refine XS.iload X510.here hx rfl (hb hby at_312) rfl ?_
          refine XS.iload X510.here hx rfl (hb hby at_314) rfl ?_
          refine XS.aload X510.here hx rfl (hb hby at_316) rfl rfl ?_
          refine XS.aload X510.here hx rfl (hb hby at_318) rfl rfl ?_
          refine XS.aload X510.here hx rfl (hb hby at_320) rfl rfl ?_
          exact k)
        obtain ⟨_, _, ⟨T522, L522, k522, n522⟩, -, X522, ⟨Lc522, hQ522, l522, y522, z522⟩, st522⟩ := Jvm.LawKit.callS X510 hx (y := own_y12) hown (mvT hZ hw45) (mvT hZ hw46) (mvT hZ hw47) (mvT hZ hw48) (by decide) (backOf (W := 0) (own_rm5d l Z a0 hw [] b76 b87 b109 T510.heap n0 f513 ) hZ hw48 hw47 (by decide) (by decide)) (g := (mkF m 322 #[sI p1, sJ q2, sW, sI 2, sI c0, sI c1, sI c2, sI e0_, sI e1_, sI e2_, sI again, sJ v11, sW, sR b76, sR b87, sR b109, sR b142, sI 0, sI 0, sI 0, sU, sU, sU, sU] [(.ref b109), (.ref b87), (.ref b76), (.int 0), (.int 0), (.int 0)])) rfl (by rw [hml]; rfl) (argsL := [(.int 0), (.int 0), (.int 0), (.ref b76), (.ref b87), (.ref b109)]) (rest := []) (lenOf own_pd_8 rfl) rfl (by show 2 * 0 + _ ≤ _; exact Nat.le_of_eq rfl) (hb hby at_322) (fun _ _ => ⟨rfl, rfl, (by decide : 8 + 0 ≤ _), (by decide : 53 + 0 ≤ _)⟩)
        dsimp only [Pt.U, Pt.locs, Pt.cells, Pt.slots] at X522 l522 y522 z522 st522 hQ522
        subst l522 y522 z522
        obtain ⟨rfl, N522q, eh522⟩ := hQ522
        have N522 := Fr.app N510 N522q
        have pre523 : ∀ t, own_S p e below T522 m 329 #[sI p1, sJ q2, sW, sI 2, sI c0, sI c1, sI c2, sI e0_, sI e1_, sI e2_, sI again, sJ v11, sW, sR b76, sR b87, sR b109, sR b142, sI 0, sI 0, sI 0, sN, sU, sU, sU] [(.ref b142)] t → R0 t := fun t k => pre521 t (by
          refine st522 _ ?_
          refine XS.astore X522.here hx rfl (hb hby at_325) rfl rfl (l' := #[sI p1, sJ q2, sW, sI 2, sI c0, sI c1, sI c2, sI e0_, sI e1_, sI e2_, sI again, sJ v11, sW, sR b76, sR b87, sR b109, sR b142, sI 0, sI 0, sI 0, sN, sU, sU, sU]) rfl ?_
          refine XS.aload X522.here hx rfl (hb hby at_327) rfl rfl ?_
          exact k)
        have hp524 : (0 : Int32) = (0 : Int32) := by decide
        have ex526 := own_QI_exa Q520
        have ex527 := own_QI_exa Q520
        obtain ⟨cq525, kq525, q525a, q525b, q525c⟩ := isOf hZ eh522 ex527
        obtain ⟨_, _, ⟨T525, L525, k525, n525⟩, -, X525, ⟨Lc525, hQ525, l525, y525, z525⟩, st525⟩ := X522.virtualBack hx (y := own_y11) (z := own_y11) hown (mvT hZ hw49) (mvT hZ hw50) (notFace_of_selects (args := #[]) (mvT hZ hw52)) (mvT hZ hw52) (mvT hZ hw51) (by decide) (backOf (W := 0) (own_rm6z l Z a0 hw [] b142 .null .null .null v11 (v11 + (1 : Int64)) (0 : Int64) (0 : Int32) (2 : Int32) (0 : Int32) T510.heap n0 f513 Q520 hp524) hZ hw53 hw25 (by decide) (by decide)) q525a q525c (g := (mkF m 329 #[sI p1, sJ q2, sW, sI 2, sI c0, sI c1, sI c2, sI e0_, sI e1_, sI e2_, sI again, sJ v11, sW, sR b76, sR b87, sR b109, sR b142, sI 0, sI 0, sI 0, sN, sU, sU, sU] [(.ref b142)])) rfl (by rw [hml]; rfl) (Steps.refl _) (argsL := []) (rest := []) (lenOf own_pd_9 rfl) rfl (by show 2 * 0 + _ ≤ _; exact Nat.le_of_eq rfl) (hb hby at_329) (fun _ _ => ⟨rfl, eh522, (by decide : 8 + 0 ≤ _), (by decide : 53 + 0 ≤ _)⟩)
        dsimp only [Pt.U, Pt.locs, Pt.cells, Pt.slots] at X525 l525 y525 z525 st525 hQ525
        subst l525 y525 z525
        obtain ⟨rfl, N525q, eh525⟩ := hQ525
        have N525 := Fr.app N522 N525q
        have pre528 : ∀ t, own_S p e below T525 m 379 #[sI p1, sJ q2, sW, sI 2, sI c0, sI c1, sI c2, sI e0_, sI e1_, sI e2_, sI again, sJ v11, sW, sR b76, sR b87, sR b109, sR b142, sI 0, sI 0, sI 0, sN, sN, sI 0, sU] [(.ref b142)] t → R0 t := fun t k => pre523 t (by
          refine st525.trans ?_
          refine XS.astore X525.here hx rfl (hb hby at_332) rfl rfl (l' := #[sI p1, sJ q2, sW, sI 2, sI c0, sI c1, sI c2, sI e0_, sI e1_, sI e2_, sI again, sJ v11, sW, sR b76, sR b87, sR b109, sR b142, sI 0, sI 0, sI 0, sN, sN, sU, sU]) rfl ?_
          refine XS.aload X525.here hx rfl (hb hby at_334) rfl rfl ?_
          refine XS.aload X525.here hx rfl (hb hby at_336) rfl rfl ?_
          refine Jvm.RoadKit.acmp (g := (mkF m 338 #[sI p1, sJ q2, sW, sI 2, sI c0, sI c1, sI c2, sI e0_, sI e1_, sI e2_, sI again, sJ v11, sW, sR b76, sR b87, sR b109, sR b142, sI 0, sI 0, sI 0, sN, sN, sU, sU] [.null, .null])) X525 hx rfl rfl rfl (pc0 := 338) (pc' := 343) (same := true) rfl (hb hby at_338) rfl (decide_eq_true rfl) (by decide) (by decide) ?_
          refine XS.iload X525.here hx rfl (hb hby at_343) rfl ?_
          refine XS.ifYes X525.here hx rfl (pc0 := 345) (pc' := 352) rfl (hb hby at_345) rfl ((if0 _ _).trans (teq (by decide : (0 : Int32) = (0 : Int32))).1) (by decide) (by decide) ?_
          refine XS.iconst X525.here hx rfl (hb hby at_352) ?_
          refine XS.iload X525.here hx rfl (hb hby at_353) rfl ?_
          refine XS.ifYes X525.here hx rfl (pc0 := 355) (pc' := 362) rfl (hb hby at_355) rfl ((if0 _ _).trans (teq (by decide : (0 : Int32) = (0 : Int32))).1) (by decide) (by decide) ?_
          refine XS.iconst X525.here hx rfl (hb hby at_362) ?_
          refine XS.iadd X525.here hx rfl (hb hby at_363) rfl ?_
          refine XS.iload X525.here hx rfl (hb hby at_364) rfl ?_
          refine XS.ifYes X525.here hx rfl (pc0 := 366) (pc' := 373) rfl (hb hby at_366) rfl ((if0 _ _).trans (teq (by decide : (0 : Int32) = (0 : Int32))).1) (by decide) (by decide) ?_
          refine XS.iconst X525.here hx rfl (hb hby at_373) ?_
          refine XS.iadd X525.here hx rfl (hb hby at_374) rfl ?_
          refine XS.istore X525.here hx rfl (hb hby at_375) rfl (l' := #[sI p1, sJ q2, sW, sI 2, sI c0, sI c1, sI c2, sI e0_, sI e1_, sI e2_, sI again, sJ v11, sW, sR b76, sR b87, sR b109, sR b142, sI 0, sI 0, sI 0, sN, sN, sI 0, sU]) rfl ?_
          refine XS.aload X525.here hx rfl (hb hby at_377) rfl rfl ?_
          exact k)
        have ex530 := own_QI_exa Q520
        have ex531 := own_QI_exa Q520
        obtain ⟨cq529, kq529, q529a, q529b, q529c⟩ := isOf hZ eh525 ex531
        obtain ⟨_, _, ⟨T529, L529, k529, n529⟩, -, X529, ⟨Lc529, hQ529, l529, y529, z529⟩, st529⟩ := X525.virtualBack hx (y := own_y4) (z := own_y4) hown (mvT hZ hw56) (mvT hZ hw57) (notFace_of_selects (args := #[]) (mvT hZ hw59)) (mvT hZ hw59) (mvT hZ hw58) (by decide) (backOf (W := 0) (own_rm7 l Z a0 hw [] b142 .null .null .null v11 (v11 + (1 : Int64)) (0 : Int64) (0 : Int32) (2 : Int32) (0 : Int32) T510.heap n0 f513 Q520) hZ hw60 hw25 (by decide) (by decide)) q529a q529c (g := (mkF m 379 #[sI p1, sJ q2, sW, sI 2, sI c0, sI c1, sI c2, sI e0_, sI e1_, sI e2_, sI again, sJ v11, sW, sR b76, sR b87, sR b109, sR b142, sI 0, sI 0, sI 0, sN, sN, sI 0, sU] [(.ref b142)])) rfl (by rw [hml]; rfl) (Steps.refl _) (argsL := []) (rest := []) (lenOf own_pd_10 rfl) rfl (by show 2 * 0 + _ ≤ _; exact Nat.le_of_eq rfl) (hb hby at_379) (fun _ _ => ⟨rfl, eh525, (by decide : 8 + 0 ≤ _), (by decide : 53 + 0 ≤ _)⟩)
        dsimp only [Pt.U, Pt.locs, Pt.cells, Pt.slots] at X529 l529 y529 z529 st529 hQ529
        subst l529 y529 z529
        obtain ⟨rfl, N529q, eh529⟩ := hQ529
        have N529 := Fr.app N525 N529q
        have pre532 : ∀ t, own_S p e below T529 m 391 #[sI p1, sJ q2, sW, sI 2, sI c0, sI c1, sI c2, sI e0_, sI e1_, sI e2_, sI again, sJ v11, sW, sR b76, sR b87, sR b109, sR b142, sI 0, sI 0, sI 0, sN, sN, sI 0, sU] [(.int again)] t → R0 t := fun t k => pre528 t (by
          refine st529.trans ?_
          refine XS.iload X529.here hx rfl (hb hby at_382) rfl ?_
          refine XS.icmpYes X529.here hx rfl (pc0 := 384) (pc' := 389) rfl (hb hby at_384) rfl (teq (by decide : (0 : Int32) = (0 : Int32))).1 (by decide) (by decide) ?_
          refine XS.iload X529.here hx rfl (hb hby at_389) rfl ?_
          exact k)
        by_cases hc391 : again = (0 : Int32)
        · have pre533 : ∀ t, own_S p e below T529 m 400 #[sI p1, sJ q2, sW, sI 2, sI c0, sI c1, sI c2, sI e0_, sI e1_, sI e2_, sI again, sJ v11, sW, sR b76, sR b87, sR b109, sR b142, sI 0, sI 0, sI 0, sN, sN, sI 0, sU] [(.int 1)] t → R0 t := fun t k => pre532 t (by
            refine XS.ifYes X529.here hx rfl (pc0 := 391) (pc' := 399) rfl (hb hby at_391) rfl ((if0 _ _).trans (teq hc391).1) (by decide) (by decide) ?_
            refine XS.iconst X529.here hx rfl (hb hby at_399) ?_
            exact k)
          obtain ⟨fs, hr, hrun, hended, hW, hsame⟩ := X529.leave (v := some (.int 1)) (fun h => by rw [Bd.returns] at h; cases h)
          refine ⟨_, _, cast (congrFun hR0 _) (pre533 _ (retN X529 hx (t := .boolean) Bd.returns (by simp) (hb hby at_400) hr)), hrun, hended, _, _, rfl, ?_, ⟨_, rfl⟩, hW, hsame.mono (by decide) (by decide)⟩
          show own_Q0 Z _ _ h0 n0 _ T529.heap _
          rw [eh529]
          exact ⟨rfl, N529⟩
        · have pre534 : ∀ t, own_S p e below T529 m 400 #[sI p1, sJ q2, sW, sI 2, sI c0, sI c1, sI c2, sI e0_, sI e1_, sI e2_, sI again, sJ v11, sW, sR b76, sR b87, sR b109, sR b142, sI 0, sI 0, sI 0, sN, sN, sI 0, sU] [(.int 1)] t → R0 t := fun t k => pre532 t (by
            refine XS.ifNo X529.here hx rfl (hb hby at_391) rfl ((if0 _ _).trans (feq hc391).1) ?_
            refine XS.aload X529.here hx rfl (hb hby at_394) rfl rfl ?_
            refine XS.ifnonnullNo X529.here hx rfl (hb hby at_396) rfl ?_
            refine XS.iconst X529.here hx rfl (hb hby at_399) ?_
            exact k)
          obtain ⟨fs, hr, hrun, hended, hW, hsame⟩ := X529.leave (v := some (.int 1)) (fun h => by rw [Bd.returns] at h; cases h)
          refine ⟨_, _, cast (congrFun hR0 _) (pre534 _ (retN X529 hx (t := .boolean) Bd.returns (by simp) (hb hby at_400) hr)), hrun, hended, _, _, rfl, ?_, ⟨_, rfl⟩, hW, hsame.mono (by decide) (by decide)⟩
          show own_Q0 Z _ _ h0 n0 _ T529.heap _
          rw [eh529]
          exact ⟨rfl, N529⟩
  · have pre535 : ∀ t, own_S p e below T172 m 179 #[sI p1, sJ q2, sW, sI 3, sI c0, sI c1, sI c2, sI e0_, sI e1_, sI e2_, sI again, sJ v11, sW, sR b76, sR b87, sR b109, sR b142, sU, sU, sU, sU, sU, sU, sU] [(.int c0), (.ref b76), (.ref b142)] t → R0 t := fun t k => pre190 t (by
      refine XS.iloadN X172.here hx rfl (hb hby at_169) rfl ?_
      refine XS.ifNo X172.here hx rfl (hb hby at_170) rfl ((if0 _ _).trans (tlt (by decide : (0 : Int32) < (3 : Int32))).2.2.2) ?_
      refine XS.aload X172.here hx rfl (hb hby at_173) rfl rfl ?_
      refine XS.aload X172.here hx rfl (hb hby at_175) rfl rfl ?_
      refine XS.iload X172.here hx rfl (hb hby at_177) rfl ?_
      exact k)
    have hp536 : b76 < b142 := lne143
    have ex538 := own_QI_exa Q189
    have ex539 := own_QI_exa Q189
    obtain ⟨cq537, kq537, q537a, q537b, q537c⟩ := isOf hZ rfl ex539
    obtain ⟨_, _, ⟨T537, L537, k537, n537⟩, -, X537, ⟨Lc537, hQ537, l537, y537, z537⟩, st537⟩ := X172.virtualBack hx (y := own_y6) (z := own_y6) hown (mvT hZ hw61) (mvT hZ hw62) (notFace_of_selects (args := #[]) (mvT hZ hw64)) (mvT hZ hw64) (mvT hZ hw63) (by decide) (backOf (W := 0) (own_rm8t0 l Z a0 hw [] b142 b76 c0 .null .null .null (0 : Int64) (0 : Int64) (0 : Int64) (0 : Int32) (0 : Int32) v11 T172.heap n0 f173 Q189 f174 f178 hp536) hZ hw65 hw25 (by decide) (by decide)) q537a q537c (g := (mkF m 179 #[sI p1, sJ q2, sW, sI 3, sI c0, sI c1, sI c2, sI e0_, sI e1_, sI e2_, sI again, sJ v11, sW, sR b76, sR b87, sR b109, sR b142, sU, sU, sU, sU, sU, sU, sU] [(.int c0), (.ref b76), (.ref b142)])) rfl (by rw [hml]; rfl) (Steps.refl _) (argsL := [(.ref b76), (.int c0)]) (rest := []) (lenOf own_pd_11 rfl) rfl (by show 2 * 0 + _ ≤ _; exact Nat.le_of_eq rfl) (hb hby at_179) (fun _ _ => ⟨rfl, rfl, (by decide : 8 + 0 ≤ _), (by decide : 53 + 0 ≤ _)⟩)
    dsimp only [Pt.U, Pt.locs, Pt.cells, Pt.slots] at X537 l537 y537 z537 st537 hQ537
    subst l537 y537 z537
    obtain ⟨rfl, N537q, Lw537, Qw537⟩ := hQ537
    have f540 := Nat.le_trans f173 Lw537.1
    have f541 := Lw537.exa f174 lne143
    have f542 := Lw537.fld f178 lne143
    have f543 := Lw537.exa f179 lne144
    have f544 := Lw537.fld f183 lne144
    have f545 := Lw537.exa f184 lne145
    have f546 := Lw537.fld f188 lne145
    have Q547 : own_QI Z T537.heap n0 b142 (.ref b76) .null .null v11 (0 : Int64) (0 : Int64) (0 : Int32) (1 : Int32) (1 : Int32) := Qw537
    have N537 := Fr.app N172 N537q
    have pre548 : ∀ t, own_S p e below T537 m 193 #[sI p1, sJ q2, sW, sI 3, sI c0, sI c1, sI c2, sI e0_, sI e1_, sI e2_, sI again, sJ v11, sW, sR b76, sR b87, sR b109, sR b142, sU, sU, sU, sU, sU, sU, sU] [(.int c1), (.ref b87), (.ref b142)] t → R0 t := fun t k => pre535 t (by
      refine st537.trans ?_
      refine XS.iloadN X537.here hx rfl (hb hby at_182) rfl ?_
      refine XS.iconst X537.here hx rfl (hb hby at_183) ?_
      refine XS.icmpNo X537.here hx rfl (hb hby at_184) rfl (tlt (by decide : (1 : Int32) < (3 : Int32))).2.2.2 ?_
      refine XS.aload X537.here hx rfl (hb hby at_187) rfl rfl ?_
      refine XS.aload X537.here hx rfl (hb hby at_189) rfl rfl ?_
      refine XS.iload X537.here hx rfl (hb hby at_191) rfl ?_
      exact k)
    have hp549 : b87 < b142 := lne144
    have ex551 := own_QI_exa Q547
    have ex552 := own_QI_exa Q547
    obtain ⟨cq550, kq550, q550a, q550b, q550c⟩ := isOf hZ rfl ex552
    obtain ⟨_, _, ⟨T550, L550, k550, n550⟩, -, X550, ⟨Lc550, hQ550, l550, y550, z550⟩, st550⟩ := X537.virtualBack hx (y := own_y6) (z := own_y6) hown (mvT hZ hw61) (mvT hZ hw62) (notFace_of_selects (args := #[]) (mvT hZ hw64)) (mvT hZ hw64) (mvT hZ hw63) (by decide) (backOf (W := 0) (own_rm8t1 l Z a0 hw [] b142 b87 c1 (.ref b76) .null .null v11 (0 : Int64) (0 : Int64) (0 : Int32) (1 : Int32) (v11 + (1 : Int64)) T537.heap n0 f540 Q547 f543 f544 hp549) hZ hw65 hw25 (by decide) (by decide)) q550a q550c (g := (mkF m 193 #[sI p1, sJ q2, sW, sI 3, sI c0, sI c1, sI c2, sI e0_, sI e1_, sI e2_, sI again, sJ v11, sW, sR b76, sR b87, sR b109, sR b142, sU, sU, sU, sU, sU, sU, sU] [(.int c1), (.ref b87), (.ref b142)])) rfl (by rw [hml]; rfl) (Steps.refl _) (argsL := [(.ref b87), (.int c1)]) (rest := []) (lenOf own_pd_11 rfl) rfl (by show 2 * 0 + _ ≤ _; exact Nat.le_of_eq rfl) (hb hby at_193) (fun _ _ => ⟨rfl, rfl, (by decide : 8 + 0 ≤ _), (by decide : 53 + 0 ≤ _)⟩)
    dsimp only [Pt.U, Pt.locs, Pt.cells, Pt.slots] at X550 l550 y550 z550 st550 hQ550
    subst l550 y550 z550
    obtain ⟨rfl, N550q, Lw550, Qw550⟩ := hQ550
    have f553 := Nat.le_trans f540 Lw550.1
    have f554 := Lw550.exa f541 lne143
    have f555 := Lw550.fld f542 lne143
    have f556 := Lw550.exa f543 lne144
    have f557 := Lw550.fld f544 lne144
    have f558 := Lw550.exa f545 lne145
    have f559 := Lw550.fld f546 lne145
    have Q560 : own_QI Z T550.heap n0 b142 (.ref b76) (.ref b87) .null v11 (v11 + (1 : Int64)) (0 : Int64) (0 : Int32) (2 : Int32) (2 : Int32) := Qw550
    have N550 := Fr.app N537 N550q
    have pre561 : ∀ t, own_S p e below T550 m 207 #[sI p1, sJ q2, sW, sI 3, sI c0, sI c1, sI c2, sI e0_, sI e1_, sI e2_, sI again, sJ v11, sW, sR b76, sR b87, sR b109, sR b142, sU, sU, sU, sU, sU, sU, sU] [(.int c2), (.ref b109), (.ref b142)] t → R0 t := fun t k => pre548 t (by
      refine st550.trans ?_
      refine XS.iloadN X550.here hx rfl (hb hby at_196) rfl ?_
      refine XS.iconst X550.here hx rfl (hb hby at_197) ?_
      refine XS.icmpNo X550.here hx rfl (hb hby at_198) rfl (tlt (by decide : (2 : Int32) < (3 : Int32))).2.2.2 ?_
      refine XS.aload X550.here hx rfl (hb hby at_201) rfl rfl ?_
      refine XS.aload X550.here hx rfl (hb hby at_203) rfl rfl ?_
      refine XS.iload X550.here hx rfl (hb hby at_205) rfl ?_
      exact k)
    have hp562 : b109 < b142 := lne145
    have ex564 := own_QI_exa Q560
    have ex565 := own_QI_exa Q560
    obtain ⟨cq563, kq563, q563a, q563b, q563c⟩ := isOf hZ rfl ex565
    obtain ⟨_, _, ⟨T563, L563, k563, n563⟩, -, X563, ⟨Lc563, hQ563, l563, y563, z563⟩, st563⟩ := X550.virtualBack hx (y := own_y6) (z := own_y6) hown (mvT hZ hw61) (mvT hZ hw62) (notFace_of_selects (args := #[]) (mvT hZ hw64)) (mvT hZ hw64) (mvT hZ hw63) (by decide) (backOf (W := 0) (own_rm8t2 l Z a0 hw [] b142 b109 c2 (.ref b76) (.ref b87) .null v11 (v11 + (1 : Int64)) (0 : Int64) (0 : Int32) (2 : Int32) (v11 + (2 : Int64)) T550.heap n0 f553 Q560 f558 f559 hp562) hZ hw65 hw25 (by decide) (by decide)) q563a q563c (g := (mkF m 207 #[sI p1, sJ q2, sW, sI 3, sI c0, sI c1, sI c2, sI e0_, sI e1_, sI e2_, sI again, sJ v11, sW, sR b76, sR b87, sR b109, sR b142, sU, sU, sU, sU, sU, sU, sU] [(.int c2), (.ref b109), (.ref b142)])) rfl (by rw [hml]; rfl) (Steps.refl _) (argsL := [(.ref b109), (.int c2)]) (rest := []) (lenOf own_pd_11 rfl) rfl (by show 2 * 0 + _ ≤ _; exact Nat.le_of_eq rfl) (hb hby at_207) (fun _ _ => ⟨rfl, rfl, (by decide : 8 + 0 ≤ _), (by decide : 53 + 0 ≤ _)⟩)
    dsimp only [Pt.U, Pt.locs, Pt.cells, Pt.slots] at X563 l563 y563 z563 st563 hQ563
    subst l563 y563 z563
    obtain ⟨rfl, N563q, Lw563, Qw563⟩ := hQ563
    have f566 := Nat.le_trans f553 Lw563.1
    have f567 := Lw563.exa f554 lne143
    have f568 := Lw563.fld f555 lne143
    have f569 := Lw563.exa f556 lne144
    have f570 := Lw563.fld f557 lne144
    have f571 := Lw563.exa f558 lne145
    have f572 := Lw563.fld f559 lne145
    have Q573 : own_QI Z T563.heap n0 b142 (.ref b76) (.ref b87) (.ref b109) v11 (v11 + (1 : Int64)) (v11 + (2 : Int64)) (0 : Int32) (3 : Int32) (3 : Int32) := Qw563
    have N563 := Fr.app N550 N563q
    have pre574 : ∀ t, own_S p e below T563 m 216 #[sI p1, sJ q2, sW, sI 3, sI c0, sI c1, sI c2, sI e0_, sI e1_, sI e2_, sI again, sJ v11, sW, sR b76, sR b87, sR b109, sR b142, sU, sU, sU, sU, sU, sU, sU] [(.int e0_)] t → R0 t := fun t k => pre561 t (by
      refine st563.trans ?_
      refine XS.iloadN X563.here hx rfl (hb hby at_210) rfl ?_
      refine XS.ifNo X563.here hx rfl (hb hby at_211) rfl ((if0 _ _).trans (tlt (by decide : (0 : Int32) < (3 : Int32))).2.2.2) ?_
      refine XS.iload X563.here hx rfl (hb hby at_214) rfl ?_
      exact k)
    by_cases hc216 : e0_ = (0 : Int32)
    · have pre575 : ∀ t, own_S p e below T563 m 233 #[sI p1, sJ q2, sW, sI 3, sI c0, sI c1, sI c2, sI e0_, sI e1_, sI e2_, sI again, sJ v11, sW, sR b76, sR b87, sR b109, sR b142, sI 1, sU, sU, sU, sU, sU, sU] [(.int e1_)] t → R0 t := fun t k => pre574 t (by
        refine XS.ifNo X563.here hx rfl (hb hby at_216) rfl ((if0 _ _).trans (teq hc216).2) ?_
        refine XS.iconst X563.here hx rfl (hb hby at_219) ?_
        refine XS.goto X563.here hx rfl (pc0 := 220) (pc' := 224) rfl (hb hby at_220) (by decide) (by decide) ?_
        refine XS.istore X563.here hx rfl (hb hby at_224) rfl (l' := #[sI p1, sJ q2, sW, sI 3, sI c0, sI c1, sI c2, sI e0_, sI e1_, sI e2_, sI again, sJ v11, sW, sR b76, sR b87, sR b109, sR b142, sI 1, sU, sU, sU, sU, sU, sU]) rfl ?_
        refine XS.iloadN X563.here hx rfl (hb hby at_226) rfl ?_
        refine XS.iconst X563.here hx rfl (hb hby at_227) ?_
        refine XS.icmpNo X563.here hx rfl (hb hby at_228) rfl (tlt (by decide : (1 : Int32) < (3 : Int32))).2.2.2 ?_
        refine XS.iload X563.here hx rfl (hb hby at_231) rfl ?_
        exact k)
      by_cases hc233 : e1_ = (0 : Int32)
      · have pre576 : ∀ t, own_S p e below T563 m 250 #[sI p1, sJ q2, sW, sI 3, sI c0, sI c1, sI c2, sI e0_, sI e1_, sI e2_, sI again, sJ v11, sW, sR b76, sR b87, sR b109, sR b142, sI 1, sI 1, sU, sU, sU, sU, sU] [(.int e2_)] t → R0 t := fun t k => pre575 t (by
          refine XS.ifNo X563.here hx rfl (hb hby at_233) rfl ((if0 _ _).trans (teq hc233).2) ?_
          refine XS.iconst X563.here hx rfl (hb hby at_236) ?_
          refine XS.goto X563.here hx rfl (pc0 := 237) (pc' := 241) rfl (hb hby at_237) (by decide) (by decide) ?_
          refine XS.istore X563.here hx rfl (hb hby at_241) rfl (l' := #[sI p1, sJ q2, sW, sI 3, sI c0, sI c1, sI c2, sI e0_, sI e1_, sI e2_, sI again, sJ v11, sW, sR b76, sR b87, sR b109, sR b142, sI 1, sI 1, sU, sU, sU, sU, sU]) rfl ?_
          refine XS.iloadN X563.here hx rfl (hb hby at_243) rfl ?_
          refine XS.iconst X563.here hx rfl (hb hby at_244) ?_
          refine XS.icmpNo X563.here hx rfl (hb hby at_245) rfl (tlt (by decide : (2 : Int32) < (3 : Int32))).2.2.2 ?_
          refine XS.iload X563.here hx rfl (hb hby at_248) rfl ?_
          exact k)
        by_cases hc250 : e2_ = (0 : Int32)
        · have pre577 : ∀ t, own_S p e below T563 m 322 #[sI p1, sJ q2, sW, sI 3, sI c0, sI c1, sI c2, sI e0_, sI e1_, sI e2_, sI again, sJ v11, sW, sR b76, sR b87, sR b109, sR b142, sI 1, sI 1, sI 1, sU, sU, sU, sU] [(.ref b109), (.ref b87), (.ref b76), (.int 1), (.int 1), (.int 1)] t → R0 t := fun t k => pre576 t (by
            refine XS.ifNo X563.here hx rfl (hb hby at_250) rfl ((if0 _ _).trans (teq hc250).2) ?_
            refine XS.iconst X563.here hx rfl (hb hby at_253) ?_
            refine XS.goto X563.here hx rfl (pc0 := 254) (pc' := 258) rfl (hb hby at_254) (by decide) (by decide) ?_
            refine XS.istore X563.here hx rfl (hb hby at_258) rfl (l' := #[sI p1, sJ q2, sW, sI 3, sI c0, sI c1, sI c2, sI e0_, sI e1_, sI e2_, sI again, sJ v11, sW, sR b76, sR b87, sR b109, sR b142, sI 1, sI 1, sI 1, sU, sU, sU, sU]) rfl ?_
            refine XS.iloadN X563.here hx rfl (hb hby at_260) rfl ?_
            refine XS.ifNo X563.here hx rfl (hb hby at_261) rfl ((if0 _ _).trans (tlt (by decide : (0 : Int32) < (3 : Int32))).2.2.2) ?_
            refine XS.iload X563.here hx rfl (hb hby at_264) rfl ?_
            refine XS.ifYes X563.here hx rfl (pc0 := 266) (pc' := 276) rfl (hb hby at_266) rfl ((if0 _ _).trans (teq hc216).1) (by decide) (by decide) ?_
            refine XS.iloadN X563.here hx rfl (hb hby at_276) rfl ?_
            refine XS.iconst X563.here hx rfl (hb hby at_277) ?_
            refine XS.icmpNo X563.here hx rfl (hb hby at_278) rfl (tlt (by decide : (1 : Int32) < (3 : Int32))).2.2.2 ?_
            refine XS.iload X563.here hx rfl (hb hby at_281) rfl ?_
            refine XS.ifYes X563.here hx rfl (pc0 := 283) (pc' := 293) rfl (hb hby at_283) rfl ((if0 _ _).trans (teq hc233).1) (by decide) (by decide) ?_
            refine XS.iloadN X563.here hx rfl (hb hby at_293) rfl ?_
            refine XS.iconst X563.here hx rfl (hb hby at_294) ?_
            refine XS.icmpNo X563.here hx rfl (hb hby at_295) rfl (tlt (by decide : (2 : Int32) < (3 : Int32))).2.2.2 ?_
            refine XS.iload X563.here hx rfl (hb hby at_298) rfl ?_
            refine XS.ifYes X563.here hx rfl (pc0 := 300) (pc' := 310) rfl (hb hby at_300) rfl ((if0 _ _).trans (teq hc250).1) (by decide) (by decide) ?_
            refine XS.iload X563.here hx rfl (hb hby at_310) rfl ?_
            refine XS.iload X563.here hx rfl (hb hby at_312) rfl ?_
            show own_S p e below T563 m 314 #[sI p1, sJ q2, sW, sI 3, sI c0, sI c1, sI c2, sI e0_, sI e1_, sI e2_, sI again, sJ v11, sW, sR b76, sR b87, sR b109, sR b142, sI 1, sI 1, sI 1, sU, sU, sU, sU] [(.int 1), (.int 1)] _
            refine XS.iload X563.here hx rfl (hb hby at_314) rfl ?_
            refine XS.aload X563.here hx rfl (hb hby at_316) rfl rfl ?_
            refine XS.aload X563.here hx rfl (hb hby at_318) rfl rfl ?_
            refine XS.aload X563.here hx rfl (hb hby at_320) rfl rfl ?_
            exact k)
          obtain ⟨_, _, ⟨T578, L578, k578, n578⟩, -, X578, ⟨Lc578, hQ578, l578, y578, z578⟩, st578⟩ := Jvm.LawKit.callS X563 hx (y := own_y12) hown (mvT hZ hw45) (mvT hZ hw46) (mvT hZ hw47) (mvT hZ hw48) (by decide) (backOf (W := 0) (own_rm5a l Z a0 hw [] (1 : Int32) (1 : Int32) b76 b87 b109 T563.heap n0 f566 ) hZ hw48 hw47 (by decide) (by decide)) (g := (mkF m 322 #[sI p1, sJ q2, sW, sI 3, sI c0, sI c1, sI c2, sI e0_, sI e1_, sI e2_, sI again, sJ v11, sW, sR b76, sR b87, sR b109, sR b142, sI 1, sI 1, sI 1, sU, sU, sU, sU] [(.ref b109), (.ref b87), (.ref b76), (.int 1), (.int 1), (.int 1)])) rfl (by rw [hml]; rfl) (argsL := [(.int 1), (.int 1), (.int 1), (.ref b76), (.ref b87), (.ref b109)]) (rest := []) (lenOf own_pd_8 rfl) rfl (by show 2 * 0 + _ ≤ _; exact Nat.le_of_eq rfl) (hb hby at_322) (fun _ _ => ⟨rfl, rfl, (by decide : 8 + 0 ≤ _), (by decide : 53 + 0 ≤ _)⟩)
          dsimp only [Pt.U, Pt.locs, Pt.cells, Pt.slots] at X578 l578 y578 z578 st578 hQ578
          subst l578 y578 z578
          obtain ⟨rfl, N578q, eh578⟩ := hQ578
          have N578 := Fr.app N563 N578q
          have pre579 : ∀ t, own_S p e below T578 m 329 #[sI p1, sJ q2, sW, sI 3, sI c0, sI c1, sI c2, sI e0_, sI e1_, sI e2_, sI again, sJ v11, sW, sR b76, sR b87, sR b109, sR b142, sI 1, sI 1, sI 1, sR b76, sU, sU, sU] [(.ref b142)] t → R0 t := fun t k => pre577 t (by
            refine st578 _ ?_
            refine XS.astore X578.here hx rfl (hb hby at_325) rfl rfl (l' := #[sI p1, sJ q2, sW, sI 3, sI c0, sI c1, sI c2, sI e0_, sI e1_, sI e2_, sI again, sJ v11, sW, sR b76, sR b87, sR b109, sR b142, sI 1, sI 1, sI 1, sR b76, sU, sU, sU]) rfl ?_
            refine XS.aload X578.here hx rfl (hb hby at_327) rfl rfl ?_
            exact k)
          have hp580 : ¬ ((3 : Int32) = (0 : Int32)) := by decide
          have ex582 := own_QI_exa Q573
          have ex583 := own_QI_exa Q573
          obtain ⟨cq581, kq581, q581a, q581b, q581c⟩ := isOf hZ eh578 ex583
          obtain ⟨_, _, ⟨T581, L581, k581, n581⟩, -, X581, ⟨Lc581, hQ581, l581, y581, z581⟩, st581⟩ := X578.virtualBack hx (y := own_y11) (z := own_y11) hown (mvT hZ hw49) (mvT hZ hw50) (notFace_of_selects (args := #[]) (mvT hZ hw52)) (mvT hZ hw52) (mvT hZ hw51) (by decide) (backOf (W := 0) (own_rm6h0f0 l Z a0 hw [] b142 b76 (.ref b87) (.ref b109) v11 (v11 + (1 : Int64)) (v11 + (2 : Int64)) (3 : Int32) (3 : Int32) T563.heap n0 f566 Q573 hp580) hZ hw53 hw25 (by decide) (by decide)) q581a q581c (g := (mkF m 329 #[sI p1, sJ q2, sW, sI 3, sI c0, sI c1, sI c2, sI e0_, sI e1_, sI e2_, sI again, sJ v11, sW, sR b76, sR b87, sR b109, sR b142, sI 1, sI 1, sI 1, sR b76, sU, sU, sU] [(.ref b142)])) rfl (by rw [hml]; rfl) (Steps.refl _) (argsL := []) (rest := []) (lenOf own_pd_9 rfl) rfl (by show 2 * 0 + _ ≤ _; exact Nat.le_of_eq rfl) (hb hby at_329) (fun _ _ => ⟨rfl, eh578, (by decide : 8 + 0 ≤ _), (by decide : 53 + 0 ≤ _)⟩)
          dsimp only [Pt.U, Pt.locs, Pt.cells, Pt.slots] at X581 l581 y581 z581 st581 hQ581
          subst l581 y581 z581
          obtain ⟨rfl, N581q, Lw581, Qw581⟩ := hQ581
          have f584 := Nat.le_trans f566 Lw581.1
          have f585 := Lw581.exa f567 lne143
          have f586 := Lw581.fld f568 lne143
          have f587 := Lw581.exa f569 lne144
          have f588 := Lw581.fld f570 lne144
          have f589 := Lw581.exa f571 lne145
          have f590 := Lw581.fld f572 lne145
          have Q591 : own_QI Z T581.heap n0 b142 (.ref b76) (.ref b87) (.ref b109) v11 (v11 + (1 : Int64)) (v11 + (2 : Int64)) (0 : Int32) (3 : Int32) (3 : Int32) := Qw581
          have N581 := Fr.app N578 N581q
          have pre592 : ∀ t, own_S p e below T581 m 379 #[sI p1, sJ q2, sW, sI 3, sI c0, sI c1, sI c2, sI e0_, sI e1_, sI e2_, sI again, sJ v11, sW, sR b76, sR b87, sR b109, sR b142, sI 1, sI 1, sI 1, sR b76, sR b76, sI 3, sU] [(.ref b142)] t → R0 t := fun t k => pre579 t (by
            refine st581.trans ?_
            refine XS.astore X581.here hx rfl (hb hby at_332) rfl rfl (l' := #[sI p1, sJ q2, sW, sI 3, sI c0, sI c1, sI c2, sI e0_, sI e1_, sI e2_, sI again, sJ v11, sW, sR b76, sR b87, sR b109, sR b142, sI 1, sI 1, sI 1, sR b76, sR b76, sU, sU]) rfl ?_
            refine XS.aload X581.here hx rfl (hb hby at_334) rfl rfl ?_
            refine XS.aload X581.here hx rfl (hb hby at_336) rfl rfl ?_
            refine Jvm.RoadKit.acmp (g := (mkF m 338 #[sI p1, sJ q2, sW, sI 3, sI c0, sI c1, sI c2, sI e0_, sI e1_, sI e2_, sI again, sJ v11, sW, sR b76, sR b87, sR b109, sR b142, sI 1, sI 1, sI 1, sR b76, sR b76, sU, sU] [(.ref b76), (.ref b76)])) X581 hx rfl rfl rfl (pc0 := 338) (pc' := 343) (same := true) rfl (hb hby at_338) rfl (decide_eq_true rfl) (by decide) (by decide) ?_
            refine XS.iload X581.here hx rfl (hb hby at_343) rfl ?_
            refine XS.ifNo X581.here hx rfl (hb hby at_345) rfl ((if0 _ _).trans (feq (by decide : ¬ ((1 : Int32) = (0 : Int32)))).1) ?_
            refine XS.iconst X581.here hx rfl (hb hby at_348) ?_
            refine XS.goto X581.here hx rfl (pc0 := 349) (pc' := 353) rfl (hb hby at_349) (by decide) (by decide) ?_
            refine XS.iload X581.here hx rfl (hb hby at_353) rfl ?_
            refine XS.ifNo X581.here hx rfl (hb hby at_355) rfl ((if0 _ _).trans (feq (by decide : ¬ ((1 : Int32) = (0 : Int32)))).1) ?_
            refine XS.iconst X581.here hx rfl (hb hby at_358) ?_
            refine XS.goto X581.here hx rfl (pc0 := 359) (pc' := 363) rfl (hb hby at_359) (by decide) (by decide) ?_
            refine XS.iadd X581.here hx rfl (hb hby at_363) rfl ?_
            refine XS.iload X581.here hx rfl (hb hby at_364) rfl ?_
            refine XS.ifNo X581.here hx rfl (hb hby at_366) rfl ((if0 _ _).trans (feq (by decide : ¬ ((1 : Int32) = (0 : Int32)))).1) ?_
            refine XS.iconst X581.here hx rfl (hb hby at_369) ?_
            refine XS.goto X581.here hx rfl (pc0 := 370) (pc' := 374) rfl (hb hby at_370) (by decide) (by decide) ?_
            refine XS.iadd X581.here hx rfl (hb hby at_374) rfl ?_
            refine XS.istore X581.here hx rfl (hb hby at_375) rfl (l' := #[sI p1, sJ q2, sW, sI 3, sI c0, sI c1, sI c2, sI e0_, sI e1_, sI e2_, sI again, sJ v11, sW, sR b76, sR b87, sR b109, sR b142, sI 1, sI 1, sI 1, sR b76, sR b76, sI 3, sU]) rfl ?_
            show own_S p e below T581 m 377 #[sI p1, sJ q2, sW, sI 3, sI c0, sI c1, sI c2, sI e0_, sI e1_, sI e2_, sI again, sJ v11, sW, sR b76, sR b87, sR b109, sR b142, sI 1, sI 1, sI 1, sR b76, sR b76, sI 3, sU] [] _
            refine XS.aload X581.here hx rfl (hb hby at_377) rfl rfl ?_
            exact k)
          have ex594 := own_QI_exa Q591
          have ex595 := own_QI_exa Q591
          obtain ⟨cq593, kq593, q593a, q593b, q593c⟩ := isOf hZ rfl ex595
          obtain ⟨_, _, ⟨T593, L593, k593, n593⟩, -, X593, ⟨Lc593, hQ593, l593, y593, z593⟩, st593⟩ := X581.virtualBack hx (y := own_y4) (z := own_y4) hown (mvT hZ hw56) (mvT hZ hw57) (notFace_of_selects (args := #[]) (mvT hZ hw59)) (mvT hZ hw59) (mvT hZ hw58) (by decide) (backOf (W := 0) (own_rm7 l Z a0 hw [] b142 (.ref b76) (.ref b87) (.ref b109) v11 (v11 + (1 : Int64)) (v11 + (2 : Int64)) (0 : Int32) (3 : Int32) (3 : Int32) T581.heap n0 f584 Q591) hZ hw60 hw25 (by decide) (by decide)) q593a q593c (g := (mkF m 379 #[sI p1, sJ q2, sW, sI 3, sI c0, sI c1, sI c2, sI e0_, sI e1_, sI e2_, sI again, sJ v11, sW, sR b76, sR b87, sR b109, sR b142, sI 1, sI 1, sI 1, sR b76, sR b76, sI 3, sU] [(.ref b142)])) rfl (by rw [hml]; rfl) (Steps.refl _) (argsL := []) (rest := []) (lenOf own_pd_10 rfl) rfl (by show 2 * 0 + _ ≤ _; exact Nat.le_of_eq rfl) (hb hby at_379) (fun _ _ => ⟨rfl, rfl, (by decide : 8 + 0 ≤ _), (by decide : 53 + 0 ≤ _)⟩)
          dsimp only [Pt.U, Pt.locs, Pt.cells, Pt.slots] at X593 l593 y593 z593 st593 hQ593
          subst l593 y593 z593
          obtain ⟨rfl, N593q, eh593⟩ := hQ593
          have N593 := Fr.app N581 N593q
          have pre596 : ∀ t, own_S p e below T593 m 391 #[sI p1, sJ q2, sW, sI 3, sI c0, sI c1, sI c2, sI e0_, sI e1_, sI e2_, sI again, sJ v11, sW, sR b76, sR b87, sR b109, sR b142, sI 1, sI 1, sI 1, sR b76, sR b76, sI 3, sU] [(.int again)] t → R0 t := fun t k => pre592 t (by
            refine st593.trans ?_
            refine XS.iload X593.here hx rfl (hb hby at_382) rfl ?_
            refine XS.icmpYes X593.here hx rfl (pc0 := 384) (pc' := 389) rfl (hb hby at_384) rfl (teq (by decide : (3 : Int32) = (3 : Int32))).1 (by decide) (by decide) ?_
            refine XS.iload X593.here hx rfl (hb hby at_389) rfl ?_
            exact k)
          by_cases hc391 : again = (0 : Int32)
          · have pre597 : ∀ t, own_S p e below T593 m 400 #[sI p1, sJ q2, sW, sI 3, sI c0, sI c1, sI c2, sI e0_, sI e1_, sI e2_, sI again, sJ v11, sW, sR b76, sR b87, sR b109, sR b142, sI 1, sI 1, sI 1, sR b76, sR b76, sI 3, sU] [(.int 1)] t → R0 t := fun t k => pre596 t (by
              refine XS.ifYes X593.here hx rfl (pc0 := 391) (pc' := 399) rfl (hb hby at_391) rfl ((if0 _ _).trans (teq hc391).1) (by decide) (by decide) ?_
              refine XS.iconst X593.here hx rfl (hb hby at_399) ?_
              exact k)
            obtain ⟨fs, hr, hrun, hended, hW, hsame⟩ := X593.leave (v := some (.int 1)) (fun h => by rw [Bd.returns] at h; cases h)
            refine ⟨_, _, cast (congrFun hR0 _) (pre597 _ (retN X593 hx (t := .boolean) Bd.returns (by simp) (hb hby at_400) hr)), hrun, hended, _, _, rfl, ?_, ⟨_, rfl⟩, hW, hsame.mono (by decide) (by decide)⟩
            show own_Q0 Z _ _ h0 n0 _ T593.heap _
            rw [eh593]
            exact ⟨rfl, N593⟩
          · have pre598 : ∀ t, own_S p e below T593 m 405 #[sI p1, sJ q2, sW, sI 3, sI c0, sI c1, sI c2, sI e0_, sI e1_, sI e2_, sI again, sJ v11, sW, sR b76, sR b87, sR b109, sR b142, sI 1, sI 1, sI 1, sR b76, sR b76, sI 3, sU] [(.ref b76), (.ref b142)] t → R0 t := fun t k => pre596 t (by
              refine XS.ifNo X593.here hx rfl (hb hby at_391) rfl ((if0 _ _).trans (feq hc391).1) ?_
              refine XS.aload X593.here hx rfl (hb hby at_394) rfl rfl ?_
              refine XS.ifnonnullYes X593.here hx rfl (pc0 := 396) (pc' := 401) rfl (hb hby at_396) rfl (by decide) (by decide) ?_
              refine XS.aload X593.here hx rfl (hb hby at_401) rfl rfl ?_
              refine XS.aload X593.here hx rfl (hb hby at_403) rfl rfl ?_
              exact k)
            have hp599 : ((0 : Int32) = (0 : Int32) ∧ (3 : Int32) = (1 : Int32)) ∨ ((0 : Int32) = (0 : Int32) ∧ (3 : Int32) = (2 : Int32)) ∨ ((0 : Int32) = (0 : Int32) ∧ (3 : Int32) = (3 : Int32)) := by decide
            have hp600 : ((1 : Int32) < (3 : Int32) → v11 < (v11 + (1 : Int64))) ∧ ((2 : Int32) < (3 : Int32) → (v11 + (1 : Int64)) < (v11 + (2 : Int64))) := ⟨fun _ => hq01, fun _ => hq12⟩
            have hp601 : b76 < b142 := lne143
            have ex603 := own_QI_exa Q591
            have ex604 := own_QI_exa Q591
            obtain ⟨cq602, kq602, q602a, q602b, q602c⟩ := isOf hZ eh593 ex604
            obtain ⟨_, _, ⟨T602, L602, k602, n602⟩, -, X602, ⟨Lc602, hQ602, l602, y602, z602⟩, st602⟩ := X593.virtualBack hx (y := own_y10) (z := own_y10) hown (mvT hZ hw82) (mvT hZ hw83) (notFace_of_selects (args := #[]) (mvT hZ hw85)) (mvT hZ hw85) (mvT hZ hw84) (by decide) (backOf (W := 0) (own_rm11j0 l Z a0 hw [] b142 b76 (.ref b87) (.ref b109) v11 (v11 + (1 : Int64)) (v11 + (2 : Int64)) (0 : Int32) (3 : Int32) (3 : Int32) T581.heap n0 f584 Q591 f585 f586 hp599 hp600 hp601) hZ hw86 hw25 (by decide) (by decide)) q602a q602c (g := (mkF m 405 #[sI p1, sJ q2, sW, sI 3, sI c0, sI c1, sI c2, sI e0_, sI e1_, sI e2_, sI again, sJ v11, sW, sR b76, sR b87, sR b109, sR b142, sI 1, sI 1, sI 1, sR b76, sR b76, sI 3, sU] [(.ref b76), (.ref b142)])) rfl (by rw [hml]; rfl) (Steps.refl _) (argsL := [(.ref b76)]) (rest := []) (lenOf own_pd_12 rfl) rfl (by show 2 * 0 + _ ≤ _; exact Nat.le_of_eq rfl) (hb hby at_405) (fun _ _ => ⟨rfl, eh593, (by decide : 8 + 0 ≤ _), (by decide : 53 + 0 ≤ _)⟩)
            dsimp only [Pt.U, Pt.locs, Pt.cells, Pt.slots] at X602 l602 y602 z602 st602 hQ602
            subst l602 y602 z602
            obtain ⟨rfl, N602q, Lw602, Qw602⟩ := hQ602
            have f605 := Nat.le_trans f584 Lw602.1
            have f606 := Lw602.exa f585 lne143
            have f607 := Lw602.fld f586 lne143
            have f608 := Lw602.exa f587 lne144
            have f609 := Lw602.fld f588 lne144
            have f610 := Lw602.exa f589 lne145
            have f611 := Lw602.fld f590 lne145
            have Q612 : own_QI Z T602.heap n0 b142 .null (.ref b87) (.ref b109) v11 (v11 + (1 : Int64)) (v11 + (2 : Int64)) (0 : Int32) (3 : Int32) (2 : Int32) := Qw602
            have N602 := Fr.app N593 N602q
            have pre613 : ∀ t, own_S p e below T602 m 449 #[sI p1, sJ q2, sW, sI 3, sI c0, sI c1, sI c2, sI e0_, sI e1_, sI e2_, sI again, sJ v11, sW, sR b76, sR b87, sR b109, sR b142, sI 0, sI 1, sI 1, sR b76, sR b76, sI 3, sU] [(.ref b109), (.ref b87), (.ref b76), (.int 1), (.int 1), (.int 0)] t → R0 t := fun t k => pre598 t (by
              refine st602.trans ?_
              refine XS.aload X602.here hx rfl (hb hby at_408) rfl rfl ?_
              refine XS.aload X602.here hx rfl (hb hby at_410) rfl rfl ?_
              refine Jvm.RoadKit.acmp (g := (mkF m 412 #[sI p1, sJ q2, sW, sI 3, sI c0, sI c1, sI c2, sI e0_, sI e1_, sI e2_, sI again, sJ v11, sW, sR b76, sR b87, sR b109, sR b142, sI 1, sI 1, sI 1, sR b76, sR b76, sI 3, sU] [(.ref b76), (.ref b76)])) X602 hx rfl rfl rfl (pc0 := 412) (pc' := 415) (same := true) rfl (hb hby at_412) rfl (decide_eq_true rfl) (by decide) (by decide) ?_
              refine XS.iconst X602.here hx rfl (hb hby at_415) ?_
              refine XS.istore X602.here hx rfl (hb hby at_416) rfl (l' := #[sI p1, sJ q2, sW, sI 3, sI c0, sI c1, sI c2, sI e0_, sI e1_, sI e2_, sI again, sJ v11, sW, sR b76, sR b87, sR b109, sR b142, sI 0, sI 1, sI 1, sR b76, sR b76, sI 3, sU]) rfl ?_
              refine XS.goto X602.here hx rfl (pc0 := 418) (pc' := 437) rfl (hb hby at_418) (by decide) (by decide) ?_
              refine XS.iload X602.here hx rfl (hb hby at_437) rfl ?_
              refine XS.iload X602.here hx rfl (hb hby at_439) rfl ?_
              refine XS.iload X602.here hx rfl (hb hby at_441) rfl ?_
              refine XS.aload X602.here hx rfl (hb hby at_443) rfl rfl ?_
              refine XS.aload X602.here hx rfl (hb hby at_445) rfl rfl ?_
              refine XS.aload X602.here hx rfl (hb hby at_447) rfl rfl ?_
              exact k)
            obtain ⟨_, _, ⟨T614, L614, k614, n614⟩, -, X614, ⟨Lc614, hQ614, l614, y614, z614⟩, st614⟩ := Jvm.LawKit.callS X602 hx (y := own_y12) hown (mvT hZ hw45) (mvT hZ hw46) (mvT hZ hw47) (mvT hZ hw48) (by decide) (backOf (W := 0) (own_rm5b l Z a0 hw [] (1 : Int32) b76 b87 b109 T602.heap n0 f605 ) hZ hw48 hw47 (by decide) (by decide)) (g := (mkF m 449 #[sI p1, sJ q2, sW, sI 3, sI c0, sI c1, sI c2, sI e0_, sI e1_, sI e2_, sI again, sJ v11, sW, sR b76, sR b87, sR b109, sR b142, sI 0, sI 1, sI 1, sR b76, sR b76, sI 3, sU] [(.ref b109), (.ref b87), (.ref b76), (.int 1), (.int 1), (.int 0)])) rfl (by rw [hml]; rfl) (argsL := [(.int 0), (.int 1), (.int 1), (.ref b76), (.ref b87), (.ref b109)]) (rest := []) (lenOf own_pd_8 rfl) rfl (by show 2 * 0 + _ ≤ _; exact Nat.le_of_eq rfl) (hb hby at_449) (fun _ _ => ⟨rfl, rfl, (by decide : 8 + 0 ≤ _), (by decide : 53 + 0 ≤ _)⟩)
            dsimp only [Pt.U, Pt.locs, Pt.cells, Pt.slots] at X614 l614 y614 z614 st614 hQ614
            subst l614 y614 z614
            obtain ⟨rfl, N614q, eh614⟩ := hQ614
            have N614 := Fr.app N602 N614q
            have pre615 : ∀ t, own_S p e below T614 m 456 #[sI p1, sJ q2, sW, sI 3, sI c0, sI c1, sI c2, sI e0_, sI e1_, sI e2_, sI again, sJ v11, sW, sR b76, sR b87, sR b109, sR b142, sI 0, sI 1, sI 1, sR b76, sR b76, sI 3, sR b87] [(.ref b142)] t → R0 t := fun t k => pre613 t (by
              refine st614 _ ?_
              refine XS.astore X614.here hx rfl (hb hby at_452) rfl rfl (l' := #[sI p1, sJ q2, sW, sI 3, sI c0, sI c1, sI c2, sI e0_, sI e1_, sI e2_, sI again, sJ v11, sW, sR b76, sR b87, sR b109, sR b142, sI 0, sI 1, sI 1, sR b76, sR b76, sI 3, sR b87]) rfl ?_
              refine XS.aload X614.here hx rfl (hb hby at_454) rfl rfl ?_
              exact k)
            have hp616 : ¬ ((2 : Int32) = (0 : Int32)) := by decide
            have ex618 := own_QI_exa Q612
            have ex619 := own_QI_exa Q612
            obtain ⟨cq617, kq617, q617a, q617b, q617c⟩ := isOf hZ eh614 ex619
            obtain ⟨_, _, ⟨T617, L617, k617, n617⟩, -, X617, ⟨Lc617, hQ617, l617, y617, z617⟩, st617⟩ := X614.virtualBack hx (y := own_y11) (z := own_y11) hown (mvT hZ hw49) (mvT hZ hw50) (notFace_of_selects (args := #[]) (mvT hZ hw52)) (mvT hZ hw52) (mvT hZ hw51) (by decide) (backOf (W := 0) (own_rm6h0f1 l Z a0 hw [] b142 b87 (.ref b109) v11 (v11 + (1 : Int64)) (v11 + (2 : Int64)) (3 : Int32) (2 : Int32) T602.heap n0 f605 Q612 hp616) hZ hw53 hw25 (by decide) (by decide)) q617a q617c (g := (mkF m 456 #[sI p1, sJ q2, sW, sI 3, sI c0, sI c1, sI c2, sI e0_, sI e1_, sI e2_, sI again, sJ v11, sW, sR b76, sR b87, sR b109, sR b142, sI 0, sI 1, sI 1, sR b76, sR b76, sI 3, sR b87] [(.ref b142)])) rfl (by rw [hml]; rfl) (Steps.refl _) (argsL := []) (rest := []) (lenOf own_pd_9 rfl) rfl (by show 2 * 0 + _ ≤ _; exact Nat.le_of_eq rfl) (hb hby at_456) (fun _ _ => ⟨rfl, eh614, (by decide : 8 + 0 ≤ _), (by decide : 53 + 0 ≤ _)⟩)
            dsimp only [Pt.U, Pt.locs, Pt.cells, Pt.slots] at X617 l617 y617 z617 st617 hQ617
            subst l617 y617 z617
            obtain ⟨rfl, N617q, Lw617, Qw617⟩ := hQ617
            have f620 := Nat.le_trans f605 Lw617.1
            have f621 := Lw617.exa f606 lne143
            have f622 := Lw617.fld f607 lne143
            have f623 := Lw617.exa f608 lne144
            have f624 := Lw617.fld f609 lne144
            have f625 := Lw617.exa f610 lne145
            have f626 := Lw617.fld f611 lne145
            have Q627 : own_QI Z T617.heap n0 b142 .null (.ref b87) (.ref b109) v11 (v11 + (1 : Int64)) (v11 + (2 : Int64)) (1 : Int32) (3 : Int32) (2 : Int32) := Qw617
            have N617 := Fr.app N614 N617q
            have pre628 : ∀ t, own_S p e below T617 m 469 #[sI p1, sJ q2, sW, sI 3, sI c0, sI c1, sI c2, sI e0_, sI e1_, sI e2_, sI again, sJ v11, sW, sR b76, sR b87, sR b109, sR b142, sI 0, sI 1, sI 1, sR b76, sR b76, sI 3, sR b87] [(.int 1)] t → R0 t := fun t k => pre615 t (by
              refine st617.trans ?_
              refine XS.aload X617.here hx rfl (hb hby at_459) rfl rfl ?_
              refine Jvm.RoadKit.acmp (g := (mkF m 461 #[sI p1, sJ q2, sW, sI 3, sI c0, sI c1, sI c2, sI e0_, sI e1_, sI e2_, sI again, sJ v11, sW, sR b76, sR b87, sR b109, sR b142, sI 0, sI 1, sI 1, sR b76, sR b76, sI 3, sR b87] [(.ref b87), (.ref b87)])) X617 hx rfl rfl rfl (pc0 := 461) (pc' := 464) (same := true) rfl (hb hby at_461) rfl (decide_eq_true rfl) (by decide) (by decide) ?_
              refine XS.iconst X617.here hx rfl (hb hby at_464) ?_
              refine XS.goto X617.here hx rfl (pc0 := 465) (pc' := 469) rfl (hb hby at_465) (by decide) (by decide) ?_
              exact k)
            obtain ⟨fs, hr, hrun, hended, hW, hsame⟩ := X617.leave (v := some (.int 1)) (fun h => by rw [Bd.returns] at h; cases h)
            refine ⟨_, _, cast (congrFun hR0 _) (pre628 _ (retN X617 hx (t := .boolean) Bd.returns (by simp) (hb hby at_469) hr)), hrun, hended, _, _, rfl, ?_, ⟨_, rfl⟩, hW, hsame.mono (by decide) (by decide)⟩
            show own_Q0 Z _ _ h0 n0 _ T617.heap _
            exact ⟨rfl, N617⟩
        · have pre629 : ∀ t, own_S p e below T563 m 307 #[sI p1, sJ q2, sW, sI 3, sI c0, sI c1, sI c2, sI e0_, sI e1_, sI e2_, sI again, sJ v11, sW, sR b76, sR b87, sR b109, sR b142, sI 1, sI 1, sI 0, sU, sU, sU, sU] [(.ref b109), (.ref b142)] t → R0 t := fun t k => pre576 t (by
            refine XS.ifYes X563.here hx rfl (pc0 := 250) (pc' := 257) rfl (hb hby at_250) rfl ((if0 _ _).trans (feq hc250).2) (by decide) (by decide) ?_
            refine XS.iconst X563.here hx rfl (hb hby at_257) ?_
            refine XS.istore X563.here hx rfl (hb hby at_258) rfl (l' := #[sI p1, sJ q2, sW, sI 3, sI c0, sI c1, sI c2, sI e0_, sI e1_, sI e2_, sI again, sJ v11, sW, sR b76, sR b87, sR b109, sR b142, sI 1, sI 1, sI 0, sU, sU, sU, sU]) rfl ?_
            refine XS.iloadN X563.here hx rfl (hb hby at_260) rfl ?_
            refine XS.ifNo X563.here hx rfl (hb hby at_261) rfl ((if0 _ _).trans (tlt (by decide : (0 : Int32) < (3 : Int32))).2.2.2) ?_
            refine XS.iload X563.here hx rfl (hb hby at_264) rfl ?_
            refine XS.ifYes X563.here hx rfl (pc0 := 266) (pc' := 276) rfl (hb hby at_266) rfl ((if0 _ _).trans (teq hc216).1) (by decide) (by decide) ?_
            refine XS.iloadN X563.here hx rfl (hb hby at_276) rfl ?_
            refine XS.iconst X563.here hx rfl (hb hby at_277) ?_
            refine XS.icmpNo X563.here hx rfl (hb hby at_278) rfl (tlt (by decide : (1 : Int32) < (3 : Int32))).2.2.2 ?_
            refine XS.iload X563.here hx rfl (hb hby at_281) rfl ?_
            refine XS.ifYes X563.here hx rfl (pc0 := 283) (pc' := 293) rfl (hb hby at_283) rfl ((if0 _ _).trans (teq hc233).1) (by decide) (by decide) ?_
            refine XS.iloadN X563.here hx rfl (hb hby at_293) rfl ?_
            refine XS.iconst X563.here hx rfl (hb hby at_294) ?_
            refine XS.icmpNo X563.here hx rfl (hb hby at_295) rfl (tlt (by decide : (2 : Int32) < (3 : Int32))).2.2.2 ?_
            refine XS.iload X563.here hx rfl (hb hby at_298) rfl ?_
            refine XS.ifNo X563.here hx rfl (hb hby at_300) rfl ((if0 _ _).trans (feq hc250).1) ?_
            refine XS.aload X563.here hx rfl (hb hby at_303) rfl rfl ?_
            refine XS.aload X563.here hx rfl (hb hby at_305) rfl rfl ?_
            exact k)
          have hp630 : ((0 : Int32) = (0 : Int32) ∧ (3 : Int32) = (3 : Int32)) ∨ ((0 : Int32) = (2 : Int32) ∧ (3 : Int32) = (3 : Int32)) := by decide
          have hp631 : ((1 : Int32) < (3 : Int32) → v11 < (v11 + (1 : Int64))) ∧ ((2 : Int32) < (3 : Int32) → (v11 + (1 : Int64)) < (v11 + (2 : Int64))) := ⟨fun _ => hq01, fun _ => hq12⟩
          have hp632 : b109 < b142 := lne145
          have ex634 := own_QI_exa Q573
          have ex635 := own_QI_exa Q573
          obtain ⟨cq633, kq633, q633a, q633b, q633c⟩ := isOf hZ rfl ex635
          obtain ⟨_, _, ⟨T633, L633, k633, n633⟩, -, X633, ⟨Lc633, hQ633, l633, y633, z633⟩, st633⟩ := X563.virtualBack hx (y := own_y10) (z := own_y10) hown (mvT hZ hw82) (mvT hZ hw83) (notFace_of_selects (args := #[]) (mvT hZ hw85)) (mvT hZ hw85) (mvT hZ hw84) (by decide) (backOf (W := 0) (own_rm11j2 l Z a0 hw [] b142 b109 (.ref b76) (.ref b87) v11 (v11 + (1 : Int64)) (v11 + (2 : Int64)) (0 : Int32) (3 : Int32) (3 : Int32) T563.heap n0 f566 Q573 f571 f572 hp630 hp631 hp632) hZ hw86 hw25 (by decide) (by decide)) q633a q633c (g := (mkF m 307 #[sI p1, sJ q2, sW, sI 3, sI c0, sI c1, sI c2, sI e0_, sI e1_, sI e2_, sI again, sJ v11, sW, sR b76, sR b87, sR b109, sR b142, sI 1, sI 1, sI 0, sU, sU, sU, sU] [(.ref b109), (.ref b142)])) rfl (by rw [hml]; rfl) (Steps.refl _) (argsL := [(.ref b109)]) (rest := []) (lenOf own_pd_12 rfl) rfl (by show 2 * 0 + _ ≤ _; exact Nat.le_of_eq rfl) (hb hby at_307) (fun _ _ => ⟨rfl, rfl, (by decide : 8 + 0 ≤ _), (by decide : 53 + 0 ≤ _)⟩)
          dsimp only [Pt.U, Pt.locs, Pt.cells, Pt.slots] at X633 l633 y633 z633 st633 hQ633
          subst l633 y633 z633
          obtain ⟨rfl, N633q, Lw633, Qw633⟩ := hQ633
          have f636 := Nat.le_trans f566 Lw633.1
          have f637 := Lw633.exa f567 lne143
          have f638 := Lw633.fld f568 lne143
          have f639 := Lw633.exa f569 lne144
          have f640 := Lw633.fld f570 lne144
          have f641 := Lw633.exa f571 lne145
          have f642 := Lw633.fld f572 lne145
          have Q643 : own_QI Z T633.heap n0 b142 (.ref b76) (.ref b87) .null v11 (v11 + (1 : Int64)) (v11 + (2 : Int64)) (0 : Int32) (3 : Int32) (2 : Int32) := Qw633
          have N633 := Fr.app N563 N633q
          have pre644 : ∀ t, own_S p e below T633 m 322 #[sI p1, sJ q2, sW, sI 3, sI c0, sI c1, sI c2, sI e0_, sI e1_, sI e2_, sI again, sJ v11, sW, sR b76, sR b87, sR b109, sR b142, sI 1, sI 1, sI 0, sU, sU, sU, sU] [(.ref b109), (.ref b87), (.ref b76), (.int 0), (.int 1), (.int 1)] t → R0 t := fun t k => pre629 t (by
            refine st633.trans ?_
            refine XS.iload X633.here hx rfl (hb hby at_310) rfl ?_
            refine XS.iload X633.here hx rfl (hb hby at_312) rfl ?_
            refine XS.iload X633.here hx rfl (hb hby at_314) rfl ?_
            refine XS.aload X633.here hx rfl (hb hby at_316) rfl rfl ?_
            refine XS.aload X633.here hx rfl (hb hby at_318) rfl rfl ?_
            refine XS.aload X633.here hx rfl (hb hby at_320) rfl rfl ?_
            exact k)
          obtain ⟨_, _, ⟨T645, L645, k645, n645⟩, -, X645, ⟨Lc645, hQ645, l645, y645, z645⟩, st645⟩ := Jvm.LawKit.callS X633 hx (y := own_y12) hown (mvT hZ hw45) (mvT hZ hw46) (mvT hZ hw47) (mvT hZ hw48) (by decide) (backOf (W := 0) (own_rm5a l Z a0 hw [] (1 : Int32) (0 : Int32) b76 b87 b109 T633.heap n0 f636 ) hZ hw48 hw47 (by decide) (by decide)) (g := (mkF m 322 #[sI p1, sJ q2, sW, sI 3, sI c0, sI c1, sI c2, sI e0_, sI e1_, sI e2_, sI again, sJ v11, sW, sR b76, sR b87, sR b109, sR b142, sI 1, sI 1, sI 0, sU, sU, sU, sU] [(.ref b109), (.ref b87), (.ref b76), (.int 0), (.int 1), (.int 1)])) rfl (by rw [hml]; rfl) (argsL := [(.int 1), (.int 1), (.int 0), (.ref b76), (.ref b87), (.ref b109)]) (rest := []) (lenOf own_pd_8 rfl) rfl (by show 2 * 0 + _ ≤ _; exact Nat.le_of_eq rfl) (hb hby at_322) (fun _ _ => ⟨rfl, rfl, (by decide : 8 + 0 ≤ _), (by decide : 53 + 0 ≤ _)⟩)
          dsimp only [Pt.U, Pt.locs, Pt.cells, Pt.slots] at X645 l645 y645 z645 st645 hQ645
          subst l645 y645 z645
          obtain ⟨rfl, N645q, eh645⟩ := hQ645
          have N645 := Fr.app N633 N645q
          have pre646 : ∀ t, own_S p e below T645 m 329 #[sI p1, sJ q2, sW, sI 3, sI c0, sI c1, sI c2, sI e0_, sI e1_, sI e2_, sI again, sJ v11, sW, sR b76, sR b87, sR b109, sR b142, sI 1, sI 1, sI 0, sR b76, sU, sU, sU] [(.ref b142)] t → R0 t := fun t k => pre644 t (by
            refine st645 _ ?_
            refine XS.astore X645.here hx rfl (hb hby at_325) rfl rfl (l' := #[sI p1, sJ q2, sW, sI 3, sI c0, sI c1, sI c2, sI e0_, sI e1_, sI e2_, sI again, sJ v11, sW, sR b76, sR b87, sR b109, sR b142, sI 1, sI 1, sI 0, sR b76, sU, sU, sU]) rfl ?_
            refine XS.aload X645.here hx rfl (hb hby at_327) rfl rfl ?_
            exact k)
          have hp647 : ¬ ((2 : Int32) = (0 : Int32)) := by decide
          have ex649 := own_QI_exa Q643
          have ex650 := own_QI_exa Q643
          obtain ⟨cq648, kq648, q648a, q648b, q648c⟩ := isOf hZ eh645 ex650
          obtain ⟨_, _, ⟨T648, L648, k648, n648⟩, -, X648, ⟨Lc648, hQ648, l648, y648, z648⟩, st648⟩ := X645.virtualBack hx (y := own_y11) (z := own_y11) hown (mvT hZ hw49) (mvT hZ hw50) (notFace_of_selects (args := #[]) (mvT hZ hw52)) (mvT hZ hw52) (mvT hZ hw51) (by decide) (backOf (W := 0) (own_rm6h0f0 l Z a0 hw [] b142 b76 (.ref b87) .null v11 (v11 + (1 : Int64)) (v11 + (2 : Int64)) (3 : Int32) (2 : Int32) T633.heap n0 f636 Q643 hp647) hZ hw53 hw25 (by decide) (by decide)) q648a q648c (g := (mkF m 329 #[sI p1, sJ q2, sW, sI 3, sI c0, sI c1, sI c2, sI e0_, sI e1_, sI e2_, sI again, sJ v11, sW, sR b76, sR b87, sR b109, sR b142, sI 1, sI 1, sI 0, sR b76, sU, sU, sU] [(.ref b142)])) rfl (by rw [hml]; rfl) (Steps.refl _) (argsL := []) (rest := []) (lenOf own_pd_9 rfl) rfl (by show 2 * 0 + _ ≤ _; exact Nat.le_of_eq rfl) (hb hby at_329) (fun _ _ => ⟨rfl, eh645, (by decide : 8 + 0 ≤ _), (by decide : 53 + 0 ≤ _)⟩)
          dsimp only [Pt.U, Pt.locs, Pt.cells, Pt.slots] at X648 l648 y648 z648 st648 hQ648
          subst l648 y648 z648
          obtain ⟨rfl, N648q, Lw648, Qw648⟩ := hQ648
          have f651 := Nat.le_trans f636 Lw648.1
          have f652 := Lw648.exa f637 lne143
          have f653 := Lw648.fld f638 lne143
          have f654 := Lw648.exa f639 lne144
          have f655 := Lw648.fld f640 lne144
          have f656 := Lw648.exa f641 lne145
          have f657 := Lw648.fld f642 lne145
          have Q658 : own_QI Z T648.heap n0 b142 (.ref b76) (.ref b87) .null v11 (v11 + (1 : Int64)) (v11 + (2 : Int64)) (0 : Int32) (3 : Int32) (2 : Int32) := Qw648
          have N648 := Fr.app N645 N648q
          have pre659 : ∀ t, own_S p e below T648 m 379 #[sI p1, sJ q2, sW, sI 3, sI c0, sI c1, sI c2, sI e0_, sI e1_, sI e2_, sI again, sJ v11, sW, sR b76, sR b87, sR b109, sR b142, sI 1, sI 1, sI 0, sR b76, sR b76, sI 2, sU] [(.ref b142)] t → R0 t := fun t k => pre646 t (by
            refine st648.trans ?_
            refine XS.astore X648.here hx rfl (hb hby at_332) rfl rfl (l' := #[sI p1, sJ q2, sW, sI 3, sI c0, sI c1, sI c2, sI e0_, sI e1_, sI e2_, sI again, sJ v11, sW, sR b76, sR b87, sR b109, sR b142, sI 1, sI 1, sI 0, sR b76, sR b76, sU, sU]) rfl ?_
            refine XS.aload X648.here hx rfl (hb hby at_334) rfl rfl ?_
            refine XS.aload X648.here hx rfl (hb hby at_336) rfl rfl ?_
            refine Jvm.RoadKit.acmp (g := (mkF m 338 #[sI p1, sJ q2, sW, sI 3, sI c0, sI c1, sI c2, sI e0_, sI e1_, sI e2_, sI again, sJ v11, sW, sR b76, sR b87, sR b109, sR b142, sI 1, sI 1, sI 0, sR b76, sR b76, sU, sU] [(.ref b76), (.ref b76)])) X648 hx rfl rfl rfl (pc0 := 338) (pc' := 343) (same := true) rfl (hb hby at_338) rfl (decide_eq_true rfl) (by decide) (by decide) ?_
            refine XS.iload X648.here hx rfl (hb hby at_343) rfl ?_
            refine XS.ifNo X648.here hx rfl (hb hby at_345) rfl ((if0 _ _).trans (feq (by decide : ¬ ((1 : Int32) = (0 : Int32)))).1) ?_
            refine XS.iconst X648.here hx rfl (hb hby at_348) ?_
            refine XS.goto X648.here hx rfl (pc0 := 349) (pc' := 353) rfl (hb hby at_349) (by decide) (by decide) ?_
            refine XS.iload X648.here hx rfl (hb hby at_353) rfl ?_
            refine XS.ifNo X648.here hx rfl (hb hby at_355) rfl ((if0 _ _).trans (feq (by decide : ¬ ((1 : Int32) = (0 : Int32)))).1) ?_
            refine XS.iconst X648.here hx rfl (hb hby at_358) ?_
            refine XS.goto X648.here hx rfl (pc0 := 359) (pc' := 363) rfl (hb hby at_359) (by decide) (by decide) ?_
            refine XS.iadd X648.here hx rfl (hb hby at_363) rfl ?_
            refine XS.iload X648.here hx rfl (hb hby at_364) rfl ?_
            refine XS.ifYes X648.here hx rfl (pc0 := 366) (pc' := 373) rfl (hb hby at_366) rfl ((if0 _ _).trans (teq (by decide : (0 : Int32) = (0 : Int32))).1) (by decide) (by decide) ?_
            refine XS.iconst X648.here hx rfl (hb hby at_373) ?_
            refine XS.iadd X648.here hx rfl (hb hby at_374) rfl ?_
            refine XS.istore X648.here hx rfl (hb hby at_375) rfl (l' := #[sI p1, sJ q2, sW, sI 3, sI c0, sI c1, sI c2, sI e0_, sI e1_, sI e2_, sI again, sJ v11, sW, sR b76, sR b87, sR b109, sR b142, sI 1, sI 1, sI 0, sR b76, sR b76, sI 2, sU]) rfl ?_
            refine XS.aload X648.here hx rfl (hb hby at_377) rfl rfl ?_
            exact k)
          have ex661 := own_QI_exa Q658
          have ex662 := own_QI_exa Q658
          obtain ⟨cq660, kq660, q660a, q660b, q660c⟩ := isOf hZ rfl ex662
          obtain ⟨_, _, ⟨T660, L660, k660, n660⟩, -, X660, ⟨Lc660, hQ660, l660, y660, z660⟩, st660⟩ := X648.virtualBack hx (y := own_y4) (z := own_y4) hown (mvT hZ hw56) (mvT hZ hw57) (notFace_of_selects (args := #[]) (mvT hZ hw59)) (mvT hZ hw59) (mvT hZ hw58) (by decide) (backOf (W := 0) (own_rm7 l Z a0 hw [] b142 (.ref b76) (.ref b87) .null v11 (v11 + (1 : Int64)) (v11 + (2 : Int64)) (0 : Int32) (3 : Int32) (2 : Int32) T648.heap n0 f651 Q658) hZ hw60 hw25 (by decide) (by decide)) q660a q660c (g := (mkF m 379 #[sI p1, sJ q2, sW, sI 3, sI c0, sI c1, sI c2, sI e0_, sI e1_, sI e2_, sI again, sJ v11, sW, sR b76, sR b87, sR b109, sR b142, sI 1, sI 1, sI 0, sR b76, sR b76, sI 2, sU] [(.ref b142)])) rfl (by rw [hml]; rfl) (Steps.refl _) (argsL := []) (rest := []) (lenOf own_pd_10 rfl) rfl (by show 2 * 0 + _ ≤ _; exact Nat.le_of_eq rfl) (hb hby at_379) (fun _ _ => ⟨rfl, rfl, (by decide : 8 + 0 ≤ _), (by decide : 53 + 0 ≤ _)⟩)
          dsimp only [Pt.U, Pt.locs, Pt.cells, Pt.slots] at X660 l660 y660 z660 st660 hQ660
          subst l660 y660 z660
          obtain ⟨rfl, N660q, eh660⟩ := hQ660
          have N660 := Fr.app N648 N660q
          have pre663 : ∀ t, own_S p e below T660 m 391 #[sI p1, sJ q2, sW, sI 3, sI c0, sI c1, sI c2, sI e0_, sI e1_, sI e2_, sI again, sJ v11, sW, sR b76, sR b87, sR b109, sR b142, sI 1, sI 1, sI 0, sR b76, sR b76, sI 2, sU] [(.int again)] t → R0 t := fun t k => pre659 t (by
            refine st660.trans ?_
            refine XS.iload X660.here hx rfl (hb hby at_382) rfl ?_
            refine XS.icmpYes X660.here hx rfl (pc0 := 384) (pc' := 389) rfl (hb hby at_384) rfl (teq (by decide : (2 : Int32) = (2 : Int32))).1 (by decide) (by decide) ?_
            refine XS.iload X660.here hx rfl (hb hby at_389) rfl ?_
            exact k)
          by_cases hc391 : again = (0 : Int32)
          · have pre664 : ∀ t, own_S p e below T660 m 400 #[sI p1, sJ q2, sW, sI 3, sI c0, sI c1, sI c2, sI e0_, sI e1_, sI e2_, sI again, sJ v11, sW, sR b76, sR b87, sR b109, sR b142, sI 1, sI 1, sI 0, sR b76, sR b76, sI 2, sU] [(.int 1)] t → R0 t := fun t k => pre663 t (by
              refine XS.ifYes X660.here hx rfl (pc0 := 391) (pc' := 399) rfl (hb hby at_391) rfl ((if0 _ _).trans (teq hc391).1) (by decide) (by decide) ?_
              refine XS.iconst X660.here hx rfl (hb hby at_399) ?_
              exact k)
            obtain ⟨fs, hr, hrun, hended, hW, hsame⟩ := X660.leave (v := some (.int 1)) (fun h => by rw [Bd.returns] at h; cases h)
            refine ⟨_, _, cast (congrFun hR0 _) (pre664 _ (retN X660 hx (t := .boolean) Bd.returns (by simp) (hb hby at_400) hr)), hrun, hended, _, _, rfl, ?_, ⟨_, rfl⟩, hW, hsame.mono (by decide) (by decide)⟩
            show own_Q0 Z _ _ h0 n0 _ T660.heap _
            rw [eh660]
            exact ⟨rfl, N660⟩
          · have pre665 : ∀ t, own_S p e below T660 m 405 #[sI p1, sJ q2, sW, sI 3, sI c0, sI c1, sI c2, sI e0_, sI e1_, sI e2_, sI again, sJ v11, sW, sR b76, sR b87, sR b109, sR b142, sI 1, sI 1, sI 0, sR b76, sR b76, sI 2, sU] [(.ref b76), (.ref b142)] t → R0 t := fun t k => pre663 t (by
              refine XS.ifNo X660.here hx rfl (hb hby at_391) rfl ((if0 _ _).trans (feq hc391).1) ?_
              refine XS.aload X660.here hx rfl (hb hby at_394) rfl rfl ?_
              refine XS.ifnonnullYes X660.here hx rfl (pc0 := 396) (pc' := 401) rfl (hb hby at_396) rfl (by decide) (by decide) ?_
              refine XS.aload X660.here hx rfl (hb hby at_401) rfl rfl ?_
              refine XS.aload X660.here hx rfl (hb hby at_403) rfl rfl ?_
              exact k)
            have hp666 : ((0 : Int32) = (0 : Int32) ∧ (3 : Int32) = (1 : Int32)) ∨ ((0 : Int32) = (0 : Int32) ∧ (3 : Int32) = (2 : Int32)) ∨ ((0 : Int32) = (0 : Int32) ∧ (3 : Int32) = (3 : Int32)) := by decide
            have hp667 : ((1 : Int32) < (3 : Int32) → v11 < (v11 + (1 : Int64))) ∧ ((2 : Int32) < (3 : Int32) → (v11 + (1 : Int64)) < (v11 + (2 : Int64))) := ⟨fun _ => hq01, fun _ => hq12⟩
            have hp668 : b76 < b142 := lne143
            have ex670 := own_QI_exa Q658
            have ex671 := own_QI_exa Q658
            obtain ⟨cq669, kq669, q669a, q669b, q669c⟩ := isOf hZ eh660 ex671
            obtain ⟨_, _, ⟨T669, L669, k669, n669⟩, -, X669, ⟨Lc669, hQ669, l669, y669, z669⟩, st669⟩ := X660.virtualBack hx (y := own_y10) (z := own_y10) hown (mvT hZ hw82) (mvT hZ hw83) (notFace_of_selects (args := #[]) (mvT hZ hw85)) (mvT hZ hw85) (mvT hZ hw84) (by decide) (backOf (W := 0) (own_rm11j0 l Z a0 hw [] b142 b76 (.ref b87) .null v11 (v11 + (1 : Int64)) (v11 + (2 : Int64)) (0 : Int32) (3 : Int32) (2 : Int32) T648.heap n0 f651 Q658 f652 f653 hp666 hp667 hp668) hZ hw86 hw25 (by decide) (by decide)) q669a q669c (g := (mkF m 405 #[sI p1, sJ q2, sW, sI 3, sI c0, sI c1, sI c2, sI e0_, sI e1_, sI e2_, sI again, sJ v11, sW, sR b76, sR b87, sR b109, sR b142, sI 1, sI 1, sI 0, sR b76, sR b76, sI 2, sU] [(.ref b76), (.ref b142)])) rfl (by rw [hml]; rfl) (Steps.refl _) (argsL := [(.ref b76)]) (rest := []) (lenOf own_pd_12 rfl) rfl (by show 2 * 0 + _ ≤ _; exact Nat.le_of_eq rfl) (hb hby at_405) (fun _ _ => ⟨rfl, eh660, (by decide : 8 + 0 ≤ _), (by decide : 53 + 0 ≤ _)⟩)
            dsimp only [Pt.U, Pt.locs, Pt.cells, Pt.slots] at X669 l669 y669 z669 st669 hQ669
            subst l669 y669 z669
            obtain ⟨rfl, N669q, Lw669, Qw669⟩ := hQ669
            have f672 := Nat.le_trans f651 Lw669.1
            have f673 := Lw669.exa f652 lne143
            have f674 := Lw669.fld f653 lne143
            have f675 := Lw669.exa f654 lne144
            have f676 := Lw669.fld f655 lne144
            have f677 := Lw669.exa f656 lne145
            have f678 := Lw669.fld f657 lne145
            have Q679 : own_QI Z T669.heap n0 b142 .null (.ref b87) .null v11 (v11 + (1 : Int64)) (v11 + (2 : Int64)) (0 : Int32) (3 : Int32) (1 : Int32) := Qw669
            have N669 := Fr.app N660 N669q
            have pre680 : ∀ t, own_S p e below T669 m 449 #[sI p1, sJ q2, sW, sI 3, sI c0, sI c1, sI c2, sI e0_, sI e1_, sI e2_, sI again, sJ v11, sW, sR b76, sR b87, sR b109, sR b142, sI 0, sI 1, sI 0, sR b76, sR b76, sI 2, sU] [(.ref b109), (.ref b87), (.ref b76), (.int 0), (.int 1), (.int 0)] t → R0 t := fun t k => pre665 t (by
              refine st669.trans ?_
              refine XS.aload X669.here hx rfl (hb hby at_408) rfl rfl ?_
              refine XS.aload X669.here hx rfl (hb hby at_410) rfl rfl ?_
              refine Jvm.RoadKit.acmp (g := (mkF m 412 #[sI p1, sJ q2, sW, sI 3, sI c0, sI c1, sI c2, sI e0_, sI e1_, sI e2_, sI again, sJ v11, sW, sR b76, sR b87, sR b109, sR b142, sI 1, sI 1, sI 0, sR b76, sR b76, sI 2, sU] [(.ref b76), (.ref b76)])) X669 hx rfl rfl rfl (pc0 := 412) (pc' := 415) (same := true) rfl (hb hby at_412) rfl (decide_eq_true rfl) (by decide) (by decide) ?_
              refine XS.iconst X669.here hx rfl (hb hby at_415) ?_
              refine XS.istore X669.here hx rfl (hb hby at_416) rfl (l' := #[sI p1, sJ q2, sW, sI 3, sI c0, sI c1, sI c2, sI e0_, sI e1_, sI e2_, sI again, sJ v11, sW, sR b76, sR b87, sR b109, sR b142, sI 0, sI 1, sI 0, sR b76, sR b76, sI 2, sU]) rfl ?_
              refine XS.goto X669.here hx rfl (pc0 := 418) (pc' := 437) rfl (hb hby at_418) (by decide) (by decide) ?_
              refine XS.iload X669.here hx rfl (hb hby at_437) rfl ?_
              refine XS.iload X669.here hx rfl (hb hby at_439) rfl ?_
              refine XS.iload X669.here hx rfl (hb hby at_441) rfl ?_
              refine XS.aload X669.here hx rfl (hb hby at_443) rfl rfl ?_
              refine XS.aload X669.here hx rfl (hb hby at_445) rfl rfl ?_
              refine XS.aload X669.here hx rfl (hb hby at_447) rfl rfl ?_
              exact k)
            obtain ⟨_, _, ⟨T681, L681, k681, n681⟩, -, X681, ⟨Lc681, hQ681, l681, y681, z681⟩, st681⟩ := Jvm.LawKit.callS X669 hx (y := own_y12) hown (mvT hZ hw45) (mvT hZ hw46) (mvT hZ hw47) (mvT hZ hw48) (by decide) (backOf (W := 0) (own_rm5b l Z a0 hw [] (0 : Int32) b76 b87 b109 T669.heap n0 f672 ) hZ hw48 hw47 (by decide) (by decide)) (g := (mkF m 449 #[sI p1, sJ q2, sW, sI 3, sI c0, sI c1, sI c2, sI e0_, sI e1_, sI e2_, sI again, sJ v11, sW, sR b76, sR b87, sR b109, sR b142, sI 0, sI 1, sI 0, sR b76, sR b76, sI 2, sU] [(.ref b109), (.ref b87), (.ref b76), (.int 0), (.int 1), (.int 0)])) rfl (by rw [hml]; rfl) (argsL := [(.int 0), (.int 1), (.int 0), (.ref b76), (.ref b87), (.ref b109)]) (rest := []) (lenOf own_pd_8 rfl) rfl (by show 2 * 0 + _ ≤ _; exact Nat.le_of_eq rfl) (hb hby at_449) (fun _ _ => ⟨rfl, rfl, (by decide : 8 + 0 ≤ _), (by decide : 53 + 0 ≤ _)⟩)
            dsimp only [Pt.U, Pt.locs, Pt.cells, Pt.slots] at X681 l681 y681 z681 st681 hQ681
            subst l681 y681 z681
            obtain ⟨rfl, N681q, eh681⟩ := hQ681
            have N681 := Fr.app N669 N681q
            have pre682 : ∀ t, own_S p e below T681 m 456 #[sI p1, sJ q2, sW, sI 3, sI c0, sI c1, sI c2, sI e0_, sI e1_, sI e2_, sI again, sJ v11, sW, sR b76, sR b87, sR b109, sR b142, sI 0, sI 1, sI 0, sR b76, sR b76, sI 2, sR b87] [(.ref b142)] t → R0 t := fun t k => pre680 t (by
              refine st681 _ ?_
              refine XS.astore X681.here hx rfl (hb hby at_452) rfl rfl (l' := #[sI p1, sJ q2, sW, sI 3, sI c0, sI c1, sI c2, sI e0_, sI e1_, sI e2_, sI again, sJ v11, sW, sR b76, sR b87, sR b109, sR b142, sI 0, sI 1, sI 0, sR b76, sR b76, sI 2, sR b87]) rfl ?_
              refine XS.aload X681.here hx rfl (hb hby at_454) rfl rfl ?_
              exact k)
            have hp683 : ¬ ((1 : Int32) = (0 : Int32)) := by decide
            have ex685 := own_QI_exa Q679
            have ex686 := own_QI_exa Q679
            obtain ⟨cq684, kq684, q684a, q684b, q684c⟩ := isOf hZ eh681 ex686
            obtain ⟨_, _, ⟨T684, L684, k684, n684⟩, -, X684, ⟨Lc684, hQ684, l684, y684, z684⟩, st684⟩ := X681.virtualBack hx (y := own_y11) (z := own_y11) hown (mvT hZ hw49) (mvT hZ hw50) (notFace_of_selects (args := #[]) (mvT hZ hw52)) (mvT hZ hw52) (mvT hZ hw51) (by decide) (backOf (W := 0) (own_rm6h0f1 l Z a0 hw [] b142 b87 .null v11 (v11 + (1 : Int64)) (v11 + (2 : Int64)) (3 : Int32) (1 : Int32) T669.heap n0 f672 Q679 hp683) hZ hw53 hw25 (by decide) (by decide)) q684a q684c (g := (mkF m 456 #[sI p1, sJ q2, sW, sI 3, sI c0, sI c1, sI c2, sI e0_, sI e1_, sI e2_, sI again, sJ v11, sW, sR b76, sR b87, sR b109, sR b142, sI 0, sI 1, sI 0, sR b76, sR b76, sI 2, sR b87] [(.ref b142)])) rfl (by rw [hml]; rfl) (Steps.refl _) (argsL := []) (rest := []) (lenOf own_pd_9 rfl) rfl (by show 2 * 0 + _ ≤ _; exact Nat.le_of_eq rfl) (hb hby at_456) (fun _ _ => ⟨rfl, eh681, (by decide : 8 + 0 ≤ _), (by decide : 53 + 0 ≤ _)⟩)
            dsimp only [Pt.U, Pt.locs, Pt.cells, Pt.slots] at X684 l684 y684 z684 st684 hQ684
            subst l684 y684 z684
            obtain ⟨rfl, N684q, Lw684, Qw684⟩ := hQ684
            have f687 := Nat.le_trans f672 Lw684.1
            have f688 := Lw684.exa f673 lne143
            have f689 := Lw684.fld f674 lne143
            have f690 := Lw684.exa f675 lne144
            have f691 := Lw684.fld f676 lne144
            have f692 := Lw684.exa f677 lne145
            have f693 := Lw684.fld f678 lne145
            have Q694 : own_QI Z T684.heap n0 b142 .null (.ref b87) .null v11 (v11 + (1 : Int64)) (v11 + (2 : Int64)) (1 : Int32) (3 : Int32) (1 : Int32) := Qw684
            have N684 := Fr.app N681 N684q
            have pre695 : ∀ t, own_S p e below T684 m 469 #[sI p1, sJ q2, sW, sI 3, sI c0, sI c1, sI c2, sI e0_, sI e1_, sI e2_, sI again, sJ v11, sW, sR b76, sR b87, sR b109, sR b142, sI 0, sI 1, sI 0, sR b76, sR b76, sI 2, sR b87] [(.int 1)] t → R0 t := fun t k => pre682 t (by
              refine st684.trans ?_
              refine XS.aload X684.here hx rfl (hb hby at_459) rfl rfl ?_
              refine Jvm.RoadKit.acmp (g := (mkF m 461 #[sI p1, sJ q2, sW, sI 3, sI c0, sI c1, sI c2, sI e0_, sI e1_, sI e2_, sI again, sJ v11, sW, sR b76, sR b87, sR b109, sR b142, sI 0, sI 1, sI 0, sR b76, sR b76, sI 2, sR b87] [(.ref b87), (.ref b87)])) X684 hx rfl rfl rfl (pc0 := 461) (pc' := 464) (same := true) rfl (hb hby at_461) rfl (decide_eq_true rfl) (by decide) (by decide) ?_
              refine XS.iconst X684.here hx rfl (hb hby at_464) ?_
              refine XS.goto X684.here hx rfl (pc0 := 465) (pc' := 469) rfl (hb hby at_465) (by decide) (by decide) ?_
              exact k)
            obtain ⟨fs, hr, hrun, hended, hW, hsame⟩ := X684.leave (v := some (.int 1)) (fun h => by rw [Bd.returns] at h; cases h)
            refine ⟨_, _, cast (congrFun hR0 _) (pre695 _ (retN X684 hx (t := .boolean) Bd.returns (by simp) (hb hby at_469) hr)), hrun, hended, _, _, rfl, ?_, ⟨_, rfl⟩, hW, hsame.mono (by decide) (by decide)⟩
            show own_Q0 Z _ _ h0 n0 _ T684.heap _
            exact ⟨rfl, N684⟩
      · have pre696 : ∀ t, own_S p e below T563 m 250 #[sI p1, sJ q2, sW, sI 3, sI c0, sI c1, sI c2, sI e0_, sI e1_, sI e2_, sI again, sJ v11, sW, sR b76, sR b87, sR b109, sR b142, sI 1, sI 0, sU, sU, sU, sU, sU] [(.int e2_)] t → R0 t := fun t k => pre575 t (by
          refine XS.ifYes X563.here hx rfl (pc0 := 233) (pc' := 240) rfl (hb hby at_233) rfl ((if0 _ _).trans (feq hc233).2) (by decide) (by decide) ?_
          refine XS.iconst X563.here hx rfl (hb hby at_240) ?_
          refine XS.istore X563.here hx rfl (hb hby at_241) rfl (l' := #[sI p1, sJ q2, sW, sI 3, sI c0, sI c1, sI c2, sI e0_, sI e1_, sI e2_, sI again, sJ v11, sW, sR b76, sR b87, sR b109, sR b142, sI 1, sI 0, sU, sU, sU, sU, sU]) rfl ?_
          refine XS.iloadN X563.here hx rfl (hb hby at_243) rfl ?_
          refine XS.iconst X563.here hx rfl (hb hby at_244) ?_
          refine XS.icmpNo X563.here hx rfl (hb hby at_245) rfl (tlt (by decide : (2 : Int32) < (3 : Int32))).2.2.2 ?_
          refine XS.iload X563.here hx rfl (hb hby at_248) rfl ?_
          exact k)
        by_cases hc250 : e2_ = (0 : Int32)
        · have pre697 : ∀ t, own_S p e below T563 m 290 #[sI p1, sJ q2, sW, sI 3, sI c0, sI c1, sI c2, sI e0_, sI e1_, sI e2_, sI again, sJ v11, sW, sR b76, sR b87, sR b109, sR b142, sI 1, sI 0, sI 1, sU, sU, sU, sU] [(.ref b87), (.ref b142)] t → R0 t := fun t k => pre696 t (by
            refine XS.ifNo X563.here hx rfl (hb hby at_250) rfl ((if0 _ _).trans (teq hc250).2) ?_
            refine XS.iconst X563.here hx rfl (hb hby at_253) ?_
            refine XS.goto X563.here hx rfl (pc0 := 254) (pc' := 258) rfl (hb hby at_254) (by decide) (by decide) ?_
            refine XS.istore X563.here hx rfl (hb hby at_258) rfl (l' := #[sI p1, sJ q2, sW, sI 3, sI c0, sI c1, sI c2, sI e0_, sI e1_, sI e2_, sI again, sJ v11, sW, sR b76, sR b87, sR b109, sR b142, sI 1, sI 0, sI 1, sU, sU, sU, sU]) rfl ?_
            refine XS.iloadN X563.here hx rfl (hb hby at_260) rfl ?_
            refine XS.ifNo X563.here hx rfl (hb hby at_261) rfl ((if0 _ _).trans (tlt (by decide : (0 : Int32) < (3 : Int32))).2.2.2) ?_
            refine XS.iload X563.here hx rfl (hb hby at_264) rfl ?_
            refine XS.ifYes X563.here hx rfl (pc0 := 266) (pc' := 276) rfl (hb hby at_266) rfl ((if0 _ _).trans (teq hc216).1) (by decide) (by decide) ?_
            refine XS.iloadN X563.here hx rfl (hb hby at_276) rfl ?_
            refine XS.iconst X563.here hx rfl (hb hby at_277) ?_
            refine XS.icmpNo X563.here hx rfl (hb hby at_278) rfl (tlt (by decide : (1 : Int32) < (3 : Int32))).2.2.2 ?_
            refine XS.iload X563.here hx rfl (hb hby at_281) rfl ?_
            refine XS.ifNo X563.here hx rfl (hb hby at_283) rfl ((if0 _ _).trans (feq hc233).1) ?_
            refine XS.aload X563.here hx rfl (hb hby at_286) rfl rfl ?_
            refine XS.aload X563.here hx rfl (hb hby at_288) rfl rfl ?_
            exact k)
          have hp698 : ((0 : Int32) = (0 : Int32) ∧ (3 : Int32) = (2 : Int32)) ∨ ((0 : Int32) = (0 : Int32) ∧ (3 : Int32) = (3 : Int32)) ∨ ((0 : Int32) = (1 : Int32) ∧ (3 : Int32) = (2 : Int32)) ∨ ((0 : Int32) = (1 : Int32) ∧ (3 : Int32) = (3 : Int32)) := by decide
          have hp699 : ((1 : Int32) < (3 : Int32) → v11 < (v11 + (1 : Int64))) ∧ ((2 : Int32) < (3 : Int32) → (v11 + (1 : Int64)) < (v11 + (2 : Int64))) := ⟨fun _ => hq01, fun _ => hq12⟩
          have hp700 : b87 < b142 := lne144
          have ex702 := own_QI_exa Q573
          have ex703 := own_QI_exa Q573
          obtain ⟨cq701, kq701, q701a, q701b, q701c⟩ := isOf hZ rfl ex703
          obtain ⟨_, _, ⟨T701, L701, k701, n701⟩, -, X701, ⟨Lc701, hQ701, l701, y701, z701⟩, st701⟩ := X563.virtualBack hx (y := own_y10) (z := own_y10) hown (mvT hZ hw82) (mvT hZ hw83) (notFace_of_selects (args := #[]) (mvT hZ hw85)) (mvT hZ hw85) (mvT hZ hw84) (by decide) (backOf (W := 0) (own_rm11j1 l Z a0 hw [] b142 b87 (.ref b76) (.ref b109) v11 (v11 + (1 : Int64)) (v11 + (2 : Int64)) (0 : Int32) (3 : Int32) (3 : Int32) T563.heap n0 f566 Q573 f569 f570 hp698 hp699 hp700) hZ hw86 hw25 (by decide) (by decide)) q701a q701c (g := (mkF m 290 #[sI p1, sJ q2, sW, sI 3, sI c0, sI c1, sI c2, sI e0_, sI e1_, sI e2_, sI again, sJ v11, sW, sR b76, sR b87, sR b109, sR b142, sI 1, sI 0, sI 1, sU, sU, sU, sU] [(.ref b87), (.ref b142)])) rfl (by rw [hml]; rfl) (Steps.refl _) (argsL := [(.ref b87)]) (rest := []) (lenOf own_pd_12 rfl) rfl (by show 2 * 0 + _ ≤ _; exact Nat.le_of_eq rfl) (hb hby at_290) (fun _ _ => ⟨rfl, rfl, (by decide : 8 + 0 ≤ _), (by decide : 53 + 0 ≤ _)⟩)
          dsimp only [Pt.U, Pt.locs, Pt.cells, Pt.slots] at X701 l701 y701 z701 st701 hQ701
          subst l701 y701 z701
          obtain ⟨rfl, N701q, Lw701, Qw701⟩ := hQ701
          have f704 := Nat.le_trans f566 Lw701.1
          have f705 := Lw701.exa f567 lne143
          have f706 := Lw701.fld f568 lne143
          have f707 := Lw701.exa f569 lne144
          have f708 := Lw701.fld f570 lne144
          have f709 := Lw701.exa f571 lne145
          have f710 := Lw701.fld f572 lne145
          have Q711 : own_QI Z T701.heap n0 b142 (.ref b76) .null (.ref b109) v11 (v11 + (1 : Int64)) (v11 + (2 : Int64)) (0 : Int32) (3 : Int32) (2 : Int32) := Qw701
          have N701 := Fr.app N563 N701q
          have pre712 : ∀ t, own_S p e below T701 m 322 #[sI p1, sJ q2, sW, sI 3, sI c0, sI c1, sI c2, sI e0_, sI e1_, sI e2_, sI again, sJ v11, sW, sR b76, sR b87, sR b109, sR b142, sI 1, sI 0, sI 1, sU, sU, sU, sU] [(.ref b109), (.ref b87), (.ref b76), (.int 1), (.int 0), (.int 1)] t → R0 t := fun t k => pre697 t (by
            refine st701.trans ?_
            refine XS.iloadN X701.here hx rfl (hb hby at_293) rfl ?_
            refine XS.iconst X701.here hx rfl (hb hby at_294) ?_
            refine XS.icmpNo X701.here hx rfl (hb hby at_295) rfl (tlt (by decide : (2 : Int32) < (3 : Int32))).2.2.2 ?_
            refine XS.iload X701.here hx rfl (hb hby at_298) rfl ?_
            refine XS.ifYes X701.here hx rfl (pc0 := 300) (pc' := 310) rfl (hb hby at_300) rfl ((if0 _ _).trans (teq hc250).1) (by decide) (by decide) ?_
            refine XS.iload X701.here hx rfl (hb hby at_310) rfl ?_
            refine XS.iload X701.here hx rfl (hb hby at_312) rfl ?_
            refine XS.iload X701.here hx rfl (hb hby at_314) rfl ?_
            refine XS.aload X701.here hx rfl (hb hby at_316) rfl rfl ?_
            refine XS.aload X701.here hx rfl (hb hby at_318) rfl rfl ?_
            refine XS.aload X701.here hx rfl (hb hby at_320) rfl rfl ?_
            exact k)
          obtain ⟨_, _, ⟨T713, L713, k713, n713⟩, -, X713, ⟨Lc713, hQ713, l713, y713, z713⟩, st713⟩ := Jvm.LawKit.callS X701 hx (y := own_y12) hown (mvT hZ hw45) (mvT hZ hw46) (mvT hZ hw47) (mvT hZ hw48) (by decide) (backOf (W := 0) (own_rm5a l Z a0 hw [] (0 : Int32) (1 : Int32) b76 b87 b109 T701.heap n0 f704 ) hZ hw48 hw47 (by decide) (by decide)) (g := (mkF m 322 #[sI p1, sJ q2, sW, sI 3, sI c0, sI c1, sI c2, sI e0_, sI e1_, sI e2_, sI again, sJ v11, sW, sR b76, sR b87, sR b109, sR b142, sI 1, sI 0, sI 1, sU, sU, sU, sU] [(.ref b109), (.ref b87), (.ref b76), (.int 1), (.int 0), (.int 1)])) rfl (by rw [hml]; rfl) (argsL := [(.int 1), (.int 0), (.int 1), (.ref b76), (.ref b87), (.ref b109)]) (rest := []) (lenOf own_pd_8 rfl) rfl (by show 2 * 0 + _ ≤ _; exact Nat.le_of_eq rfl) (hb hby at_322) (fun _ _ => ⟨rfl, rfl, (by decide : 8 + 0 ≤ _), (by decide : 53 + 0 ≤ _)⟩)
          dsimp only [Pt.U, Pt.locs, Pt.cells, Pt.slots] at X713 l713 y713 z713 st713 hQ713
          subst l713 y713 z713
          obtain ⟨rfl, N713q, eh713⟩ := hQ713
          have N713 := Fr.app N701 N713q
          have pre714 : ∀ t, own_S p e below T713 m 329 #[sI p1, sJ q2, sW, sI 3, sI c0, sI c1, sI c2, sI e0_, sI e1_, sI e2_, sI again, sJ v11, sW, sR b76, sR b87, sR b109, sR b142, sI 1, sI 0, sI 1, sR b76, sU, sU, sU] [(.ref b142)] t → R0 t := fun t k => pre712 t (by
            refine st713 _ ?_
            refine XS.astore X713.here hx rfl (hb hby at_325) rfl rfl (l' := #[sI p1, sJ q2, sW, sI 3, sI c0, sI c1, sI c2, sI e0_, sI e1_, sI e2_, sI again, sJ v11, sW, sR b76, sR b87, sR b109, sR b142, sI 1, sI 0, sI 1, sR b76, sU, sU, sU]) rfl ?_
            refine XS.aload X713.here hx rfl (hb hby at_327) rfl rfl ?_
            exact k)
          have hp715 : ¬ ((2 : Int32) = (0 : Int32)) := by decide
          have ex717 := own_QI_exa Q711
          have ex718 := own_QI_exa Q711
          obtain ⟨cq716, kq716, q716a, q716b, q716c⟩ := isOf hZ eh713 ex718
          obtain ⟨_, _, ⟨T716, L716, k716, n716⟩, -, X716, ⟨Lc716, hQ716, l716, y716, z716⟩, st716⟩ := X713.virtualBack hx (y := own_y11) (z := own_y11) hown (mvT hZ hw49) (mvT hZ hw50) (notFace_of_selects (args := #[]) (mvT hZ hw52)) (mvT hZ hw52) (mvT hZ hw51) (by decide) (backOf (W := 0) (own_rm6h0f0 l Z a0 hw [] b142 b76 .null (.ref b109) v11 (v11 + (1 : Int64)) (v11 + (2 : Int64)) (3 : Int32) (2 : Int32) T701.heap n0 f704 Q711 hp715) hZ hw53 hw25 (by decide) (by decide)) q716a q716c (g := (mkF m 329 #[sI p1, sJ q2, sW, sI 3, sI c0, sI c1, sI c2, sI e0_, sI e1_, sI e2_, sI again, sJ v11, sW, sR b76, sR b87, sR b109, sR b142, sI 1, sI 0, sI 1, sR b76, sU, sU, sU] [(.ref b142)])) rfl (by rw [hml]; rfl) (Steps.refl _) (argsL := []) (rest := []) (lenOf own_pd_9 rfl) rfl (by show 2 * 0 + _ ≤ _; exact Nat.le_of_eq rfl) (hb hby at_329) (fun _ _ => ⟨rfl, eh713, (by decide : 8 + 0 ≤ _), (by decide : 53 + 0 ≤ _)⟩)
          dsimp only [Pt.U, Pt.locs, Pt.cells, Pt.slots] at X716 l716 y716 z716 st716 hQ716
          subst l716 y716 z716
          obtain ⟨rfl, N716q, Lw716, Qw716⟩ := hQ716
          have f719 := Nat.le_trans f704 Lw716.1
          have f720 := Lw716.exa f705 lne143
          have f721 := Lw716.fld f706 lne143
          have f722 := Lw716.exa f707 lne144
          have f723 := Lw716.fld f708 lne144
          have f724 := Lw716.exa f709 lne145
          have f725 := Lw716.fld f710 lne145
          have Q726 : own_QI Z T716.heap n0 b142 (.ref b76) .null (.ref b109) v11 (v11 + (1 : Int64)) (v11 + (2 : Int64)) (0 : Int32) (3 : Int32) (2 : Int32) := Qw716
          have N716 := Fr.app N713 N716q
          have pre727 : ∀ t, own_S p e below T716 m 379 #[sI p1, sJ q2, sW, sI 3, sI c0, sI c1, sI c2, sI e0_, sI e1_, sI e2_, sI again, sJ v11, sW, sR b76, sR b87, sR b109, sR b142, sI 1, sI 0, sI 1, sR b76, sR b76, sI 2, sU] [(.ref b142)] t → R0 t := fun t k => pre714 t (by
            refine st716.trans ?_
            refine XS.astore X716.here hx rfl (hb hby at_332) rfl rfl (l' := #[sI p1, sJ q2, sW, sI 3, sI c0, sI c1, sI c2, sI e0_, sI e1_, sI e2_, sI again, sJ v11, sW, sR b76, sR b87, sR b109, sR b142, sI 1, sI 0, sI 1, sR b76, sR b76, sU, sU]) rfl ?_
            refine XS.aload X716.here hx rfl (hb hby at_334) rfl rfl ?_
            refine XS.aload X716.here hx rfl (hb hby at_336) rfl rfl ?_
            refine Jvm.RoadKit.acmp (g := (mkF m 338 #[sI p1, sJ q2, sW, sI 3, sI c0, sI c1, sI c2, sI e0_, sI e1_, sI e2_, sI again, sJ v11, sW, sR b76, sR b87, sR b109, sR b142, sI 1, sI 0, sI 1, sR b76, sR b76, sU, sU] [(.ref b76), (.ref b76)])) X716 hx rfl rfl rfl (pc0 := 338) (pc' := 343) (same := true) rfl (hb hby at_338) rfl (decide_eq_true rfl) (by decide) (by decide) ?_
            refine XS.iload X716.here hx rfl (hb hby at_343) rfl ?_
            refine XS.ifNo X716.here hx rfl (hb hby at_345) rfl ((if0 _ _).trans (feq (by decide : ¬ ((1 : Int32) = (0 : Int32)))).1) ?_
            refine XS.iconst X716.here hx rfl (hb hby at_348) ?_
            refine XS.goto X716.here hx rfl (pc0 := 349) (pc' := 353) rfl (hb hby at_349) (by decide) (by decide) ?_
            refine XS.iload X716.here hx rfl (hb hby at_353) rfl ?_
            refine XS.ifYes X716.here hx rfl (pc0 := 355) (pc' := 362) rfl (hb hby at_355) rfl ((if0 _ _).trans (teq (by decide : (0 : Int32) = (0 : Int32))).1) (by decide) (by decide) ?_
            refine XS.iconst X716.here hx rfl (hb hby at_362) ?_
            refine XS.iadd X716.here hx rfl (hb hby at_363) rfl ?_
            refine XS.iload X716.here hx rfl (hb hby at_364) rfl ?_
            refine XS.ifNo X716.here hx rfl (hb hby at_366) rfl ((if0 _ _).trans (feq (by decide : ¬ ((1 : Int32) = (0 : Int32)))).1) ?_
            refine XS.iconst X716.here hx rfl (hb hby at_369) ?_
            refine XS.goto X716.here hx rfl (pc0 := 370) (pc' := 374) rfl (hb hby at_370) (by decide) (by decide) ?_
            refine XS.iadd X716.here hx rfl (hb hby at_374) rfl ?_
            refine XS.istore X716.here hx rfl (hb hby at_375) rfl (l' := #[sI p1, sJ q2, sW, sI 3, sI c0, sI c1, sI c2, sI e0_, sI e1_, sI e2_, sI again, sJ v11, sW, sR b76, sR b87, sR b109, sR b142, sI 1, sI 0, sI 1, sR b76, sR b76, sI 2, sU]) rfl ?_
            refine XS.aload X716.here hx rfl (hb hby at_377) rfl rfl ?_
            exact k)
          have ex729 := own_QI_exa Q726
          have ex730 := own_QI_exa Q726
          obtain ⟨cq728, kq728, q728a, q728b, q728c⟩ := isOf hZ rfl ex730
          obtain ⟨_, _, ⟨T728, L728, k728, n728⟩, -, X728, ⟨Lc728, hQ728, l728, y728, z728⟩, st728⟩ := X716.virtualBack hx (y := own_y4) (z := own_y4) hown (mvT hZ hw56) (mvT hZ hw57) (notFace_of_selects (args := #[]) (mvT hZ hw59)) (mvT hZ hw59) (mvT hZ hw58) (by decide) (backOf (W := 0) (own_rm7 l Z a0 hw [] b142 (.ref b76) .null (.ref b109) v11 (v11 + (1 : Int64)) (v11 + (2 : Int64)) (0 : Int32) (3 : Int32) (2 : Int32) T716.heap n0 f719 Q726) hZ hw60 hw25 (by decide) (by decide)) q728a q728c (g := (mkF m 379 #[sI p1, sJ q2, sW, sI 3, sI c0, sI c1, sI c2, sI e0_, sI e1_, sI e2_, sI again, sJ v11, sW, sR b76, sR b87, sR b109, sR b142, sI 1, sI 0, sI 1, sR b76, sR b76, sI 2, sU] [(.ref b142)])) rfl (by rw [hml]; rfl) (Steps.refl _) (argsL := []) (rest := []) (lenOf own_pd_10 rfl) rfl (by show 2 * 0 + _ ≤ _; exact Nat.le_of_eq rfl) (hb hby at_379) (fun _ _ => ⟨rfl, rfl, (by decide : 8 + 0 ≤ _), (by decide : 53 + 0 ≤ _)⟩)
          dsimp only [Pt.U, Pt.locs, Pt.cells, Pt.slots] at X728 l728 y728 z728 st728 hQ728
          subst l728 y728 z728
          obtain ⟨rfl, N728q, eh728⟩ := hQ728
          have N728 := Fr.app N716 N728q
          have pre731 : ∀ t, own_S p e below T728 m 391 #[sI p1, sJ q2, sW, sI 3, sI c0, sI c1, sI c2, sI e0_, sI e1_, sI e2_, sI again, sJ v11, sW, sR b76, sR b87, sR b109, sR b142, sI 1, sI 0, sI 1, sR b76, sR b76, sI 2, sU] [(.int again)] t → R0 t := fun t k => pre727 t (by
            refine st728.trans ?_
            refine XS.iload X728.here hx rfl (hb hby at_382) rfl ?_
            refine XS.icmpYes X728.here hx rfl (pc0 := 384) (pc' := 389) rfl (hb hby at_384) rfl (teq (by decide : (2 : Int32) = (2 : Int32))).1 (by decide) (by decide) ?_
            refine XS.iload X728.here hx rfl (hb hby at_389) rfl ?_
            exact k)
          by_cases hc391 : again = (0 : Int32)
          · have pre732 : ∀ t, own_S p e below T728 m 400 #[sI p1, sJ q2, sW, sI 3, sI c0, sI c1, sI c2, sI e0_, sI e1_, sI e2_, sI again, sJ v11, sW, sR b76, sR b87, sR b109, sR b142, sI 1, sI 0, sI 1, sR b76, sR b76, sI 2, sU] [(.int 1)] t → R0 t := fun t k => pre731 t (by
              refine XS.ifYes X728.here hx rfl (pc0 := 391) (pc' := 399) rfl (hb hby at_391) rfl ((if0 _ _).trans (teq hc391).1) (by decide) (by decide) ?_
              refine XS.iconst X728.here hx rfl (hb hby at_399) ?_
              exact k)
            obtain ⟨fs, hr, hrun, hended, hW, hsame⟩ := X728.leave (v := some (.int 1)) (fun h => by rw [Bd.returns] at h; cases h)
            refine ⟨_, _, cast (congrFun hR0 _) (pre732 _ (retN X728 hx (t := .boolean) Bd.returns (by simp) (hb hby at_400) hr)), hrun, hended, _, _, rfl, ?_, ⟨_, rfl⟩, hW, hsame.mono (by decide) (by decide)⟩
            show own_Q0 Z _ _ h0 n0 _ T728.heap _
            rw [eh728]
            exact ⟨rfl, N728⟩
          · have pre733 : ∀ t, own_S p e below T728 m 405 #[sI p1, sJ q2, sW, sI 3, sI c0, sI c1, sI c2, sI e0_, sI e1_, sI e2_, sI again, sJ v11, sW, sR b76, sR b87, sR b109, sR b142, sI 1, sI 0, sI 1, sR b76, sR b76, sI 2, sU] [(.ref b76), (.ref b142)] t → R0 t := fun t k => pre731 t (by
              refine XS.ifNo X728.here hx rfl (hb hby at_391) rfl ((if0 _ _).trans (feq hc391).1) ?_
              refine XS.aload X728.here hx rfl (hb hby at_394) rfl rfl ?_
              refine XS.ifnonnullYes X728.here hx rfl (pc0 := 396) (pc' := 401) rfl (hb hby at_396) rfl (by decide) (by decide) ?_
              refine XS.aload X728.here hx rfl (hb hby at_401) rfl rfl ?_
              refine XS.aload X728.here hx rfl (hb hby at_403) rfl rfl ?_
              exact k)
            have hp734 : ((0 : Int32) = (0 : Int32) ∧ (3 : Int32) = (1 : Int32)) ∨ ((0 : Int32) = (0 : Int32) ∧ (3 : Int32) = (2 : Int32)) ∨ ((0 : Int32) = (0 : Int32) ∧ (3 : Int32) = (3 : Int32)) := by decide
            have hp735 : ((1 : Int32) < (3 : Int32) → v11 < (v11 + (1 : Int64))) ∧ ((2 : Int32) < (3 : Int32) → (v11 + (1 : Int64)) < (v11 + (2 : Int64))) := ⟨fun _ => hq01, fun _ => hq12⟩
            have hp736 : b76 < b142 := lne143
            have ex738 := own_QI_exa Q726
            have ex739 := own_QI_exa Q726
            obtain ⟨cq737, kq737, q737a, q737b, q737c⟩ := isOf hZ eh728 ex739
            obtain ⟨_, _, ⟨T737, L737, k737, n737⟩, -, X737, ⟨Lc737, hQ737, l737, y737, z737⟩, st737⟩ := X728.virtualBack hx (y := own_y10) (z := own_y10) hown (mvT hZ hw82) (mvT hZ hw83) (notFace_of_selects (args := #[]) (mvT hZ hw85)) (mvT hZ hw85) (mvT hZ hw84) (by decide) (backOf (W := 0) (own_rm11j0 l Z a0 hw [] b142 b76 .null (.ref b109) v11 (v11 + (1 : Int64)) (v11 + (2 : Int64)) (0 : Int32) (3 : Int32) (2 : Int32) T716.heap n0 f719 Q726 f720 f721 hp734 hp735 hp736) hZ hw86 hw25 (by decide) (by decide)) q737a q737c (g := (mkF m 405 #[sI p1, sJ q2, sW, sI 3, sI c0, sI c1, sI c2, sI e0_, sI e1_, sI e2_, sI again, sJ v11, sW, sR b76, sR b87, sR b109, sR b142, sI 1, sI 0, sI 1, sR b76, sR b76, sI 2, sU] [(.ref b76), (.ref b142)])) rfl (by rw [hml]; rfl) (Steps.refl _) (argsL := [(.ref b76)]) (rest := []) (lenOf own_pd_12 rfl) rfl (by show 2 * 0 + _ ≤ _; exact Nat.le_of_eq rfl) (hb hby at_405) (fun _ _ => ⟨rfl, eh728, (by decide : 8 + 0 ≤ _), (by decide : 53 + 0 ≤ _)⟩)
            dsimp only [Pt.U, Pt.locs, Pt.cells, Pt.slots] at X737 l737 y737 z737 st737 hQ737
            subst l737 y737 z737
            obtain ⟨rfl, N737q, Lw737, Qw737⟩ := hQ737
            have f740 := Nat.le_trans f719 Lw737.1
            have f741 := Lw737.exa f720 lne143
            have f742 := Lw737.fld f721 lne143
            have f743 := Lw737.exa f722 lne144
            have f744 := Lw737.fld f723 lne144
            have f745 := Lw737.exa f724 lne145
            have f746 := Lw737.fld f725 lne145
            have Q747 : own_QI Z T737.heap n0 b142 .null .null (.ref b109) v11 (v11 + (1 : Int64)) (v11 + (2 : Int64)) (0 : Int32) (3 : Int32) (1 : Int32) := Qw737
            have N737 := Fr.app N728 N737q
            have pre748 : ∀ t, own_S p e below T737 m 449 #[sI p1, sJ q2, sW, sI 3, sI c0, sI c1, sI c2, sI e0_, sI e1_, sI e2_, sI again, sJ v11, sW, sR b76, sR b87, sR b109, sR b142, sI 0, sI 0, sI 1, sR b76, sR b76, sI 2, sU] [(.ref b109), (.ref b87), (.ref b76), (.int 1), (.int 0), (.int 0)] t → R0 t := fun t k => pre733 t (by
              refine st737.trans ?_
              refine XS.aload X737.here hx rfl (hb hby at_408) rfl rfl ?_
              refine XS.aload X737.here hx rfl (hb hby at_410) rfl rfl ?_
              refine Jvm.RoadKit.acmp (g := (mkF m 412 #[sI p1, sJ q2, sW, sI 3, sI c0, sI c1, sI c2, sI e0_, sI e1_, sI e2_, sI again, sJ v11, sW, sR b76, sR b87, sR b109, sR b142, sI 1, sI 0, sI 1, sR b76, sR b76, sI 2, sU] [(.ref b76), (.ref b76)])) X737 hx rfl rfl rfl (pc0 := 412) (pc' := 415) (same := true) rfl (hb hby at_412) rfl (decide_eq_true rfl) (by decide) (by decide) ?_
              refine XS.iconst X737.here hx rfl (hb hby at_415) ?_
              refine XS.istore X737.here hx rfl (hb hby at_416) rfl (l' := #[sI p1, sJ q2, sW, sI 3, sI c0, sI c1, sI c2, sI e0_, sI e1_, sI e2_, sI again, sJ v11, sW, sR b76, sR b87, sR b109, sR b142, sI 0, sI 0, sI 1, sR b76, sR b76, sI 2, sU]) rfl ?_
              refine XS.goto X737.here hx rfl (pc0 := 418) (pc' := 437) rfl (hb hby at_418) (by decide) (by decide) ?_
              refine XS.iload X737.here hx rfl (hb hby at_437) rfl ?_
              refine XS.iload X737.here hx rfl (hb hby at_439) rfl ?_
              refine XS.iload X737.here hx rfl (hb hby at_441) rfl ?_
              refine XS.aload X737.here hx rfl (hb hby at_443) rfl rfl ?_
              refine XS.aload X737.here hx rfl (hb hby at_445) rfl rfl ?_
              refine XS.aload X737.here hx rfl (hb hby at_447) rfl rfl ?_
              exact k)
            obtain ⟨_, _, ⟨T749, L749, k749, n749⟩, -, X749, ⟨Lc749, hQ749, l749, y749, z749⟩, st749⟩ := Jvm.LawKit.callS X737 hx (y := own_y12) hown (mvT hZ hw45) (mvT hZ hw46) (mvT hZ hw47) (mvT hZ hw48) (by decide) (backOf (W := 0) (own_rm5c l Z a0 hw [] b76 b87 b109 T737.heap n0 f740 ) hZ hw48 hw47 (by decide) (by decide)) (g := (mkF m 449 #[sI p1, sJ q2, sW, sI 3, sI c0, sI c1, sI c2, sI e0_, sI e1_, sI e2_, sI again, sJ v11, sW, sR b76, sR b87, sR b109, sR b142, sI 0, sI 0, sI 1, sR b76, sR b76, sI 2, sU] [(.ref b109), (.ref b87), (.ref b76), (.int 1), (.int 0), (.int 0)])) rfl (by rw [hml]; rfl) (argsL := [(.int 0), (.int 0), (.int 1), (.ref b76), (.ref b87), (.ref b109)]) (rest := []) (lenOf own_pd_8 rfl) rfl (by show 2 * 0 + _ ≤ _; exact Nat.le_of_eq rfl) (hb hby at_449) (fun _ _ => ⟨rfl, rfl, (by decide : 8 + 0 ≤ _), (by decide : 53 + 0 ≤ _)⟩)
            dsimp only [Pt.U, Pt.locs, Pt.cells, Pt.slots] at X749 l749 y749 z749 st749 hQ749
            subst l749 y749 z749
            obtain ⟨rfl, N749q, eh749⟩ := hQ749
            have N749 := Fr.app N737 N749q
            have pre750 : ∀ t, own_S p e below T749 m 456 #[sI p1, sJ q2, sW, sI 3, sI c0, sI c1, sI c2, sI e0_, sI e1_, sI e2_, sI again, sJ v11, sW, sR b76, sR b87, sR b109, sR b142, sI 0, sI 0, sI 1, sR b76, sR b76, sI 2, sR b109] [(.ref b142)] t → R0 t := fun t k => pre748 t (by
              refine st749 _ ?_
              refine XS.astore X749.here hx rfl (hb hby at_452) rfl rfl (l' := #[sI p1, sJ q2, sW, sI 3, sI c0, sI c1, sI c2, sI e0_, sI e1_, sI e2_, sI again, sJ v11, sW, sR b76, sR b87, sR b109, sR b142, sI 0, sI 0, sI 1, sR b76, sR b76, sI 2, sR b109]) rfl ?_
              refine XS.aload X749.here hx rfl (hb hby at_454) rfl rfl ?_
              exact k)
            have hp751 : ¬ ((1 : Int32) = (0 : Int32)) := by decide
            have ex753 := own_QI_exa Q747
            have ex754 := own_QI_exa Q747
            obtain ⟨cq752, kq752, q752a, q752b, q752c⟩ := isOf hZ eh749 ex754
            obtain ⟨_, _, ⟨T752, L752, k752, n752⟩, -, X752, ⟨Lc752, hQ752, l752, y752, z752⟩, st752⟩ := X749.virtualBack hx (y := own_y11) (z := own_y11) hown (mvT hZ hw49) (mvT hZ hw50) (notFace_of_selects (args := #[]) (mvT hZ hw52)) (mvT hZ hw52) (mvT hZ hw51) (by decide) (backOf (W := 0) (own_rm6h0f2 l Z a0 hw [] b142 b109 v11 (v11 + (1 : Int64)) (v11 + (2 : Int64)) (3 : Int32) (1 : Int32) T737.heap n0 f740 Q747 hp751) hZ hw53 hw25 (by decide) (by decide)) q752a q752c (g := (mkF m 456 #[sI p1, sJ q2, sW, sI 3, sI c0, sI c1, sI c2, sI e0_, sI e1_, sI e2_, sI again, sJ v11, sW, sR b76, sR b87, sR b109, sR b142, sI 0, sI 0, sI 1, sR b76, sR b76, sI 2, sR b109] [(.ref b142)])) rfl (by rw [hml]; rfl) (Steps.refl _) (argsL := []) (rest := []) (lenOf own_pd_9 rfl) rfl (by show 2 * 0 + _ ≤ _; exact Nat.le_of_eq rfl) (hb hby at_456) (fun _ _ => ⟨rfl, eh749, (by decide : 8 + 0 ≤ _), (by decide : 53 + 0 ≤ _)⟩)
            dsimp only [Pt.U, Pt.locs, Pt.cells, Pt.slots] at X752 l752 y752 z752 st752 hQ752
            subst l752 y752 z752
            obtain ⟨rfl, N752q, Lw752, Qw752⟩ := hQ752
            have f755 := Nat.le_trans f740 Lw752.1
            have f756 := Lw752.exa f741 lne143
            have f757 := Lw752.fld f742 lne143
            have f758 := Lw752.exa f743 lne144
            have f759 := Lw752.fld f744 lne144
            have f760 := Lw752.exa f745 lne145
            have f761 := Lw752.fld f746 lne145
            have Q762 : own_QI Z T752.heap n0 b142 .null .null (.ref b109) v11 (v11 + (1 : Int64)) (v11 + (2 : Int64)) (2 : Int32) (3 : Int32) (1 : Int32) := Qw752
            have N752 := Fr.app N749 N752q
            have pre763 : ∀ t, own_S p e below T752 m 469 #[sI p1, sJ q2, sW, sI 3, sI c0, sI c1, sI c2, sI e0_, sI e1_, sI e2_, sI again, sJ v11, sW, sR b76, sR b87, sR b109, sR b142, sI 0, sI 0, sI 1, sR b76, sR b76, sI 2, sR b109] [(.int 1)] t → R0 t := fun t k => pre750 t (by
              refine st752.trans ?_
              refine XS.aload X752.here hx rfl (hb hby at_459) rfl rfl ?_
              refine Jvm.RoadKit.acmp (g := (mkF m 461 #[sI p1, sJ q2, sW, sI 3, sI c0, sI c1, sI c2, sI e0_, sI e1_, sI e2_, sI again, sJ v11, sW, sR b76, sR b87, sR b109, sR b142, sI 0, sI 0, sI 1, sR b76, sR b76, sI 2, sR b109] [(.ref b109), (.ref b109)])) X752 hx rfl rfl rfl (pc0 := 461) (pc' := 464) (same := true) rfl (hb hby at_461) rfl (decide_eq_true rfl) (by decide) (by decide) ?_
              refine XS.iconst X752.here hx rfl (hb hby at_464) ?_
              refine XS.goto X752.here hx rfl (pc0 := 465) (pc' := 469) rfl (hb hby at_465) (by decide) (by decide) ?_
              exact k)
            obtain ⟨fs, hr, hrun, hended, hW, hsame⟩ := X752.leave (v := some (.int 1)) (fun h => by rw [Bd.returns] at h; cases h)
            refine ⟨_, _, cast (congrFun hR0 _) (pre763 _ (retN X752 hx (t := .boolean) Bd.returns (by simp) (hb hby at_469) hr)), hrun, hended, _, _, rfl, ?_, ⟨_, rfl⟩, hW, hsame.mono (by decide) (by decide)⟩
            show own_Q0 Z _ _ h0 n0 _ T752.heap _
            exact ⟨rfl, N752⟩
        · have pre764 : ∀ t, own_S p e below T563 m 290 #[sI p1, sJ q2, sW, sI 3, sI c0, sI c1, sI c2, sI e0_, sI e1_, sI e2_, sI again, sJ v11, sW, sR b76, sR b87, sR b109, sR b142, sI 1, sI 0, sI 0, sU, sU, sU, sU] [(.ref b87), (.ref b142)] t → R0 t := fun t k => pre696 t (by
            refine XS.ifYes X563.here hx rfl (pc0 := 250) (pc' := 257) rfl (hb hby at_250) rfl ((if0 _ _).trans (feq hc250).2) (by decide) (by decide) ?_
            refine XS.iconst X563.here hx rfl (hb hby at_257) ?_
            refine XS.istore X563.here hx rfl (hb hby at_258) rfl (l' := #[sI p1, sJ q2, sW, sI 3, sI c0, sI c1, sI c2, sI e0_, sI e1_, sI e2_, sI again, sJ v11, sW, sR b76, sR b87, sR b109, sR b142, sI 1, sI 0, sI 0, sU, sU, sU, sU]) rfl ?_
            refine XS.iloadN X563.here hx rfl (hb hby at_260) rfl ?_
            refine XS.ifNo X563.here hx rfl (hb hby at_261) rfl ((if0 _ _).trans (tlt (by decide : (0 : Int32) < (3 : Int32))).2.2.2) ?_
            refine XS.iload X563.here hx rfl (hb hby at_264) rfl ?_
            refine XS.ifYes X563.here hx rfl (pc0 := 266) (pc' := 276) rfl (hb hby at_266) rfl ((if0 _ _).trans (teq hc216).1) (by decide) (by decide) ?_
            refine XS.iloadN X563.here hx rfl (hb hby at_276) rfl ?_
            refine XS.iconst X563.here hx rfl (hb hby at_277) ?_
            refine XS.icmpNo X563.here hx rfl (hb hby at_278) rfl (tlt (by decide : (1 : Int32) < (3 : Int32))).2.2.2 ?_
            refine XS.iload X563.here hx rfl (hb hby at_281) rfl ?_
            refine XS.ifNo X563.here hx rfl (hb hby at_283) rfl ((if0 _ _).trans (feq hc233).1) ?_
            refine XS.aload X563.here hx rfl (hb hby at_286) rfl rfl ?_
            refine XS.aload X563.here hx rfl (hb hby at_288) rfl rfl ?_
            exact k)
          have hp765 : ((0 : Int32) = (0 : Int32) ∧ (3 : Int32) = (2 : Int32)) ∨ ((0 : Int32) = (0 : Int32) ∧ (3 : Int32) = (3 : Int32)) ∨ ((0 : Int32) = (1 : Int32) ∧ (3 : Int32) = (2 : Int32)) ∨ ((0 : Int32) = (1 : Int32) ∧ (3 : Int32) = (3 : Int32)) := by decide
          have hp766 : ((1 : Int32) < (3 : Int32) → v11 < (v11 + (1 : Int64))) ∧ ((2 : Int32) < (3 : Int32) → (v11 + (1 : Int64)) < (v11 + (2 : Int64))) := ⟨fun _ => hq01, fun _ => hq12⟩
          have hp767 : b87 < b142 := lne144
          have ex769 := own_QI_exa Q573
          have ex770 := own_QI_exa Q573
          obtain ⟨cq768, kq768, q768a, q768b, q768c⟩ := isOf hZ rfl ex770
          obtain ⟨_, _, ⟨T768, L768, k768, n768⟩, -, X768, ⟨Lc768, hQ768, l768, y768, z768⟩, st768⟩ := X563.virtualBack hx (y := own_y10) (z := own_y10) hown (mvT hZ hw82) (mvT hZ hw83) (notFace_of_selects (args := #[]) (mvT hZ hw85)) (mvT hZ hw85) (mvT hZ hw84) (by decide) (backOf (W := 0) (own_rm11j1 l Z a0 hw [] b142 b87 (.ref b76) (.ref b109) v11 (v11 + (1 : Int64)) (v11 + (2 : Int64)) (0 : Int32) (3 : Int32) (3 : Int32) T563.heap n0 f566 Q573 f569 f570 hp765 hp766 hp767) hZ hw86 hw25 (by decide) (by decide)) q768a q768c (g := (mkF m 290 #[sI p1, sJ q2, sW, sI 3, sI c0, sI c1, sI c2, sI e0_, sI e1_, sI e2_, sI again, sJ v11, sW, sR b76, sR b87, sR b109, sR b142, sI 1, sI 0, sI 0, sU, sU, sU, sU] [(.ref b87), (.ref b142)])) rfl (by rw [hml]; rfl) (Steps.refl _) (argsL := [(.ref b87)]) (rest := []) (lenOf own_pd_12 rfl) rfl (by show 2 * 0 + _ ≤ _; exact Nat.le_of_eq rfl) (hb hby at_290) (fun _ _ => ⟨rfl, rfl, (by decide : 8 + 0 ≤ _), (by decide : 53 + 0 ≤ _)⟩)
          dsimp only [Pt.U, Pt.locs, Pt.cells, Pt.slots] at X768 l768 y768 z768 st768 hQ768
          subst l768 y768 z768
          obtain ⟨rfl, N768q, Lw768, Qw768⟩ := hQ768
          have f771 := Nat.le_trans f566 Lw768.1
          have f772 := Lw768.exa f567 lne143
          have f773 := Lw768.fld f568 lne143
          have f774 := Lw768.exa f569 lne144
          have f775 := Lw768.fld f570 lne144
          have f776 := Lw768.exa f571 lne145
          have f777 := Lw768.fld f572 lne145
          have Q778 : own_QI Z T768.heap n0 b142 (.ref b76) .null (.ref b109) v11 (v11 + (1 : Int64)) (v11 + (2 : Int64)) (0 : Int32) (3 : Int32) (2 : Int32) := Qw768
          have N768 := Fr.app N563 N768q
          have pre779 : ∀ t, own_S p e below T768 m 307 #[sI p1, sJ q2, sW, sI 3, sI c0, sI c1, sI c2, sI e0_, sI e1_, sI e2_, sI again, sJ v11, sW, sR b76, sR b87, sR b109, sR b142, sI 1, sI 0, sI 0, sU, sU, sU, sU] [(.ref b109), (.ref b142)] t → R0 t := fun t k => pre764 t (by
            refine st768.trans ?_
            refine XS.iloadN X768.here hx rfl (hb hby at_293) rfl ?_
            refine XS.iconst X768.here hx rfl (hb hby at_294) ?_
            refine XS.icmpNo X768.here hx rfl (hb hby at_295) rfl (tlt (by decide : (2 : Int32) < (3 : Int32))).2.2.2 ?_
            refine XS.iload X768.here hx rfl (hb hby at_298) rfl ?_
            refine XS.ifNo X768.here hx rfl (hb hby at_300) rfl ((if0 _ _).trans (feq hc250).1) ?_
            refine XS.aload X768.here hx rfl (hb hby at_303) rfl rfl ?_
            refine XS.aload X768.here hx rfl (hb hby at_305) rfl rfl ?_
            exact k)
          have hp780 : ((0 : Int32) = (0 : Int32) ∧ (3 : Int32) = (3 : Int32)) ∨ ((0 : Int32) = (2 : Int32) ∧ (3 : Int32) = (3 : Int32)) := by decide
          have hp781 : ((1 : Int32) < (3 : Int32) → v11 < (v11 + (1 : Int64))) ∧ ((2 : Int32) < (3 : Int32) → (v11 + (1 : Int64)) < (v11 + (2 : Int64))) := ⟨fun _ => hq01, fun _ => hq12⟩
          have hp782 : b109 < b142 := lne145
          have ex784 := own_QI_exa Q778
          have ex785 := own_QI_exa Q778
          obtain ⟨cq783, kq783, q783a, q783b, q783c⟩ := isOf hZ rfl ex785
          obtain ⟨_, _, ⟨T783, L783, k783, n783⟩, -, X783, ⟨Lc783, hQ783, l783, y783, z783⟩, st783⟩ := X768.virtualBack hx (y := own_y10) (z := own_y10) hown (mvT hZ hw82) (mvT hZ hw83) (notFace_of_selects (args := #[]) (mvT hZ hw85)) (mvT hZ hw85) (mvT hZ hw84) (by decide) (backOf (W := 0) (own_rm11j2 l Z a0 hw [] b142 b109 (.ref b76) .null v11 (v11 + (1 : Int64)) (v11 + (2 : Int64)) (0 : Int32) (3 : Int32) (2 : Int32) T768.heap n0 f771 Q778 f776 f777 hp780 hp781 hp782) hZ hw86 hw25 (by decide) (by decide)) q783a q783c (g := (mkF m 307 #[sI p1, sJ q2, sW, sI 3, sI c0, sI c1, sI c2, sI e0_, sI e1_, sI e2_, sI again, sJ v11, sW, sR b76, sR b87, sR b109, sR b142, sI 1, sI 0, sI 0, sU, sU, sU, sU] [(.ref b109), (.ref b142)])) rfl (by rw [hml]; rfl) (Steps.refl _) (argsL := [(.ref b109)]) (rest := []) (lenOf own_pd_12 rfl) rfl (by show 2 * 0 + _ ≤ _; exact Nat.le_of_eq rfl) (hb hby at_307) (fun _ _ => ⟨rfl, rfl, (by decide : 8 + 0 ≤ _), (by decide : 53 + 0 ≤ _)⟩)
          dsimp only [Pt.U, Pt.locs, Pt.cells, Pt.slots] at X783 l783 y783 z783 st783 hQ783
          subst l783 y783 z783
          obtain ⟨rfl, N783q, Lw783, Qw783⟩ := hQ783
          have f786 := Nat.le_trans f771 Lw783.1
          have f787 := Lw783.exa f772 lne143
          have f788 := Lw783.fld f773 lne143
          have f789 := Lw783.exa f774 lne144
          have f790 := Lw783.fld f775 lne144
          have f791 := Lw783.exa f776 lne145
          have f792 := Lw783.fld f777 lne145
          have Q793 : own_QI Z T783.heap n0 b142 (.ref b76) .null .null v11 (v11 + (1 : Int64)) (v11 + (2 : Int64)) (0 : Int32) (3 : Int32) (1 : Int32) := Qw783
          have N783 := Fr.app N768 N783q
          have pre794 : ∀ t, own_S p e below T783 m 322 #[sI p1, sJ q2, sW, sI 3, sI c0, sI c1, sI c2, sI e0_, sI e1_, sI e2_, sI again, sJ v11, sW, sR b76, sR b87, sR b109, sR b142, sI 1, sI 0, sI 0, sU, sU, sU, sU] [(.ref b109), (.ref b87), (.ref b76), (.int 0), (.int 0), (.int 1)] t → R0 t := fun t k => pre779 t (by
            refine st783.trans ?_
            refine XS.iload X783.here hx rfl (hb hby at_310) rfl ?_
            refine XS.iload X783.here hx rfl (hb hby at_312) rfl ?_
            refine XS.iload X783.here hx rfl (hb hby at_314) rfl ?_
            refine XS.aload X783.here hx rfl (hb hby at_316) rfl rfl ?_
            refine XS.aload X783.here hx rfl (hb hby at_318) rfl rfl ?_
            refine XS.aload X783.here hx rfl (hb hby at_320) rfl rfl ?_
            exact k)
          obtain ⟨_, _, ⟨T795, L795, k795, n795⟩, -, X795, ⟨Lc795, hQ795, l795, y795, z795⟩, st795⟩ := Jvm.LawKit.callS X783 hx (y := own_y12) hown (mvT hZ hw45) (mvT hZ hw46) (mvT hZ hw47) (mvT hZ hw48) (by decide) (backOf (W := 0) (own_rm5a l Z a0 hw [] (0 : Int32) (0 : Int32) b76 b87 b109 T783.heap n0 f786 ) hZ hw48 hw47 (by decide) (by decide)) (g := (mkF m 322 #[sI p1, sJ q2, sW, sI 3, sI c0, sI c1, sI c2, sI e0_, sI e1_, sI e2_, sI again, sJ v11, sW, sR b76, sR b87, sR b109, sR b142, sI 1, sI 0, sI 0, sU, sU, sU, sU] [(.ref b109), (.ref b87), (.ref b76), (.int 0), (.int 0), (.int 1)])) rfl (by rw [hml]; rfl) (argsL := [(.int 1), (.int 0), (.int 0), (.ref b76), (.ref b87), (.ref b109)]) (rest := []) (lenOf own_pd_8 rfl) rfl (by show 2 * 0 + _ ≤ _; exact Nat.le_of_eq rfl) (hb hby at_322) (fun _ _ => ⟨rfl, rfl, (by decide : 8 + 0 ≤ _), (by decide : 53 + 0 ≤ _)⟩)
          dsimp only [Pt.U, Pt.locs, Pt.cells, Pt.slots] at X795 l795 y795 z795 st795 hQ795
          subst l795 y795 z795
          obtain ⟨rfl, N795q, eh795⟩ := hQ795
          have N795 := Fr.app N783 N795q
          have pre796 : ∀ t, own_S p e below T795 m 329 #[sI p1, sJ q2, sW, sI 3, sI c0, sI c1, sI c2, sI e0_, sI e1_, sI e2_, sI again, sJ v11, sW, sR b76, sR b87, sR b109, sR b142, sI 1, sI 0, sI 0, sR b76, sU, sU, sU] [(.ref b142)] t → R0 t := fun t k => pre794 t (by
            refine st795 _ ?_
            refine XS.astore X795.here hx rfl (hb hby at_325) rfl rfl (l' := #[sI p1, sJ q2, sW, sI 3, sI c0, sI c1, sI c2, sI e0_, sI e1_, sI e2_, sI again, sJ v11, sW, sR b76, sR b87, sR b109, sR b142, sI 1, sI 0, sI 0, sR b76, sU, sU, sU]) rfl ?_
            refine XS.aload X795.here hx rfl (hb hby at_327) rfl rfl ?_
            exact k)
          have hp797 : ¬ ((1 : Int32) = (0 : Int32)) := by decide
          have ex799 := own_QI_exa Q793
          have ex800 := own_QI_exa Q793
          obtain ⟨cq798, kq798, q798a, q798b, q798c⟩ := isOf hZ eh795 ex800
          obtain ⟨_, _, ⟨T798, L798, k798, n798⟩, -, X798, ⟨Lc798, hQ798, l798, y798, z798⟩, st798⟩ := X795.virtualBack hx (y := own_y11) (z := own_y11) hown (mvT hZ hw49) (mvT hZ hw50) (notFace_of_selects (args := #[]) (mvT hZ hw52)) (mvT hZ hw52) (mvT hZ hw51) (by decide) (backOf (W := 0) (own_rm6h0f0 l Z a0 hw [] b142 b76 .null .null v11 (v11 + (1 : Int64)) (v11 + (2 : Int64)) (3 : Int32) (1 : Int32) T783.heap n0 f786 Q793 hp797) hZ hw53 hw25 (by decide) (by decide)) q798a q798c (g := (mkF m 329 #[sI p1, sJ q2, sW, sI 3, sI c0, sI c1, sI c2, sI e0_, sI e1_, sI e2_, sI again, sJ v11, sW, sR b76, sR b87, sR b109, sR b142, sI 1, sI 0, sI 0, sR b76, sU, sU, sU] [(.ref b142)])) rfl (by rw [hml]; rfl) (Steps.refl _) (argsL := []) (rest := []) (lenOf own_pd_9 rfl) rfl (by show 2 * 0 + _ ≤ _; exact Nat.le_of_eq rfl) (hb hby at_329) (fun _ _ => ⟨rfl, eh795, (by decide : 8 + 0 ≤ _), (by decide : 53 + 0 ≤ _)⟩)
          dsimp only [Pt.U, Pt.locs, Pt.cells, Pt.slots] at X798 l798 y798 z798 st798 hQ798
          subst l798 y798 z798
          obtain ⟨rfl, N798q, Lw798, Qw798⟩ := hQ798
          have f801 := Nat.le_trans f786 Lw798.1
          have f802 := Lw798.exa f787 lne143
          have f803 := Lw798.fld f788 lne143
          have f804 := Lw798.exa f789 lne144
          have f805 := Lw798.fld f790 lne144
          have f806 := Lw798.exa f791 lne145
          have f807 := Lw798.fld f792 lne145
          have Q808 : own_QI Z T798.heap n0 b142 (.ref b76) .null .null v11 (v11 + (1 : Int64)) (v11 + (2 : Int64)) (0 : Int32) (3 : Int32) (1 : Int32) := Qw798
          have N798 := Fr.app N795 N798q
          have pre809 : ∀ t, own_S p e below T798 m 379 #[sI p1, sJ q2, sW, sI 3, sI c0, sI c1, sI c2, sI e0_, sI e1_, sI e2_, sI again, sJ v11, sW, sR b76, sR b87, sR b109, sR b142, sI 1, sI 0, sI 0, sR b76, sR b76, sI 1, sU] [(.ref b142)] t → R0 t := fun t k => pre796 t (by
            refine st798.trans ?_
            refine XS.astore X798.here hx rfl (hb hby at_332) rfl rfl (l' := #[sI p1, sJ q2, sW, sI 3, sI c0, sI c1, sI c2, sI e0_, sI e1_, sI e2_, sI again, sJ v11, sW, sR b76, sR b87, sR b109, sR b142, sI 1, sI 0, sI 0, sR b76, sR b76, sU, sU]) rfl ?_
            refine XS.aload X798.here hx rfl (hb hby at_334) rfl rfl ?_
            refine XS.aload X798.here hx rfl (hb hby at_336) rfl rfl ?_
            refine Jvm.RoadKit.acmp (g := (mkF m 338 #[sI p1, sJ q2, sW, sI 3, sI c0, sI c1, sI c2, sI e0_, sI e1_, sI e2_, sI again, sJ v11, sW, sR b76, sR b87, sR b109, sR b142, sI 1, sI 0, sI 0, sR b76, sR b76, sU, sU] [(.ref b76), (.ref b76)])) X798 hx rfl rfl rfl (pc0 := 338) (pc' := 343) (same := true) rfl (hb hby at_338) rfl (decide_eq_true rfl) (by decide) (by decide) ?_
            refine XS.iload X798.here hx rfl (hb hby at_343) rfl ?_
            refine XS.ifNo X798.here hx rfl (hb hby at_345) rfl ((if0 _ _).trans (feq (by decide : ¬ ((1 : Int32) = (0 : Int32)))).1) ?_
            refine XS.iconst X798.here hx rfl (hb hby at_348) ?_
            refine XS.goto X798.here hx rfl (pc0 := 349) (pc' := 353) rfl (hb hby at_349) (by decide) (by decide) ?_
            refine XS.iload X798.here hx rfl (hb hby at_353) rfl ?_
            refine XS.ifYes X798.here hx rfl (pc0 := 355) (pc' := 362) rfl (hb hby at_355) rfl ((if0 _ _).trans (teq (by decide : (0 : Int32) = (0 : Int32))).1) (by decide) (by decide) ?_
            refine XS.iconst X798.here hx rfl (hb hby at_362) ?_
            refine XS.iadd X798.here hx rfl (hb hby at_363) rfl ?_
            refine XS.iload X798.here hx rfl (hb hby at_364) rfl ?_
            refine XS.ifYes X798.here hx rfl (pc0 := 366) (pc' := 373) rfl (hb hby at_366) rfl ((if0 _ _).trans (teq (by decide : (0 : Int32) = (0 : Int32))).1) (by decide) (by decide) ?_
            refine XS.iconst X798.here hx rfl (hb hby at_373) ?_
            refine XS.iadd X798.here hx rfl (hb hby at_374) rfl ?_
            refine XS.istore X798.here hx rfl (hb hby at_375) rfl (l' := #[sI p1, sJ q2, sW, sI 3, sI c0, sI c1, sI c2, sI e0_, sI e1_, sI e2_, sI again, sJ v11, sW, sR b76, sR b87, sR b109, sR b142, sI 1, sI 0, sI 0, sR b76, sR b76, sI 1, sU]) rfl ?_
            refine XS.aload X798.here hx rfl (hb hby at_377) rfl rfl ?_
            exact k)
          have ex811 := own_QI_exa Q808
          have ex812 := own_QI_exa Q808
          obtain ⟨cq810, kq810, q810a, q810b, q810c⟩ := isOf hZ rfl ex812
          obtain ⟨_, _, ⟨T810, L810, k810, n810⟩, -, X810, ⟨Lc810, hQ810, l810, y810, z810⟩, st810⟩ := X798.virtualBack hx (y := own_y4) (z := own_y4) hown (mvT hZ hw56) (mvT hZ hw57) (notFace_of_selects (args := #[]) (mvT hZ hw59)) (mvT hZ hw59) (mvT hZ hw58) (by decide) (backOf (W := 0) (own_rm7 l Z a0 hw [] b142 (.ref b76) .null .null v11 (v11 + (1 : Int64)) (v11 + (2 : Int64)) (0 : Int32) (3 : Int32) (1 : Int32) T798.heap n0 f801 Q808) hZ hw60 hw25 (by decide) (by decide)) q810a q810c (g := (mkF m 379 #[sI p1, sJ q2, sW, sI 3, sI c0, sI c1, sI c2, sI e0_, sI e1_, sI e2_, sI again, sJ v11, sW, sR b76, sR b87, sR b109, sR b142, sI 1, sI 0, sI 0, sR b76, sR b76, sI 1, sU] [(.ref b142)])) rfl (by rw [hml]; rfl) (Steps.refl _) (argsL := []) (rest := []) (lenOf own_pd_10 rfl) rfl (by show 2 * 0 + _ ≤ _; exact Nat.le_of_eq rfl) (hb hby at_379) (fun _ _ => ⟨rfl, rfl, (by decide : 8 + 0 ≤ _), (by decide : 53 + 0 ≤ _)⟩)
          dsimp only [Pt.U, Pt.locs, Pt.cells, Pt.slots] at X810 l810 y810 z810 st810 hQ810
          subst l810 y810 z810
          obtain ⟨rfl, N810q, eh810⟩ := hQ810
          have N810 := Fr.app N798 N810q
          have pre813 : ∀ t, own_S p e below T810 m 391 #[sI p1, sJ q2, sW, sI 3, sI c0, sI c1, sI c2, sI e0_, sI e1_, sI e2_, sI again, sJ v11, sW, sR b76, sR b87, sR b109, sR b142, sI 1, sI 0, sI 0, sR b76, sR b76, sI 1, sU] [(.int again)] t → R0 t := fun t k => pre809 t (by
            refine st810.trans ?_
            refine XS.iload X810.here hx rfl (hb hby at_382) rfl ?_
            refine XS.icmpYes X810.here hx rfl (pc0 := 384) (pc' := 389) rfl (hb hby at_384) rfl (teq (by decide : (1 : Int32) = (1 : Int32))).1 (by decide) (by decide) ?_
            refine XS.iload X810.here hx rfl (hb hby at_389) rfl ?_
            exact k)
          by_cases hc391 : again = (0 : Int32)
          · have pre814 : ∀ t, own_S p e below T810 m 400 #[sI p1, sJ q2, sW, sI 3, sI c0, sI c1, sI c2, sI e0_, sI e1_, sI e2_, sI again, sJ v11, sW, sR b76, sR b87, sR b109, sR b142, sI 1, sI 0, sI 0, sR b76, sR b76, sI 1, sU] [(.int 1)] t → R0 t := fun t k => pre813 t (by
              refine XS.ifYes X810.here hx rfl (pc0 := 391) (pc' := 399) rfl (hb hby at_391) rfl ((if0 _ _).trans (teq hc391).1) (by decide) (by decide) ?_
              refine XS.iconst X810.here hx rfl (hb hby at_399) ?_
              exact k)
            obtain ⟨fs, hr, hrun, hended, hW, hsame⟩ := X810.leave (v := some (.int 1)) (fun h => by rw [Bd.returns] at h; cases h)
            refine ⟨_, _, cast (congrFun hR0 _) (pre814 _ (retN X810 hx (t := .boolean) Bd.returns (by simp) (hb hby at_400) hr)), hrun, hended, _, _, rfl, ?_, ⟨_, rfl⟩, hW, hsame.mono (by decide) (by decide)⟩
            show own_Q0 Z _ _ h0 n0 _ T810.heap _
            rw [eh810]
            exact ⟨rfl, N810⟩
          · have pre815 : ∀ t, own_S p e below T810 m 405 #[sI p1, sJ q2, sW, sI 3, sI c0, sI c1, sI c2, sI e0_, sI e1_, sI e2_, sI again, sJ v11, sW, sR b76, sR b87, sR b109, sR b142, sI 1, sI 0, sI 0, sR b76, sR b76, sI 1, sU] [(.ref b76), (.ref b142)] t → R0 t := fun t k => pre813 t (by
              refine XS.ifNo X810.here hx rfl (hb hby at_391) rfl ((if0 _ _).trans (feq hc391).1) ?_
              refine XS.aload X810.here hx rfl (hb hby at_394) rfl rfl ?_
              refine XS.ifnonnullYes X810.here hx rfl (pc0 := 396) (pc' := 401) rfl (hb hby at_396) rfl (by decide) (by decide) ?_
              refine XS.aload X810.here hx rfl (hb hby at_401) rfl rfl ?_
              refine XS.aload X810.here hx rfl (hb hby at_403) rfl rfl ?_
              exact k)
            have hp816 : ((0 : Int32) = (0 : Int32) ∧ (3 : Int32) = (1 : Int32)) ∨ ((0 : Int32) = (0 : Int32) ∧ (3 : Int32) = (2 : Int32)) ∨ ((0 : Int32) = (0 : Int32) ∧ (3 : Int32) = (3 : Int32)) := by decide
            have hp817 : ((1 : Int32) < (3 : Int32) → v11 < (v11 + (1 : Int64))) ∧ ((2 : Int32) < (3 : Int32) → (v11 + (1 : Int64)) < (v11 + (2 : Int64))) := ⟨fun _ => hq01, fun _ => hq12⟩
            have hp818 : b76 < b142 := lne143
            have ex820 := own_QI_exa Q808
            have ex821 := own_QI_exa Q808
            obtain ⟨cq819, kq819, q819a, q819b, q819c⟩ := isOf hZ eh810 ex821
            obtain ⟨_, _, ⟨T819, L819, k819, n819⟩, -, X819, ⟨Lc819, hQ819, l819, y819, z819⟩, st819⟩ := X810.virtualBack hx (y := own_y10) (z := own_y10) hown (mvT hZ hw82) (mvT hZ hw83) (notFace_of_selects (args := #[]) (mvT hZ hw85)) (mvT hZ hw85) (mvT hZ hw84) (by decide) (backOf (W := 0) (own_rm11j0 l Z a0 hw [] b142 b76 .null .null v11 (v11 + (1 : Int64)) (v11 + (2 : Int64)) (0 : Int32) (3 : Int32) (1 : Int32) T798.heap n0 f801 Q808 f802 f803 hp816 hp817 hp818) hZ hw86 hw25 (by decide) (by decide)) q819a q819c (g := (mkF m 405 #[sI p1, sJ q2, sW, sI 3, sI c0, sI c1, sI c2, sI e0_, sI e1_, sI e2_, sI again, sJ v11, sW, sR b76, sR b87, sR b109, sR b142, sI 1, sI 0, sI 0, sR b76, sR b76, sI 1, sU] [(.ref b76), (.ref b142)])) rfl (by rw [hml]; rfl) (Steps.refl _) (argsL := [(.ref b76)]) (rest := []) (lenOf own_pd_12 rfl) rfl (by show 2 * 0 + _ ≤ _; exact Nat.le_of_eq rfl) (hb hby at_405) (fun _ _ => ⟨rfl, eh810, (by decide : 8 + 0 ≤ _), (by decide : 53 + 0 ≤ _)⟩)
            dsimp only [Pt.U, Pt.locs, Pt.cells, Pt.slots] at X819 l819 y819 z819 st819 hQ819
            subst l819 y819 z819
            obtain ⟨rfl, N819q, Lw819, Qw819⟩ := hQ819
            have f822 := Nat.le_trans f801 Lw819.1
            have f823 := Lw819.exa f802 lne143
            have f824 := Lw819.fld f803 lne143
            have f825 := Lw819.exa f804 lne144
            have f826 := Lw819.fld f805 lne144
            have f827 := Lw819.exa f806 lne145
            have f828 := Lw819.fld f807 lne145
            have Q829 : own_QI Z T819.heap n0 b142 .null .null .null v11 (v11 + (1 : Int64)) (v11 + (2 : Int64)) (0 : Int32) (3 : Int32) (0 : Int32) := Qw819
            have N819 := Fr.app N810 N819q
            have pre830 : ∀ t, own_S p e below T819 m 449 #[sI p1, sJ q2, sW, sI 3, sI c0, sI c1, sI c2, sI e0_, sI e1_, sI e2_, sI again, sJ v11, sW, sR b76, sR b87, sR b109, sR b142, sI 0, sI 0, sI 0, sR b76, sR b76, sI 1, sU] [(.ref b109), (.ref b87), (.ref b76), (.int 0), (.int 0), (.int 0)] t → R0 t := fun t k => pre815 t (by
              refine st819.trans ?_
              refine XS.aload X819.here hx rfl (hb hby at_408) rfl rfl ?_
              refine XS.aload X819.here hx rfl (hb hby at_410) rfl rfl ?_
              refine Jvm.RoadKit.acmp (g := (mkF m 412 #[sI p1, sJ q2, sW, sI 3, sI c0, sI c1, sI c2, sI e0_, sI e1_, sI e2_, sI again, sJ v11, sW, sR b76, sR b87, sR b109, sR b142, sI 1, sI 0, sI 0, sR b76, sR b76, sI 1, sU] [(.ref b76), (.ref b76)])) X819 hx rfl rfl rfl (pc0 := 412) (pc' := 415) (same := true) rfl (hb hby at_412) rfl (decide_eq_true rfl) (by decide) (by decide) ?_
              refine XS.iconst X819.here hx rfl (hb hby at_415) ?_
              refine XS.istore X819.here hx rfl (hb hby at_416) rfl (l' := #[sI p1, sJ q2, sW, sI 3, sI c0, sI c1, sI c2, sI e0_, sI e1_, sI e2_, sI again, sJ v11, sW, sR b76, sR b87, sR b109, sR b142, sI 0, sI 0, sI 0, sR b76, sR b76, sI 1, sU]) rfl ?_
              refine XS.goto X819.here hx rfl (pc0 := 418) (pc' := 437) rfl (hb hby at_418) (by decide) (by decide) ?_
              refine XS.iload X819.here hx rfl (hb hby at_437) rfl ?_
              refine XS.iload X819.here hx rfl (hb hby at_439) rfl ?_
              refine XS.iload X819.here hx rfl (hb hby at_441) rfl ?_
              refine XS.aload X819.here hx rfl (hb hby at_443) rfl rfl ?_
              refine XS.aload X819.here hx rfl (hb hby at_445) rfl rfl ?_
              refine XS.aload X819.here hx rfl (hb hby at_447) rfl rfl ?_
              exact k)
            obtain ⟨_, _, ⟨T831, L831, k831, n831⟩, -, X831, ⟨Lc831, hQ831, l831, y831, z831⟩, st831⟩ := Jvm.LawKit.callS X819 hx (y := own_y12) hown (mvT hZ hw45) (mvT hZ hw46) (mvT hZ hw47) (mvT hZ hw48) (by decide) (backOf (W := 0) (own_rm5d l Z a0 hw [] b76 b87 b109 T819.heap n0 f822 ) hZ hw48 hw47 (by decide) (by decide)) (g := (mkF m 449 #[sI p1, sJ q2, sW, sI 3, sI c0, sI c1, sI c2, sI e0_, sI e1_, sI e2_, sI again, sJ v11, sW, sR b76, sR b87, sR b109, sR b142, sI 0, sI 0, sI 0, sR b76, sR b76, sI 1, sU] [(.ref b109), (.ref b87), (.ref b76), (.int 0), (.int 0), (.int 0)])) rfl (by rw [hml]; rfl) (argsL := [(.int 0), (.int 0), (.int 0), (.ref b76), (.ref b87), (.ref b109)]) (rest := []) (lenOf own_pd_8 rfl) rfl (by show 2 * 0 + _ ≤ _; exact Nat.le_of_eq rfl) (hb hby at_449) (fun _ _ => ⟨rfl, rfl, (by decide : 8 + 0 ≤ _), (by decide : 53 + 0 ≤ _)⟩)
            dsimp only [Pt.U, Pt.locs, Pt.cells, Pt.slots] at X831 l831 y831 z831 st831 hQ831
            subst l831 y831 z831
            obtain ⟨rfl, N831q, eh831⟩ := hQ831
            have N831 := Fr.app N819 N831q
            have pre832 : ∀ t, own_S p e below T831 m 456 #[sI p1, sJ q2, sW, sI 3, sI c0, sI c1, sI c2, sI e0_, sI e1_, sI e2_, sI again, sJ v11, sW, sR b76, sR b87, sR b109, sR b142, sI 0, sI 0, sI 0, sR b76, sR b76, sI 1, sN] [(.ref b142)] t → R0 t := fun t k => pre830 t (by
              refine st831 _ ?_
              refine XS.astore X831.here hx rfl (hb hby at_452) rfl rfl (l' := #[sI p1, sJ q2, sW, sI 3, sI c0, sI c1, sI c2, sI e0_, sI e1_, sI e2_, sI again, sJ v11, sW, sR b76, sR b87, sR b109, sR b142, sI 0, sI 0, sI 0, sR b76, sR b76, sI 1, sN]) rfl ?_
              refine XS.aload X831.here hx rfl (hb hby at_454) rfl rfl ?_
              exact k)
            have hp833 : (0 : Int32) = (0 : Int32) := by decide
            have ex835 := own_QI_exa Q829
            have ex836 := own_QI_exa Q829
            obtain ⟨cq834, kq834, q834a, q834b, q834c⟩ := isOf hZ eh831 ex836
            obtain ⟨_, _, ⟨T834, L834, k834, n834⟩, -, X834, ⟨Lc834, hQ834, l834, y834, z834⟩, st834⟩ := X831.virtualBack hx (y := own_y11) (z := own_y11) hown (mvT hZ hw49) (mvT hZ hw50) (notFace_of_selects (args := #[]) (mvT hZ hw52)) (mvT hZ hw52) (mvT hZ hw51) (by decide) (backOf (W := 0) (own_rm6z l Z a0 hw [] b142 .null .null .null v11 (v11 + (1 : Int64)) (v11 + (2 : Int64)) (0 : Int32) (3 : Int32) (0 : Int32) T819.heap n0 f822 Q829 hp833) hZ hw53 hw25 (by decide) (by decide)) q834a q834c (g := (mkF m 456 #[sI p1, sJ q2, sW, sI 3, sI c0, sI c1, sI c2, sI e0_, sI e1_, sI e2_, sI again, sJ v11, sW, sR b76, sR b87, sR b109, sR b142, sI 0, sI 0, sI 0, sR b76, sR b76, sI 1, sN] [(.ref b142)])) rfl (by rw [hml]; rfl) (Steps.refl _) (argsL := []) (rest := []) (lenOf own_pd_9 rfl) rfl (by show 2 * 0 + _ ≤ _; exact Nat.le_of_eq rfl) (hb hby at_456) (fun _ _ => ⟨rfl, eh831, (by decide : 8 + 0 ≤ _), (by decide : 53 + 0 ≤ _)⟩)
            dsimp only [Pt.U, Pt.locs, Pt.cells, Pt.slots] at X834 l834 y834 z834 st834 hQ834
            subst l834 y834 z834
            obtain ⟨rfl, N834q, eh834⟩ := hQ834
            have N834 := Fr.app N831 N834q
            have pre837 : ∀ t, own_S p e below T834 m 469 #[sI p1, sJ q2, sW, sI 3, sI c0, sI c1, sI c2, sI e0_, sI e1_, sI e2_, sI again, sJ v11, sW, sR b76, sR b87, sR b109, sR b142, sI 0, sI 0, sI 0, sR b76, sR b76, sI 1, sN] [(.int 1)] t → R0 t := fun t k => pre832 t (by
              refine st834.trans ?_
              refine XS.aload X834.here hx rfl (hb hby at_459) rfl rfl ?_
              refine Jvm.RoadKit.acmp (g := (mkF m 461 #[sI p1, sJ q2, sW, sI 3, sI c0, sI c1, sI c2, sI e0_, sI e1_, sI e2_, sI again, sJ v11, sW, sR b76, sR b87, sR b109, sR b142, sI 0, sI 0, sI 0, sR b76, sR b76, sI 1, sN] [.null, .null])) X834 hx rfl rfl rfl (pc0 := 461) (pc' := 464) (same := true) rfl (hb hby at_461) rfl (decide_eq_true rfl) (by decide) (by decide) ?_
              refine XS.iconst X834.here hx rfl (hb hby at_464) ?_
              refine XS.goto X834.here hx rfl (pc0 := 465) (pc' := 469) rfl (hb hby at_465) (by decide) (by decide) ?_
              exact k)
            obtain ⟨fs, hr, hrun, hended, hW, hsame⟩ := X834.leave (v := some (.int 1)) (fun h => by rw [Bd.returns] at h; cases h)
            refine ⟨_, _, cast (congrFun hR0 _) (pre837 _ (retN X834 hx (t := .boolean) Bd.returns (by simp) (hb hby at_469) hr)), hrun, hended, _, _, rfl, ?_, ⟨_, rfl⟩, hW, hsame.mono (by decide) (by decide)⟩
            show own_Q0 Z _ _ h0 n0 _ T834.heap _
            rw [eh834]
            exact ⟨rfl, N834⟩
    · have pre838 : ∀ t, own_S p e below T563 m 233 #[sI p1, sJ q2, sW, sI 3, sI c0, sI c1, sI c2, sI e0_, sI e1_, sI e2_, sI again, sJ v11, sW, sR b76, sR b87, sR b109, sR b142, sI 0, sU, sU, sU, sU, sU, sU] [(.int e1_)] t → R0 t := fun t k => pre574 t (by
        refine XS.ifYes X563.here hx rfl (pc0 := 216) (pc' := 223) rfl (hb hby at_216) rfl ((if0 _ _).trans (feq hc216).2) (by decide) (by decide) ?_
        refine XS.iconst X563.here hx rfl (hb hby at_223) ?_
        refine XS.istore X563.here hx rfl (hb hby at_224) rfl (l' := #[sI p1, sJ q2, sW, sI 3, sI c0, sI c1, sI c2, sI e0_, sI e1_, sI e2_, sI again, sJ v11, sW, sR b76, sR b87, sR b109, sR b142, sI 0, sU, sU, sU, sU, sU, sU]) rfl ?_
        refine XS.iloadN X563.here hx rfl (hb hby at_226) rfl ?_
        refine XS.iconst X563.here hx rfl (hb hby at_227) ?_
        refine XS.icmpNo X563.here hx rfl (hb hby at_228) rfl (tlt (by decide : (1 : Int32) < (3 : Int32))).2.2.2 ?_
        refine XS.iload X563.here hx rfl (hb hby at_231) rfl ?_
        exact k)
      by_cases hc233 : e1_ = (0 : Int32)
      · have pre839 : ∀ t, own_S p e below T563 m 250 #[sI p1, sJ q2, sW, sI 3, sI c0, sI c1, sI c2, sI e0_, sI e1_, sI e2_, sI again, sJ v11, sW, sR b76, sR b87, sR b109, sR b142, sI 0, sI 1, sU, sU, sU, sU, sU] [(.int e2_)] t → R0 t := fun t k => pre838 t (by
          refine XS.ifNo X563.here hx rfl (hb hby at_233) rfl ((if0 _ _).trans (teq hc233).2) ?_
          refine XS.iconst X563.here hx rfl (hb hby at_236) ?_
          refine XS.goto X563.here hx rfl (pc0 := 237) (pc' := 241) rfl (hb hby at_237) (by decide) (by decide) ?_
          refine XS.istore X563.here hx rfl (hb hby at_241) rfl (l' := #[sI p1, sJ q2, sW, sI 3, sI c0, sI c1, sI c2, sI e0_, sI e1_, sI e2_, sI again, sJ v11, sW, sR b76, sR b87, sR b109, sR b142, sI 0, sI 1, sU, sU, sU, sU, sU]) rfl ?_
          refine XS.iloadN X563.here hx rfl (hb hby at_243) rfl ?_
          refine XS.iconst X563.here hx rfl (hb hby at_244) ?_
          refine XS.icmpNo X563.here hx rfl (hb hby at_245) rfl (tlt (by decide : (2 : Int32) < (3 : Int32))).2.2.2 ?_
          refine XS.iload X563.here hx rfl (hb hby at_248) rfl ?_
          exact k)
        by_cases hc250 : e2_ = (0 : Int32)
        · have pre840 : ∀ t, own_S p e below T563 m 273 #[sI p1, sJ q2, sW, sI 3, sI c0, sI c1, sI c2, sI e0_, sI e1_, sI e2_, sI again, sJ v11, sW, sR b76, sR b87, sR b109, sR b142, sI 0, sI 1, sI 1, sU, sU, sU, sU] [(.ref b76), (.ref b142)] t → R0 t := fun t k => pre839 t (by
            refine XS.ifNo X563.here hx rfl (hb hby at_250) rfl ((if0 _ _).trans (teq hc250).2) ?_
            refine XS.iconst X563.here hx rfl (hb hby at_253) ?_
            refine XS.goto X563.here hx rfl (pc0 := 254) (pc' := 258) rfl (hb hby at_254) (by decide) (by decide) ?_
            refine XS.istore X563.here hx rfl (hb hby at_258) rfl (l' := #[sI p1, sJ q2, sW, sI 3, sI c0, sI c1, sI c2, sI e0_, sI e1_, sI e2_, sI again, sJ v11, sW, sR b76, sR b87, sR b109, sR b142, sI 0, sI 1, sI 1, sU, sU, sU, sU]) rfl ?_
            refine XS.iloadN X563.here hx rfl (hb hby at_260) rfl ?_
            refine XS.ifNo X563.here hx rfl (hb hby at_261) rfl ((if0 _ _).trans (tlt (by decide : (0 : Int32) < (3 : Int32))).2.2.2) ?_
            refine XS.iload X563.here hx rfl (hb hby at_264) rfl ?_
            refine XS.ifNo X563.here hx rfl (hb hby at_266) rfl ((if0 _ _).trans (feq hc216).1) ?_
            refine XS.aload X563.here hx rfl (hb hby at_269) rfl rfl ?_
            refine XS.aload X563.here hx rfl (hb hby at_271) rfl rfl ?_
            exact k)
          have hp841 : ((0 : Int32) = (0 : Int32) ∧ (3 : Int32) = (1 : Int32)) ∨ ((0 : Int32) = (0 : Int32) ∧ (3 : Int32) = (2 : Int32)) ∨ ((0 : Int32) = (0 : Int32) ∧ (3 : Int32) = (3 : Int32)) := by decide
          have hp842 : ((1 : Int32) < (3 : Int32) → v11 < (v11 + (1 : Int64))) ∧ ((2 : Int32) < (3 : Int32) → (v11 + (1 : Int64)) < (v11 + (2 : Int64))) := ⟨fun _ => hq01, fun _ => hq12⟩
          have hp843 : b76 < b142 := lne143
          have ex845 := own_QI_exa Q573
          have ex846 := own_QI_exa Q573
          obtain ⟨cq844, kq844, q844a, q844b, q844c⟩ := isOf hZ rfl ex846
          obtain ⟨_, _, ⟨T844, L844, k844, n844⟩, -, X844, ⟨Lc844, hQ844, l844, y844, z844⟩, st844⟩ := X563.virtualBack hx (y := own_y10) (z := own_y10) hown (mvT hZ hw82) (mvT hZ hw83) (notFace_of_selects (args := #[]) (mvT hZ hw85)) (mvT hZ hw85) (mvT hZ hw84) (by decide) (backOf (W := 0) (own_rm11j0 l Z a0 hw [] b142 b76 (.ref b87) (.ref b109) v11 (v11 + (1 : Int64)) (v11 + (2 : Int64)) (0 : Int32) (3 : Int32) (3 : Int32) T563.heap n0 f566 Q573 f567 f568 hp841 hp842 hp843) hZ hw86 hw25 (by decide) (by decide)) q844a q844c (g := (mkF m 273 #[sI p1, sJ q2, sW, sI 3, sI c0, sI c1, sI c2, sI e0_, sI e1_, sI e2_, sI again, sJ v11, sW, sR b76, sR b87, sR b109, sR b142, sI 0, sI 1, sI 1, sU, sU, sU, sU] [(.ref b76), (.ref b142)])) rfl (by rw [hml]; rfl) (Steps.refl _) (argsL := [(.ref b76)]) (rest := []) (lenOf own_pd_12 rfl) rfl (by show 2 * 0 + _ ≤ _; exact Nat.le_of_eq rfl) (hb hby at_273) (fun _ _ => ⟨rfl, rfl, (by decide : 8 + 0 ≤ _), (by decide : 53 + 0 ≤ _)⟩)
          dsimp only [Pt.U, Pt.locs, Pt.cells, Pt.slots] at X844 l844 y844 z844 st844 hQ844
          subst l844 y844 z844
          obtain ⟨rfl, N844q, Lw844, Qw844⟩ := hQ844
          have f847 := Nat.le_trans f566 Lw844.1
          have f848 := Lw844.exa f567 lne143
          have f849 := Lw844.fld f568 lne143
          have f850 := Lw844.exa f569 lne144
          have f851 := Lw844.fld f570 lne144
          have f852 := Lw844.exa f571 lne145
          have f853 := Lw844.fld f572 lne145
          have Q854 : own_QI Z T844.heap n0 b142 .null (.ref b87) (.ref b109) v11 (v11 + (1 : Int64)) (v11 + (2 : Int64)) (0 : Int32) (3 : Int32) (2 : Int32) := Qw844
          have N844 := Fr.app N563 N844q
          have pre855 : ∀ t, own_S p e below T844 m 322 #[sI p1, sJ q2, sW, sI 3, sI c0, sI c1, sI c2, sI e0_, sI e1_, sI e2_, sI again, sJ v11, sW, sR b76, sR b87, sR b109, sR b142, sI 0, sI 1, sI 1, sU, sU, sU, sU] [(.ref b109), (.ref b87), (.ref b76), (.int 1), (.int 1), (.int 0)] t → R0 t := fun t k => pre840 t (by
            refine st844.trans ?_
            refine XS.iloadN X844.here hx rfl (hb hby at_276) rfl ?_
            refine XS.iconst X844.here hx rfl (hb hby at_277) ?_
            refine XS.icmpNo X844.here hx rfl (hb hby at_278) rfl (tlt (by decide : (1 : Int32) < (3 : Int32))).2.2.2 ?_
            refine XS.iload X844.here hx rfl (hb hby at_281) rfl ?_
            refine XS.ifYes X844.here hx rfl (pc0 := 283) (pc' := 293) rfl (hb hby at_283) rfl ((if0 _ _).trans (teq hc233).1) (by decide) (by decide) ?_
            refine XS.iloadN X844.here hx rfl (hb hby at_293) rfl ?_
            refine XS.iconst X844.here hx rfl (hb hby at_294) ?_
            refine XS.icmpNo X844.here hx rfl (hb hby at_295) rfl (tlt (by decide : (2 : Int32) < (3 : Int32))).2.2.2 ?_
            refine XS.iload X844.here hx rfl (hb hby at_298) rfl ?_
            refine XS.ifYes X844.here hx rfl (pc0 := 300) (pc' := 310) rfl (hb hby at_300) rfl ((if0 _ _).trans (teq hc250).1) (by decide) (by decide) ?_
            refine XS.iload X844.here hx rfl (hb hby at_310) rfl ?_
            refine XS.iload X844.here hx rfl (hb hby at_312) rfl ?_
            refine XS.iload X844.here hx rfl (hb hby at_314) rfl ?_
            refine XS.aload X844.here hx rfl (hb hby at_316) rfl rfl ?_
            refine XS.aload X844.here hx rfl (hb hby at_318) rfl rfl ?_
            refine XS.aload X844.here hx rfl (hb hby at_320) rfl rfl ?_
            exact k)
          obtain ⟨_, _, ⟨T856, L856, k856, n856⟩, -, X856, ⟨Lc856, hQ856, l856, y856, z856⟩, st856⟩ := Jvm.LawKit.callS X844 hx (y := own_y12) hown (mvT hZ hw45) (mvT hZ hw46) (mvT hZ hw47) (mvT hZ hw48) (by decide) (backOf (W := 0) (own_rm5b l Z a0 hw [] (1 : Int32) b76 b87 b109 T844.heap n0 f847 ) hZ hw48 hw47 (by decide) (by decide)) (g := (mkF m 322 #[sI p1, sJ q2, sW, sI 3, sI c0, sI c1, sI c2, sI e0_, sI e1_, sI e2_, sI again, sJ v11, sW, sR b76, sR b87, sR b109, sR b142, sI 0, sI 1, sI 1, sU, sU, sU, sU] [(.ref b109), (.ref b87), (.ref b76), (.int 1), (.int 1), (.int 0)])) rfl (by rw [hml]; rfl) (argsL := [(.int 0), (.int 1), (.int 1), (.ref b76), (.ref b87), (.ref b109)]) (rest := []) (lenOf own_pd_8 rfl) rfl (by show 2 * 0 + _ ≤ _; exact Nat.le_of_eq rfl) (hb hby at_322) (fun _ _ => ⟨rfl, rfl, (by decide : 8 + 0 ≤ _), (by decide : 53 + 0 ≤ _)⟩)
          dsimp only [Pt.U, Pt.locs, Pt.cells, Pt.slots] at X856 l856 y856 z856 st856 hQ856
          subst l856 y856 z856
          obtain ⟨rfl, N856q, eh856⟩ := hQ856
          have N856 := Fr.app N844 N856q
          have pre857 : ∀ t, own_S p e below T856 m 329 #[sI p1, sJ q2, sW, sI 3, sI c0, sI c1, sI c2, sI e0_, sI e1_, sI e2_, sI again, sJ v11, sW, sR b76, sR b87, sR b109, sR b142, sI 0, sI 1, sI 1, sR b87, sU, sU, sU] [(.ref b142)] t → R0 t := fun t k => pre855 t (by
            refine st856 _ ?_
            refine XS.astore X856.here hx rfl (hb hby at_325) rfl rfl (l' := #[sI p1, sJ q2, sW, sI 3, sI c0, sI c1, sI c2, sI e0_, sI e1_, sI e2_, sI again, sJ v11, sW, sR b76, sR b87, sR b109, sR b142, sI 0, sI 1, sI 1, sR b87, sU, sU, sU]) rfl ?_
            refine XS.aload X856.here hx rfl (hb hby at_327) rfl rfl ?_
            exact k)
          have hp858 : ¬ ((2 : Int32) = (0 : Int32)) := by decide
          have ex860 := own_QI_exa Q854
          have ex861 := own_QI_exa Q854
          obtain ⟨cq859, kq859, q859a, q859b, q859c⟩ := isOf hZ eh856 ex861
          obtain ⟨_, _, ⟨T859, L859, k859, n859⟩, -, X859, ⟨Lc859, hQ859, l859, y859, z859⟩, st859⟩ := X856.virtualBack hx (y := own_y11) (z := own_y11) hown (mvT hZ hw49) (mvT hZ hw50) (notFace_of_selects (args := #[]) (mvT hZ hw52)) (mvT hZ hw52) (mvT hZ hw51) (by decide) (backOf (W := 0) (own_rm6h0f1 l Z a0 hw [] b142 b87 (.ref b109) v11 (v11 + (1 : Int64)) (v11 + (2 : Int64)) (3 : Int32) (2 : Int32) T844.heap n0 f847 Q854 hp858) hZ hw53 hw25 (by decide) (by decide)) q859a q859c (g := (mkF m 329 #[sI p1, sJ q2, sW, sI 3, sI c0, sI c1, sI c2, sI e0_, sI e1_, sI e2_, sI again, sJ v11, sW, sR b76, sR b87, sR b109, sR b142, sI 0, sI 1, sI 1, sR b87, sU, sU, sU] [(.ref b142)])) rfl (by rw [hml]; rfl) (Steps.refl _) (argsL := []) (rest := []) (lenOf own_pd_9 rfl) rfl (by show 2 * 0 + _ ≤ _; exact Nat.le_of_eq rfl) (hb hby at_329) (fun _ _ => ⟨rfl, eh856, (by decide : 8 + 0 ≤ _), (by decide : 53 + 0 ≤ _)⟩)
          dsimp only [Pt.U, Pt.locs, Pt.cells, Pt.slots] at X859 l859 y859 z859 st859 hQ859
          subst l859 y859 z859
          obtain ⟨rfl, N859q, Lw859, Qw859⟩ := hQ859
          have f862 := Nat.le_trans f847 Lw859.1
          have f863 := Lw859.exa f848 lne143
          have f864 := Lw859.fld f849 lne143
          have f865 := Lw859.exa f850 lne144
          have f866 := Lw859.fld f851 lne144
          have f867 := Lw859.exa f852 lne145
          have f868 := Lw859.fld f853 lne145
          have Q869 : own_QI Z T859.heap n0 b142 .null (.ref b87) (.ref b109) v11 (v11 + (1 : Int64)) (v11 + (2 : Int64)) (1 : Int32) (3 : Int32) (2 : Int32) := Qw859
          have N859 := Fr.app N856 N859q
          have pre870 : ∀ t, own_S p e below T859 m 379 #[sI p1, sJ q2, sW, sI 3, sI c0, sI c1, sI c2, sI e0_, sI e1_, sI e2_, sI again, sJ v11, sW, sR b76, sR b87, sR b109, sR b142, sI 0, sI 1, sI 1, sR b87, sR b87, sI 2, sU] [(.ref b142)] t → R0 t := fun t k => pre857 t (by
            refine st859.trans ?_
            refine XS.astore X859.here hx rfl (hb hby at_332) rfl rfl (l' := #[sI p1, sJ q2, sW, sI 3, sI c0, sI c1, sI c2, sI e0_, sI e1_, sI e2_, sI again, sJ v11, sW, sR b76, sR b87, sR b109, sR b142, sI 0, sI 1, sI 1, sR b87, sR b87, sU, sU]) rfl ?_
            refine XS.aload X859.here hx rfl (hb hby at_334) rfl rfl ?_
            refine XS.aload X859.here hx rfl (hb hby at_336) rfl rfl ?_
            refine Jvm.RoadKit.acmp (g := (mkF m 338 #[sI p1, sJ q2, sW, sI 3, sI c0, sI c1, sI c2, sI e0_, sI e1_, sI e2_, sI again, sJ v11, sW, sR b76, sR b87, sR b109, sR b142, sI 0, sI 1, sI 1, sR b87, sR b87, sU, sU] [(.ref b87), (.ref b87)])) X859 hx rfl rfl rfl (pc0 := 338) (pc' := 343) (same := true) rfl (hb hby at_338) rfl (decide_eq_true rfl) (by decide) (by decide) ?_
            refine XS.iload X859.here hx rfl (hb hby at_343) rfl ?_
            refine XS.ifYes X859.here hx rfl (pc0 := 345) (pc' := 352) rfl (hb hby at_345) rfl ((if0 _ _).trans (teq (by decide : (0 : Int32) = (0 : Int32))).1) (by decide) (by decide) ?_
            refine XS.iconst X859.here hx rfl (hb hby at_352) ?_
            refine XS.iload X859.here hx rfl (hb hby at_353) rfl ?_
            refine XS.ifNo X859.here hx rfl (hb hby at_355) rfl ((if0 _ _).trans (feq (by decide : ¬ ((1 : Int32) = (0 : Int32)))).1) ?_
            refine XS.iconst X859.here hx rfl (hb hby at_358) ?_
            refine XS.goto X859.here hx rfl (pc0 := 359) (pc' := 363) rfl (hb hby at_359) (by decide) (by decide) ?_
            refine XS.iadd X859.here hx rfl (hb hby at_363) rfl ?_
            refine XS.iload X859.here hx rfl (hb hby at_364) rfl ?_
            refine XS.ifNo X859.here hx rfl (hb hby at_366) rfl ((if0 _ _).trans (feq (by decide : ¬ ((1 : Int32) = (0 : Int32)))).1) ?_
            refine XS.iconst X859.here hx rfl (hb hby at_369) ?_
            refine XS.goto X859.here hx rfl (pc0 := 370) (pc' := 374) rfl (hb hby at_370) (by decide) (by decide) ?_
            refine XS.iadd X859.here hx rfl (hb hby at_374) rfl ?_
            refine XS.istore X859.here hx rfl (hb hby at_375) rfl (l' := #[sI p1, sJ q2, sW, sI 3, sI c0, sI c1, sI c2, sI e0_, sI e1_, sI e2_, sI again, sJ v11, sW, sR b76, sR b87, sR b109, sR b142, sI 0, sI 1, sI 1, sR b87, sR b87, sI 2, sU]) rfl ?_
            refine XS.aload X859.here hx rfl (hb hby at_377) rfl rfl ?_
            exact k)
          have ex872 := own_QI_exa Q869
          have ex873 := own_QI_exa Q869
          obtain ⟨cq871, kq871, q871a, q871b, q871c⟩ := isOf hZ rfl ex873
          obtain ⟨_, _, ⟨T871, L871, k871, n871⟩, -, X871, ⟨Lc871, hQ871, l871, y871, z871⟩, st871⟩ := X859.virtualBack hx (y := own_y4) (z := own_y4) hown (mvT hZ hw56) (mvT hZ hw57) (notFace_of_selects (args := #[]) (mvT hZ hw59)) (mvT hZ hw59) (mvT hZ hw58) (by decide) (backOf (W := 0) (own_rm7 l Z a0 hw [] b142 .null (.ref b87) (.ref b109) v11 (v11 + (1 : Int64)) (v11 + (2 : Int64)) (1 : Int32) (3 : Int32) (2 : Int32) T859.heap n0 f862 Q869) hZ hw60 hw25 (by decide) (by decide)) q871a q871c (g := (mkF m 379 #[sI p1, sJ q2, sW, sI 3, sI c0, sI c1, sI c2, sI e0_, sI e1_, sI e2_, sI again, sJ v11, sW, sR b76, sR b87, sR b109, sR b142, sI 0, sI 1, sI 1, sR b87, sR b87, sI 2, sU] [(.ref b142)])) rfl (by rw [hml]; rfl) (Steps.refl _) (argsL := []) (rest := []) (lenOf own_pd_10 rfl) rfl (by show 2 * 0 + _ ≤ _; exact Nat.le_of_eq rfl) (hb hby at_379) (fun _ _ => ⟨rfl, rfl, (by decide : 8 + 0 ≤ _), (by decide : 53 + 0 ≤ _)⟩)
          dsimp only [Pt.U, Pt.locs, Pt.cells, Pt.slots] at X871 l871 y871 z871 st871 hQ871
          subst l871 y871 z871
          obtain ⟨rfl, N871q, eh871⟩ := hQ871
          have N871 := Fr.app N859 N871q
          have pre874 : ∀ t, own_S p e below T871 m 391 #[sI p1, sJ q2, sW, sI 3, sI c0, sI c1, sI c2, sI e0_, sI e1_, sI e2_, sI again, sJ v11, sW, sR b76, sR b87, sR b109, sR b142, sI 0, sI 1, sI 1, sR b87, sR b87, sI 2, sU] [(.int again)] t → R0 t := fun t k => pre870 t (by
            refine st871.trans ?_
            refine XS.iload X871.here hx rfl (hb hby at_382) rfl ?_
            refine XS.icmpYes X871.here hx rfl (pc0 := 384) (pc' := 389) rfl (hb hby at_384) rfl (teq (by decide : (2 : Int32) = (2 : Int32))).1 (by decide) (by decide) ?_
            refine XS.iload X871.here hx rfl (hb hby at_389) rfl ?_
            exact k)
          by_cases hc391 : again = (0 : Int32)
          · have pre875 : ∀ t, own_S p e below T871 m 400 #[sI p1, sJ q2, sW, sI 3, sI c0, sI c1, sI c2, sI e0_, sI e1_, sI e2_, sI again, sJ v11, sW, sR b76, sR b87, sR b109, sR b142, sI 0, sI 1, sI 1, sR b87, sR b87, sI 2, sU] [(.int 1)] t → R0 t := fun t k => pre874 t (by
              refine XS.ifYes X871.here hx rfl (pc0 := 391) (pc' := 399) rfl (hb hby at_391) rfl ((if0 _ _).trans (teq hc391).1) (by decide) (by decide) ?_
              refine XS.iconst X871.here hx rfl (hb hby at_399) ?_
              exact k)
            obtain ⟨fs, hr, hrun, hended, hW, hsame⟩ := X871.leave (v := some (.int 1)) (fun h => by rw [Bd.returns] at h; cases h)
            refine ⟨_, _, cast (congrFun hR0 _) (pre875 _ (retN X871 hx (t := .boolean) Bd.returns (by simp) (hb hby at_400) hr)), hrun, hended, _, _, rfl, ?_, ⟨_, rfl⟩, hW, hsame.mono (by decide) (by decide)⟩
            show own_Q0 Z _ _ h0 n0 _ T871.heap _
            rw [eh871]
            exact ⟨rfl, N871⟩
          · have pre876 : ∀ t, own_S p e below T871 m 405 #[sI p1, sJ q2, sW, sI 3, sI c0, sI c1, sI c2, sI e0_, sI e1_, sI e2_, sI again, sJ v11, sW, sR b76, sR b87, sR b109, sR b142, sI 0, sI 1, sI 1, sR b87, sR b87, sI 2, sU] [(.ref b87), (.ref b142)] t → R0 t := fun t k => pre874 t (by
              refine XS.ifNo X871.here hx rfl (hb hby at_391) rfl ((if0 _ _).trans (feq hc391).1) ?_
              refine XS.aload X871.here hx rfl (hb hby at_394) rfl rfl ?_
              refine XS.ifnonnullYes X871.here hx rfl (pc0 := 396) (pc' := 401) rfl (hb hby at_396) rfl (by decide) (by decide) ?_
              refine XS.aload X871.here hx rfl (hb hby at_401) rfl rfl ?_
              refine XS.aload X871.here hx rfl (hb hby at_403) rfl rfl ?_
              exact k)
            have hp877 : ((1 : Int32) = (0 : Int32) ∧ (3 : Int32) = (2 : Int32)) ∨ ((1 : Int32) = (0 : Int32) ∧ (3 : Int32) = (3 : Int32)) ∨ ((1 : Int32) = (1 : Int32) ∧ (3 : Int32) = (2 : Int32)) ∨ ((1 : Int32) = (1 : Int32) ∧ (3 : Int32) = (3 : Int32)) := by decide
            have hp878 : ((1 : Int32) < (3 : Int32) → v11 < (v11 + (1 : Int64))) ∧ ((2 : Int32) < (3 : Int32) → (v11 + (1 : Int64)) < (v11 + (2 : Int64))) := ⟨fun _ => hq01, fun _ => hq12⟩
            have hp879 : b87 < b142 := lne144
            have ex881 := own_QI_exa Q869
            have ex882 := own_QI_exa Q869
            obtain ⟨cq880, kq880, q880a, q880b, q880c⟩ := isOf hZ eh871 ex882
            obtain ⟨_, _, ⟨T880, L880, k880, n880⟩, -, X880, ⟨Lc880, hQ880, l880, y880, z880⟩, st880⟩ := X871.virtualBack hx (y := own_y10) (z := own_y10) hown (mvT hZ hw82) (mvT hZ hw83) (notFace_of_selects (args := #[]) (mvT hZ hw85)) (mvT hZ hw85) (mvT hZ hw84) (by decide) (backOf (W := 0) (own_rm11j1 l Z a0 hw [] b142 b87 .null (.ref b109) v11 (v11 + (1 : Int64)) (v11 + (2 : Int64)) (1 : Int32) (3 : Int32) (2 : Int32) T859.heap n0 f862 Q869 f865 f866 hp877 hp878 hp879) hZ hw86 hw25 (by decide) (by decide)) q880a q880c (g := (mkF m 405 #[sI p1, sJ q2, sW, sI 3, sI c0, sI c1, sI c2, sI e0_, sI e1_, sI e2_, sI again, sJ v11, sW, sR b76, sR b87, sR b109, sR b142, sI 0, sI 1, sI 1, sR b87, sR b87, sI 2, sU] [(.ref b87), (.ref b142)])) rfl (by rw [hml]; rfl) (Steps.refl _) (argsL := [(.ref b87)]) (rest := []) (lenOf own_pd_12 rfl) rfl (by show 2 * 0 + _ ≤ _; exact Nat.le_of_eq rfl) (hb hby at_405) (fun _ _ => ⟨rfl, eh871, (by decide : 8 + 0 ≤ _), (by decide : 53 + 0 ≤ _)⟩)
            dsimp only [Pt.U, Pt.locs, Pt.cells, Pt.slots] at X880 l880 y880 z880 st880 hQ880
            subst l880 y880 z880
            obtain ⟨rfl, N880q, Lw880, Qw880⟩ := hQ880
            have f883 := Nat.le_trans f862 Lw880.1
            have f884 := Lw880.exa f863 lne143
            have f885 := Lw880.fld f864 lne143
            have f886 := Lw880.exa f865 lne144
            have f887 := Lw880.fld f866 lne144
            have f888 := Lw880.exa f867 lne145
            have f889 := Lw880.fld f868 lne145
            have Q890 : own_QI Z T880.heap n0 b142 .null .null (.ref b109) v11 (v11 + (1 : Int64)) (v11 + (2 : Int64)) (1 : Int32) (3 : Int32) (1 : Int32) := Qw880
            have N880 := Fr.app N871 N880q
            have pre891 : ∀ t, own_S p e below T880 m 449 #[sI p1, sJ q2, sW, sI 3, sI c0, sI c1, sI c2, sI e0_, sI e1_, sI e2_, sI again, sJ v11, sW, sR b76, sR b87, sR b109, sR b142, sI 0, sI 0, sI 1, sR b87, sR b87, sI 2, sU] [(.ref b109), (.ref b87), (.ref b76), (.int 1), (.int 0), (.int 0)] t → R0 t := fun t k => pre876 t (by
              refine st880.trans ?_
              refine XS.aload X880.here hx rfl (hb hby at_408) rfl rfl ?_
              refine XS.aload X880.here hx rfl (hb hby at_410) rfl rfl ?_
              refine Jvm.RoadKit.acmp (g := (mkF m 412 #[sI p1, sJ q2, sW, sI 3, sI c0, sI c1, sI c2, sI e0_, sI e1_, sI e2_, sI again, sJ v11, sW, sR b76, sR b87, sR b109, sR b142, sI 0, sI 1, sI 1, sR b87, sR b87, sI 2, sU] [(.ref b76), (.ref b87)])) X880 hx rfl rfl rfl (pc0 := 412) (pc' := 421) (same := false) rfl (hb hby at_412) rfl (decide_eq_false fun q => (Ne.symm ne88) (Value.ref.inj q)) (by decide) (by decide) ?_
              refine XS.aload X880.here hx rfl (hb hby at_421) rfl rfl ?_
              refine XS.aload X880.here hx rfl (hb hby at_423) rfl rfl ?_
              refine Jvm.RoadKit.acmp (g := (mkF m 425 #[sI p1, sJ q2, sW, sI 3, sI c0, sI c1, sI c2, sI e0_, sI e1_, sI e2_, sI again, sJ v11, sW, sR b76, sR b87, sR b109, sR b142, sI 0, sI 1, sI 1, sR b87, sR b87, sI 2, sU] [(.ref b87), (.ref b87)])) X880 hx rfl rfl rfl (pc0 := 425) (pc' := 428) (same := true) rfl (hb hby at_425) rfl (decide_eq_true rfl) (by decide) (by decide) ?_
              refine XS.iconst X880.here hx rfl (hb hby at_428) ?_
              refine XS.istore X880.here hx rfl (hb hby at_429) rfl (l' := #[sI p1, sJ q2, sW, sI 3, sI c0, sI c1, sI c2, sI e0_, sI e1_, sI e2_, sI again, sJ v11, sW, sR b76, sR b87, sR b109, sR b142, sI 0, sI 0, sI 1, sR b87, sR b87, sI 2, sU]) rfl ?_
              refine XS.goto X880.here hx rfl (pc0 := 431) (pc' := 437) rfl (hb hby at_431) (by decide) (by decide) ?_
              refine XS.iload X880.here hx rfl (hb hby at_437) rfl ?_
              refine XS.iload X880.here hx rfl (hb hby at_439) rfl ?_
              refine XS.iload X880.here hx rfl (hb hby at_441) rfl ?_
              refine XS.aload X880.here hx rfl (hb hby at_443) rfl rfl ?_
              refine XS.aload X880.here hx rfl (hb hby at_445) rfl rfl ?_
              refine XS.aload X880.here hx rfl (hb hby at_447) rfl rfl ?_
              exact k)
            obtain ⟨_, _, ⟨T892, L892, k892, n892⟩, -, X892, ⟨Lc892, hQ892, l892, y892, z892⟩, st892⟩ := Jvm.LawKit.callS X880 hx (y := own_y12) hown (mvT hZ hw45) (mvT hZ hw46) (mvT hZ hw47) (mvT hZ hw48) (by decide) (backOf (W := 0) (own_rm5c l Z a0 hw [] b76 b87 b109 T880.heap n0 f883 ) hZ hw48 hw47 (by decide) (by decide)) (g := (mkF m 449 #[sI p1, sJ q2, sW, sI 3, sI c0, sI c1, sI c2, sI e0_, sI e1_, sI e2_, sI again, sJ v11, sW, sR b76, sR b87, sR b109, sR b142, sI 0, sI 0, sI 1, sR b87, sR b87, sI 2, sU] [(.ref b109), (.ref b87), (.ref b76), (.int 1), (.int 0), (.int 0)])) rfl (by rw [hml]; rfl) (argsL := [(.int 0), (.int 0), (.int 1), (.ref b76), (.ref b87), (.ref b109)]) (rest := []) (lenOf own_pd_8 rfl) rfl (by show 2 * 0 + _ ≤ _; exact Nat.le_of_eq rfl) (hb hby at_449) (fun _ _ => ⟨rfl, rfl, (by decide : 8 + 0 ≤ _), (by decide : 53 + 0 ≤ _)⟩)
            dsimp only [Pt.U, Pt.locs, Pt.cells, Pt.slots] at X892 l892 y892 z892 st892 hQ892
            subst l892 y892 z892
            obtain ⟨rfl, N892q, eh892⟩ := hQ892
            have N892 := Fr.app N880 N892q
            have pre893 : ∀ t, own_S p e below T892 m 456 #[sI p1, sJ q2, sW, sI 3, sI c0, sI c1, sI c2, sI e0_, sI e1_, sI e2_, sI again, sJ v11, sW, sR b76, sR b87, sR b109, sR b142, sI 0, sI 0, sI 1, sR b87, sR b87, sI 2, sR b109] [(.ref b142)] t → R0 t := fun t k => pre891 t (by
              refine st892 _ ?_
              refine XS.astore X892.here hx rfl (hb hby at_452) rfl rfl (l' := #[sI p1, sJ q2, sW, sI 3, sI c0, sI c1, sI c2, sI e0_, sI e1_, sI e2_, sI again, sJ v11, sW, sR b76, sR b87, sR b109, sR b142, sI 0, sI 0, sI 1, sR b87, sR b87, sI 2, sR b109]) rfl ?_
              refine XS.aload X892.here hx rfl (hb hby at_454) rfl rfl ?_
              exact k)
            have hp894 : ¬ ((1 : Int32) = (0 : Int32)) := by decide
            have ex896 := own_QI_exa Q890
            have ex897 := own_QI_exa Q890
            obtain ⟨cq895, kq895, q895a, q895b, q895c⟩ := isOf hZ eh892 ex897
            obtain ⟨_, _, ⟨T895, L895, k895, n895⟩, -, X895, ⟨Lc895, hQ895, l895, y895, z895⟩, st895⟩ := X892.virtualBack hx (y := own_y11) (z := own_y11) hown (mvT hZ hw49) (mvT hZ hw50) (notFace_of_selects (args := #[]) (mvT hZ hw52)) (mvT hZ hw52) (mvT hZ hw51) (by decide) (backOf (W := 0) (own_rm6h1f2 l Z a0 hw [] b142 .null b109 v11 (v11 + (1 : Int64)) (v11 + (2 : Int64)) (3 : Int32) (1 : Int32) T880.heap n0 f883 Q890 hp894) hZ hw53 hw25 (by decide) (by decide)) q895a q895c (g := (mkF m 456 #[sI p1, sJ q2, sW, sI 3, sI c0, sI c1, sI c2, sI e0_, sI e1_, sI e2_, sI again, sJ v11, sW, sR b76, sR b87, sR b109, sR b142, sI 0, sI 0, sI 1, sR b87, sR b87, sI 2, sR b109] [(.ref b142)])) rfl (by rw [hml]; rfl) (Steps.refl _) (argsL := []) (rest := []) (lenOf own_pd_9 rfl) rfl (by show 2 * 0 + _ ≤ _; exact Nat.le_of_eq rfl) (hb hby at_456) (fun _ _ => ⟨rfl, eh892, (by decide : 8 + 0 ≤ _), (by decide : 53 + 0 ≤ _)⟩)
            dsimp only [Pt.U, Pt.locs, Pt.cells, Pt.slots] at X895 l895 y895 z895 st895 hQ895
            subst l895 y895 z895
            obtain ⟨rfl, N895q, Lw895, Qw895⟩ := hQ895
            have f898 := Nat.le_trans f883 Lw895.1
            have f899 := Lw895.exa f884 lne143
            have f900 := Lw895.fld f885 lne143
            have f901 := Lw895.exa f886 lne144
            have f902 := Lw895.fld f887 lne144
            have f903 := Lw895.exa f888 lne145
            have f904 := Lw895.fld f889 lne145
            have Q905 : own_QI Z T895.heap n0 b142 .null .null (.ref b109) v11 (v11 + (1 : Int64)) (v11 + (2 : Int64)) (2 : Int32) (3 : Int32) (1 : Int32) := Qw895
            have N895 := Fr.app N892 N895q
            have pre906 : ∀ t, own_S p e below T895 m 469 #[sI p1, sJ q2, sW, sI 3, sI c0, sI c1, sI c2, sI e0_, sI e1_, sI e2_, sI again, sJ v11, sW, sR b76, sR b87, sR b109, sR b142, sI 0, sI 0, sI 1, sR b87, sR b87, sI 2, sR b109] [(.int 1)] t → R0 t := fun t k => pre893 t (by
              refine st895.trans ?_
              refine XS.aload X895.here hx rfl (hb hby at_459) rfl rfl ?_
              refine Jvm.RoadKit.acmp (g := (mkF m 461 #[sI p1, sJ q2, sW, sI 3, sI c0, sI c1, sI c2, sI e0_, sI e1_, sI e2_, sI again, sJ v11, sW, sR b76, sR b87, sR b109, sR b142, sI 0, sI 0, sI 1, sR b87, sR b87, sI 2, sR b109] [(.ref b109), (.ref b109)])) X895 hx rfl rfl rfl (pc0 := 461) (pc' := 464) (same := true) rfl (hb hby at_461) rfl (decide_eq_true rfl) (by decide) (by decide) ?_
              refine XS.iconst X895.here hx rfl (hb hby at_464) ?_
              refine XS.goto X895.here hx rfl (pc0 := 465) (pc' := 469) rfl (hb hby at_465) (by decide) (by decide) ?_
              exact k)
            obtain ⟨fs, hr, hrun, hended, hW, hsame⟩ := X895.leave (v := some (.int 1)) (fun h => by rw [Bd.returns] at h; cases h)
            refine ⟨_, _, cast (congrFun hR0 _) (pre906 _ (retN X895 hx (t := .boolean) Bd.returns (by simp) (hb hby at_469) hr)), hrun, hended, _, _, rfl, ?_, ⟨_, rfl⟩, hW, hsame.mono (by decide) (by decide)⟩
            show own_Q0 Z _ _ h0 n0 _ T895.heap _
            exact ⟨rfl, N895⟩
        · have pre907 : ∀ t, own_S p e below T563 m 273 #[sI p1, sJ q2, sW, sI 3, sI c0, sI c1, sI c2, sI e0_, sI e1_, sI e2_, sI again, sJ v11, sW, sR b76, sR b87, sR b109, sR b142, sI 0, sI 1, sI 0, sU, sU, sU, sU] [(.ref b76), (.ref b142)] t → R0 t := fun t k => pre839 t (by
            refine XS.ifYes X563.here hx rfl (pc0 := 250) (pc' := 257) rfl (hb hby at_250) rfl ((if0 _ _).trans (feq hc250).2) (by decide) (by decide) ?_
            refine XS.iconst X563.here hx rfl (hb hby at_257) ?_
            refine XS.istore X563.here hx rfl (hb hby at_258) rfl (l' := #[sI p1, sJ q2, sW, sI 3, sI c0, sI c1, sI c2, sI e0_, sI e1_, sI e2_, sI again, sJ v11, sW, sR b76, sR b87, sR b109, sR b142, sI 0, sI 1, sI 0, sU, sU, sU, sU]) rfl ?_
            refine XS.iloadN X563.here hx rfl (hb hby at_260) rfl ?_
            refine XS.ifNo X563.here hx rfl (hb hby at_261) rfl ((if0 _ _).trans (tlt (by decide : (0 : Int32) < (3 : Int32))).2.2.2) ?_
            refine XS.iload X563.here hx rfl (hb hby at_264) rfl ?_
            refine XS.ifNo X563.here hx rfl (hb hby at_266) rfl ((if0 _ _).trans (feq hc216).1) ?_
            refine XS.aload X563.here hx rfl (hb hby at_269) rfl rfl ?_
            refine XS.aload X563.here hx rfl (hb hby at_271) rfl rfl ?_
            exact k)
          have hp908 : ((0 : Int32) = (0 : Int32) ∧ (3 : Int32) = (1 : Int32)) ∨ ((0 : Int32) = (0 : Int32) ∧ (3 : Int32) = (2 : Int32)) ∨ ((0 : Int32) = (0 : Int32) ∧ (3 : Int32) = (3 : Int32)) := by decide
          have hp909 : ((1 : Int32) < (3 : Int32) → v11 < (v11 + (1 : Int64))) ∧ ((2 : Int32) < (3 : Int32) → (v11 + (1 : Int64)) < (v11 + (2 : Int64))) := ⟨fun _ => hq01, fun _ => hq12⟩
          have hp910 : b76 < b142 := lne143
          have ex912 := own_QI_exa Q573
          have ex913 := own_QI_exa Q573
          obtain ⟨cq911, kq911, q911a, q911b, q911c⟩ := isOf hZ rfl ex913
          obtain ⟨_, _, ⟨T911, L911, k911, n911⟩, -, X911, ⟨Lc911, hQ911, l911, y911, z911⟩, st911⟩ := X563.virtualBack hx (y := own_y10) (z := own_y10) hown (mvT hZ hw82) (mvT hZ hw83) (notFace_of_selects (args := #[]) (mvT hZ hw85)) (mvT hZ hw85) (mvT hZ hw84) (by decide) (backOf (W := 0) (own_rm11j0 l Z a0 hw [] b142 b76 (.ref b87) (.ref b109) v11 (v11 + (1 : Int64)) (v11 + (2 : Int64)) (0 : Int32) (3 : Int32) (3 : Int32) T563.heap n0 f566 Q573 f567 f568 hp908 hp909 hp910) hZ hw86 hw25 (by decide) (by decide)) q911a q911c (g := (mkF m 273 #[sI p1, sJ q2, sW, sI 3, sI c0, sI c1, sI c2, sI e0_, sI e1_, sI e2_, sI again, sJ v11, sW, sR b76, sR b87, sR b109, sR b142, sI 0, sI 1, sI 0, sU, sU, sU, sU] [(.ref b76), (.ref b142)])) rfl (by rw [hml]; rfl) (Steps.refl _) (argsL := [(.ref b76)]) (rest := []) (lenOf own_pd_12 rfl) rfl (by show 2 * 0 + _ ≤ _; exact Nat.le_of_eq rfl) (hb hby at_273) (fun _ _ => ⟨rfl, rfl, (by decide : 8 + 0 ≤ _), (by decide : 53 + 0 ≤ _)⟩)
          dsimp only [Pt.U, Pt.locs, Pt.cells, Pt.slots] at X911 l911 y911 z911 st911 hQ911
          subst l911 y911 z911
          obtain ⟨rfl, N911q, Lw911, Qw911⟩ := hQ911
          have f914 := Nat.le_trans f566 Lw911.1
          have f915 := Lw911.exa f567 lne143
          have f916 := Lw911.fld f568 lne143
          have f917 := Lw911.exa f569 lne144
          have f918 := Lw911.fld f570 lne144
          have f919 := Lw911.exa f571 lne145
          have f920 := Lw911.fld f572 lne145
          have Q921 : own_QI Z T911.heap n0 b142 .null (.ref b87) (.ref b109) v11 (v11 + (1 : Int64)) (v11 + (2 : Int64)) (0 : Int32) (3 : Int32) (2 : Int32) := Qw911
          have N911 := Fr.app N563 N911q
          have pre922 : ∀ t, own_S p e below T911 m 307 #[sI p1, sJ q2, sW, sI 3, sI c0, sI c1, sI c2, sI e0_, sI e1_, sI e2_, sI again, sJ v11, sW, sR b76, sR b87, sR b109, sR b142, sI 0, sI 1, sI 0, sU, sU, sU, sU] [(.ref b109), (.ref b142)] t → R0 t := fun t k => pre907 t (by
            refine st911.trans ?_
            refine XS.iloadN X911.here hx rfl (hb hby at_276) rfl ?_
            refine XS.iconst X911.here hx rfl (hb hby at_277) ?_
            refine XS.icmpNo X911.here hx rfl (hb hby at_278) rfl (tlt (by decide : (1 : Int32) < (3 : Int32))).2.2.2 ?_
            refine XS.iload X911.here hx rfl (hb hby at_281) rfl ?_
            refine XS.ifYes X911.here hx rfl (pc0 := 283) (pc' := 293) rfl (hb hby at_283) rfl ((if0 _ _).trans (teq hc233).1) (by decide) (by decide) ?_
            refine XS.iloadN X911.here hx rfl (hb hby at_293) rfl ?_
            refine XS.iconst X911.here hx rfl (hb hby at_294) ?_
            refine XS.icmpNo X911.here hx rfl (hb hby at_295) rfl (tlt (by decide : (2 : Int32) < (3 : Int32))).2.2.2 ?_
            refine XS.iload X911.here hx rfl (hb hby at_298) rfl ?_
            refine XS.ifNo X911.here hx rfl (hb hby at_300) rfl ((if0 _ _).trans (feq hc250).1) ?_
            refine XS.aload X911.here hx rfl (hb hby at_303) rfl rfl ?_
            refine XS.aload X911.here hx rfl (hb hby at_305) rfl rfl ?_
            exact k)
          have hp923 : ((0 : Int32) = (0 : Int32) ∧ (3 : Int32) = (3 : Int32)) ∨ ((0 : Int32) = (2 : Int32) ∧ (3 : Int32) = (3 : Int32)) := by decide
          have hp924 : ((1 : Int32) < (3 : Int32) → v11 < (v11 + (1 : Int64))) ∧ ((2 : Int32) < (3 : Int32) → (v11 + (1 : Int64)) < (v11 + (2 : Int64))) := ⟨fun _ => hq01, fun _ => hq12⟩
          have hp925 : b109 < b142 := lne145
          have ex927 := own_QI_exa Q921
          have ex928 := own_QI_exa Q921
          obtain ⟨cq926, kq926, q926a, q926b, q926c⟩ := isOf hZ rfl ex928
          obtain ⟨_, _, ⟨T926, L926, k926, n926⟩, -, X926, ⟨Lc926, hQ926, l926, y926, z926⟩, st926⟩ := X911.virtualBack hx (y := own_y10) (z := own_y10) hown (mvT hZ hw82) (mvT hZ hw83) (notFace_of_selects (args := #[]) (mvT hZ hw85)) (mvT hZ hw85) (mvT hZ hw84) (by decide) (backOf (W := 0) (own_rm11j2 l Z a0 hw [] b142 b109 .null (.ref b87) v11 (v11 + (1 : Int64)) (v11 + (2 : Int64)) (0 : Int32) (3 : Int32) (2 : Int32) T911.heap n0 f914 Q921 f919 f920 hp923 hp924 hp925) hZ hw86 hw25 (by decide) (by decide)) q926a q926c (g := (mkF m 307 #[sI p1, sJ q2, sW, sI 3, sI c0, sI c1, sI c2, sI e0_, sI e1_, sI e2_, sI again, sJ v11, sW, sR b76, sR b87, sR b109, sR b142, sI 0, sI 1, sI 0, sU, sU, sU, sU] [(.ref b109), (.ref b142)])) rfl (by rw [hml]; rfl) (Steps.refl _) (argsL := [(.ref b109)]) (rest := []) (lenOf own_pd_12 rfl) rfl (by show 2 * 0 + _ ≤ _; exact Nat.le_of_eq rfl) (hb hby at_307) (fun _ _ => ⟨rfl, rfl, (by decide : 8 + 0 ≤ _), (by decide : 53 + 0 ≤ _)⟩)
          dsimp only [Pt.U, Pt.locs, Pt.cells, Pt.slots] at X926 l926 y926 z926 st926 hQ926
          subst l926 y926 z926
          obtain ⟨rfl, N926q, Lw926, Qw926⟩ := hQ926
          have f929 := Nat.le_trans f914 Lw926.1
          have f930 := Lw926.exa f915 lne143
          have f931 := Lw926.fld f916 lne143
          have f932 := Lw926.exa f917 lne144
          have f933 := Lw926.fld f918 lne144
          have f934 := Lw926.exa f919 lne145
          have f935 := Lw926.fld f920 lne145
          have Q936 : own_QI Z T926.heap n0 b142 .null (.ref b87) .null v11 (v11 + (1 : Int64)) (v11 + (2 : Int64)) (0 : Int32) (3 : Int32) (1 : Int32) := Qw926
          have N926 := Fr.app N911 N926q
          have pre937 : ∀ t, own_S p e below T926 m 322 #[sI p1, sJ q2, sW, sI 3, sI c0, sI c1, sI c2, sI e0_, sI e1_, sI e2_, sI again, sJ v11, sW, sR b76, sR b87, sR b109, sR b142, sI 0, sI 1, sI 0, sU, sU, sU, sU] [(.ref b109), (.ref b87), (.ref b76), (.int 0), (.int 1), (.int 0)] t → R0 t := fun t k => pre922 t (by
            refine st926.trans ?_
            refine XS.iload X926.here hx rfl (hb hby at_310) rfl ?_
            refine XS.iload X926.here hx rfl (hb hby at_312) rfl ?_
            refine XS.iload X926.here hx rfl (hb hby at_314) rfl ?_
            refine XS.aload X926.here hx rfl (hb hby at_316) rfl rfl ?_
            refine XS.aload X926.here hx rfl (hb hby at_318) rfl rfl ?_
            refine XS.aload X926.here hx rfl (hb hby at_320) rfl rfl ?_
            exact k)
          obtain ⟨_, _, ⟨T938, L938, k938, n938⟩, -, X938, ⟨Lc938, hQ938, l938, y938, z938⟩, st938⟩ := Jvm.LawKit.callS X926 hx (y := own_y12) hown (mvT hZ hw45) (mvT hZ hw46) (mvT hZ hw47) (mvT hZ hw48) (by decide) (backOf (W := 0) (own_rm5b l Z a0 hw [] (0 : Int32) b76 b87 b109 T926.heap n0 f929 ) hZ hw48 hw47 (by decide) (by decide)) (g := (mkF m 322 #[sI p1, sJ q2, sW, sI 3, sI c0, sI c1, sI c2, sI e0_, sI e1_, sI e2_, sI again, sJ v11, sW, sR b76, sR b87, sR b109, sR b142, sI 0, sI 1, sI 0, sU, sU, sU, sU] [(.ref b109), (.ref b87), (.ref b76), (.int 0), (.int 1), (.int 0)])) rfl (by rw [hml]; rfl) (argsL := [(.int 0), (.int 1), (.int 0), (.ref b76), (.ref b87), (.ref b109)]) (rest := []) (lenOf own_pd_8 rfl) rfl (by show 2 * 0 + _ ≤ _; exact Nat.le_of_eq rfl) (hb hby at_322) (fun _ _ => ⟨rfl, rfl, (by decide : 8 + 0 ≤ _), (by decide : 53 + 0 ≤ _)⟩)
          dsimp only [Pt.U, Pt.locs, Pt.cells, Pt.slots] at X938 l938 y938 z938 st938 hQ938
          subst l938 y938 z938
          obtain ⟨rfl, N938q, eh938⟩ := hQ938
          have N938 := Fr.app N926 N938q
          have pre939 : ∀ t, own_S p e below T938 m 329 #[sI p1, sJ q2, sW, sI 3, sI c0, sI c1, sI c2, sI e0_, sI e1_, sI e2_, sI again, sJ v11, sW, sR b76, sR b87, sR b109, sR b142, sI 0, sI 1, sI 0, sR b87, sU, sU, sU] [(.ref b142)] t → R0 t := fun t k => pre937 t (by
            refine st938 _ ?_
            refine XS.astore X938.here hx rfl (hb hby at_325) rfl rfl (l' := #[sI p1, sJ q2, sW, sI 3, sI c0, sI c1, sI c2, sI e0_, sI e1_, sI e2_, sI again, sJ v11, sW, sR b76, sR b87, sR b109, sR b142, sI 0, sI 1, sI 0, sR b87, sU, sU, sU]) rfl ?_
            refine XS.aload X938.here hx rfl (hb hby at_327) rfl rfl ?_
            exact k)
          have hp940 : ¬ ((1 : Int32) = (0 : Int32)) := by decide
          have ex942 := own_QI_exa Q936
          have ex943 := own_QI_exa Q936
          obtain ⟨cq941, kq941, q941a, q941b, q941c⟩ := isOf hZ eh938 ex943
          obtain ⟨_, _, ⟨T941, L941, k941, n941⟩, -, X941, ⟨Lc941, hQ941, l941, y941, z941⟩, st941⟩ := X938.virtualBack hx (y := own_y11) (z := own_y11) hown (mvT hZ hw49) (mvT hZ hw50) (notFace_of_selects (args := #[]) (mvT hZ hw52)) (mvT hZ hw52) (mvT hZ hw51) (by decide) (backOf (W := 0) (own_rm6h0f1 l Z a0 hw [] b142 b87 .null v11 (v11 + (1 : Int64)) (v11 + (2 : Int64)) (3 : Int32) (1 : Int32) T926.heap n0 f929 Q936 hp940) hZ hw53 hw25 (by decide) (by decide)) q941a q941c (g := (mkF m 329 #[sI p1, sJ q2, sW, sI 3, sI c0, sI c1, sI c2, sI e0_, sI e1_, sI e2_, sI again, sJ v11, sW, sR b76, sR b87, sR b109, sR b142, sI 0, sI 1, sI 0, sR b87, sU, sU, sU] [(.ref b142)])) rfl (by rw [hml]; rfl) (Steps.refl _) (argsL := []) (rest := []) (lenOf own_pd_9 rfl) rfl (by show 2 * 0 + _ ≤ _; exact Nat.le_of_eq rfl) (hb hby at_329) (fun _ _ => ⟨rfl, eh938, (by decide : 8 + 0 ≤ _), (by decide : 53 + 0 ≤ _)⟩)
          dsimp only [Pt.U, Pt.locs, Pt.cells, Pt.slots] at X941 l941 y941 z941 st941 hQ941
          subst l941 y941 z941
          obtain ⟨rfl, N941q, Lw941, Qw941⟩ := hQ941
          have f944 := Nat.le_trans f929 Lw941.1
          have f945 := Lw941.exa f930 lne143
          have f946 := Lw941.fld f931 lne143
          have f947 := Lw941.exa f932 lne144
          have f948 := Lw941.fld f933 lne144
          have f949 := Lw941.exa f934 lne145
          have f950 := Lw941.fld f935 lne145
          have Q951 : own_QI Z T941.heap n0 b142 .null (.ref b87) .null v11 (v11 + (1 : Int64)) (v11 + (2 : Int64)) (1 : Int32) (3 : Int32) (1 : Int32) := Qw941
          have N941 := Fr.app N938 N941q
          have pre952 : ∀ t, own_S p e below T941 m 379 #[sI p1, sJ q2, sW, sI 3, sI c0, sI c1, sI c2, sI e0_, sI e1_, sI e2_, sI again, sJ v11, sW, sR b76, sR b87, sR b109, sR b142, sI 0, sI 1, sI 0, sR b87, sR b87, sI 1, sU] [(.ref b142)] t → R0 t := fun t k => pre939 t (by
            refine st941.trans ?_
            refine XS.astore X941.here hx rfl (hb hby at_332) rfl rfl (l' := #[sI p1, sJ q2, sW, sI 3, sI c0, sI c1, sI c2, sI e0_, sI e1_, sI e2_, sI again, sJ v11, sW, sR b76, sR b87, sR b109, sR b142, sI 0, sI 1, sI 0, sR b87, sR b87, sU, sU]) rfl ?_
            refine XS.aload X941.here hx rfl (hb hby at_334) rfl rfl ?_
            refine XS.aload X941.here hx rfl (hb hby at_336) rfl rfl ?_
            refine Jvm.RoadKit.acmp (g := (mkF m 338 #[sI p1, sJ q2, sW, sI 3, sI c0, sI c1, sI c2, sI e0_, sI e1_, sI e2_, sI again, sJ v11, sW, sR b76, sR b87, sR b109, sR b142, sI 0, sI 1, sI 0, sR b87, sR b87, sU, sU] [(.ref b87), (.ref b87)])) X941 hx rfl rfl rfl (pc0 := 338) (pc' := 343) (same := true) rfl (hb hby at_338) rfl (decide_eq_true rfl) (by decide) (by decide) ?_
            refine XS.iload X941.here hx rfl (hb hby at_343) rfl ?_
            refine XS.ifYes X941.here hx rfl (pc0 := 345) (pc' := 352) rfl (hb hby at_345) rfl ((if0 _ _).trans (teq (by decide : (0 : Int32) = (0 : Int32))).1) (by decide) (by decide) ?_
            refine XS.iconst X941.here hx rfl (hb hby at_352) ?_
            refine XS.iload X941.here hx rfl (hb hby at_353) rfl ?_
            refine XS.ifNo X941.here hx rfl (hb hby at_355) rfl ((if0 _ _).trans (feq (by decide : ¬ ((1 : Int32) = (0 : Int32)))).1) ?_
            refine XS.iconst X941.here hx rfl (hb hby at_358) ?_
            refine XS.goto X941.here hx rfl (pc0 := 359) (pc' := 363) rfl (hb hby at_359) (by decide) (by decide) ?_
            refine XS.iadd X941.here hx rfl (hb hby at_363) rfl ?_
            refine XS.iload X941.here hx rfl (hb hby at_364) rfl ?_
            refine XS.ifYes X941.here hx rfl (pc0 := 366) (pc' := 373) rfl (hb hby at_366) rfl ((if0 _ _).trans (teq (by decide : (0 : Int32) = (0 : Int32))).1) (by decide) (by decide) ?_
            refine XS.iconst X941.here hx rfl (hb hby at_373) ?_
            refine XS.iadd X941.here hx rfl (hb hby at_374) rfl ?_
            refine XS.istore X941.here hx rfl (hb hby at_375) rfl (l' := #[sI p1, sJ q2, sW, sI 3, sI c0, sI c1, sI c2, sI e0_, sI e1_, sI e2_, sI again, sJ v11, sW, sR b76, sR b87, sR b109, sR b142, sI 0, sI 1, sI 0, sR b87, sR b87, sI 1, sU]) rfl ?_
            refine XS.aload X941.here hx rfl (hb hby at_377) rfl rfl ?_
            exact k)
          have ex954 := own_QI_exa Q951
          have ex955 := own_QI_exa Q951
          obtain ⟨cq953, kq953, q953a, q953b, q953c⟩ := isOf hZ rfl ex955
          obtain ⟨_, _, ⟨T953, L953, k953, n953⟩, -, X953, ⟨Lc953, hQ953, l953, y953, z953⟩, st953⟩ := X941.virtualBack hx (y := own_y4) (z := own_y4) hown (mvT hZ hw56) (mvT hZ hw57) (notFace_of_selects (args := #[]) (mvT hZ hw59)) (mvT hZ hw59) (mvT hZ hw58) (by decide) (backOf (W := 0) (own_rm7 l Z a0 hw [] b142 .null (.ref b87) .null v11 (v11 + (1 : Int64)) (v11 + (2 : Int64)) (1 : Int32) (3 : Int32) (1 : Int32) T941.heap n0 f944 Q951) hZ hw60 hw25 (by decide) (by decide)) q953a q953c (g := (mkF m 379 #[sI p1, sJ q2, sW, sI 3, sI c0, sI c1, sI c2, sI e0_, sI e1_, sI e2_, sI again, sJ v11, sW, sR b76, sR b87, sR b109, sR b142, sI 0, sI 1, sI 0, sR b87, sR b87, sI 1, sU] [(.ref b142)])) rfl (by rw [hml]; rfl) (Steps.refl _) (argsL := []) (rest := []) (lenOf own_pd_10 rfl) rfl (by show 2 * 0 + _ ≤ _; exact Nat.le_of_eq rfl) (hb hby at_379) (fun _ _ => ⟨rfl, rfl, (by decide : 8 + 0 ≤ _), (by decide : 53 + 0 ≤ _)⟩)
          dsimp only [Pt.U, Pt.locs, Pt.cells, Pt.slots] at X953 l953 y953 z953 st953 hQ953
          subst l953 y953 z953
          obtain ⟨rfl, N953q, eh953⟩ := hQ953
          have N953 := Fr.app N941 N953q
          have pre956 : ∀ t, own_S p e below T953 m 391 #[sI p1, sJ q2, sW, sI 3, sI c0, sI c1, sI c2, sI e0_, sI e1_, sI e2_, sI again, sJ v11, sW, sR b76, sR b87, sR b109, sR b142, sI 0, sI 1, sI 0, sR b87, sR b87, sI 1, sU] [(.int again)] t → R0 t := fun t k => pre952 t (by
            refine st953.trans ?_
            refine XS.iload X953.here hx rfl (hb hby at_382) rfl ?_
            refine XS.icmpYes X953.here hx rfl (pc0 := 384) (pc' := 389) rfl (hb hby at_384) rfl (teq (by decide : (1 : Int32) = (1 : Int32))).1 (by decide) (by decide) ?_
            refine XS.iload X953.here hx rfl (hb hby at_389) rfl ?_
            exact k)
          by_cases hc391 : again = (0 : Int32)
          · have pre957 : ∀ t, own_S p e below T953 m 400 #[sI p1, sJ q2, sW, sI 3, sI c0, sI c1, sI c2, sI e0_, sI e1_, sI e2_, sI again, sJ v11, sW, sR b76, sR b87, sR b109, sR b142, sI 0, sI 1, sI 0, sR b87, sR b87, sI 1, sU] [(.int 1)] t → R0 t := fun t k => pre956 t (by
              refine XS.ifYes X953.here hx rfl (pc0 := 391) (pc' := 399) rfl (hb hby at_391) rfl ((if0 _ _).trans (teq hc391).1) (by decide) (by decide) ?_
              refine XS.iconst X953.here hx rfl (hb hby at_399) ?_
              exact k)
            obtain ⟨fs, hr, hrun, hended, hW, hsame⟩ := X953.leave (v := some (.int 1)) (fun h => by rw [Bd.returns] at h; cases h)
            refine ⟨_, _, cast (congrFun hR0 _) (pre957 _ (retN X953 hx (t := .boolean) Bd.returns (by simp) (hb hby at_400) hr)), hrun, hended, _, _, rfl, ?_, ⟨_, rfl⟩, hW, hsame.mono (by decide) (by decide)⟩
            show own_Q0 Z _ _ h0 n0 _ T953.heap _
            rw [eh953]
            exact ⟨rfl, N953⟩
          · have pre958 : ∀ t, own_S p e below T953 m 405 #[sI p1, sJ q2, sW, sI 3, sI c0, sI c1, sI c2, sI e0_, sI e1_, sI e2_, sI again, sJ v11, sW, sR b76, sR b87, sR b109, sR b142, sI 0, sI 1, sI 0, sR b87, sR b87, sI 1, sU] [(.ref b87), (.ref b142)] t → R0 t := fun t k => pre956 t (by
              refine XS.ifNo X953.here hx rfl (hb hby at_391) rfl ((if0 _ _).trans (feq hc391).1) ?_
              refine XS.aload X953.here hx rfl (hb hby at_394) rfl rfl ?_
              refine XS.ifnonnullYes X953.here hx rfl (pc0 := 396) (pc' := 401) rfl (hb hby at_396) rfl (by decide) (by decide) ?_
              refine XS.aload X953.here hx rfl (hb hby at_401) rfl rfl ?_
              refine XS.aload X953.here hx rfl (hb hby at_403) rfl rfl ?_
              exact k)
            have hp959 : ((1 : Int32) = (0 : Int32) ∧ (3 : Int32) = (2 : Int32)) ∨ ((1 : Int32) = (0 : Int32) ∧ (3 : Int32) = (3 : Int32)) ∨ ((1 : Int32) = (1 : Int32) ∧ (3 : Int32) = (2 : Int32)) ∨ ((1 : Int32) = (1 : Int32) ∧ (3 : Int32) = (3 : Int32)) := by decide
            have hp960 : ((1 : Int32) < (3 : Int32) → v11 < (v11 + (1 : Int64))) ∧ ((2 : Int32) < (3 : Int32) → (v11 + (1 : Int64)) < (v11 + (2 : Int64))) := ⟨fun _ => hq01, fun _ => hq12⟩
            have hp961 : b87 < b142 := lne144
            have ex963 := own_QI_exa Q951
            have ex964 := own_QI_exa Q951
            obtain ⟨cq962, kq962, q962a, q962b, q962c⟩ := isOf hZ eh953 ex964
            obtain ⟨_, _, ⟨T962, L962, k962, n962⟩, -, X962, ⟨Lc962, hQ962, l962, y962, z962⟩, st962⟩ := X953.virtualBack hx (y := own_y10) (z := own_y10) hown (mvT hZ hw82) (mvT hZ hw83) (notFace_of_selects (args := #[]) (mvT hZ hw85)) (mvT hZ hw85) (mvT hZ hw84) (by decide) (backOf (W := 0) (own_rm11j1 l Z a0 hw [] b142 b87 .null .null v11 (v11 + (1 : Int64)) (v11 + (2 : Int64)) (1 : Int32) (3 : Int32) (1 : Int32) T941.heap n0 f944 Q951 f947 f948 hp959 hp960 hp961) hZ hw86 hw25 (by decide) (by decide)) q962a q962c (g := (mkF m 405 #[sI p1, sJ q2, sW, sI 3, sI c0, sI c1, sI c2, sI e0_, sI e1_, sI e2_, sI again, sJ v11, sW, sR b76, sR b87, sR b109, sR b142, sI 0, sI 1, sI 0, sR b87, sR b87, sI 1, sU] [(.ref b87), (.ref b142)])) rfl (by rw [hml]; rfl) (Steps.refl _) (argsL := [(.ref b87)]) (rest := []) (lenOf own_pd_12 rfl) rfl (by show 2 * 0 + _ ≤ _; exact Nat.le_of_eq rfl) (hb hby at_405) (fun _ _ => ⟨rfl, eh953, (by decide : 8 + 0 ≤ _), (by decide : 53 + 0 ≤ _)⟩)
            dsimp only [Pt.U, Pt.locs, Pt.cells, Pt.slots] at X962 l962 y962 z962 st962 hQ962
            subst l962 y962 z962
            obtain ⟨rfl, N962q, Lw962, Qw962⟩ := hQ962
            have f965 := Nat.le_trans f944 Lw962.1
            have f966 := Lw962.exa f945 lne143
            have f967 := Lw962.fld f946 lne143
            have f968 := Lw962.exa f947 lne144
            have f969 := Lw962.fld f948 lne144
            have f970 := Lw962.exa f949 lne145
            have f971 := Lw962.fld f950 lne145
            have Q972 : own_QI Z T962.heap n0 b142 .null .null .null v11 (v11 + (1 : Int64)) (v11 + (2 : Int64)) (1 : Int32) (3 : Int32) (0 : Int32) := Qw962
            have N962 := Fr.app N953 N962q
            have pre973 : ∀ t, own_S p e below T962 m 449 #[sI p1, sJ q2, sW, sI 3, sI c0, sI c1, sI c2, sI e0_, sI e1_, sI e2_, sI again, sJ v11, sW, sR b76, sR b87, sR b109, sR b142, sI 0, sI 0, sI 0, sR b87, sR b87, sI 1, sU] [(.ref b109), (.ref b87), (.ref b76), (.int 0), (.int 0), (.int 0)] t → R0 t := fun t k => pre958 t (by
              refine st962.trans ?_
              refine XS.aload X962.here hx rfl (hb hby at_408) rfl rfl ?_
              refine XS.aload X962.here hx rfl (hb hby at_410) rfl rfl ?_
              refine Jvm.RoadKit.acmp (g := (mkF m 412 #[sI p1, sJ q2, sW, sI 3, sI c0, sI c1, sI c2, sI e0_, sI e1_, sI e2_, sI again, sJ v11, sW, sR b76, sR b87, sR b109, sR b142, sI 0, sI 1, sI 0, sR b87, sR b87, sI 1, sU] [(.ref b76), (.ref b87)])) X962 hx rfl rfl rfl (pc0 := 412) (pc' := 421) (same := false) rfl (hb hby at_412) rfl (decide_eq_false fun q => (Ne.symm ne88) (Value.ref.inj q)) (by decide) (by decide) ?_
              refine XS.aload X962.here hx rfl (hb hby at_421) rfl rfl ?_
              refine XS.aload X962.here hx rfl (hb hby at_423) rfl rfl ?_
              refine Jvm.RoadKit.acmp (g := (mkF m 425 #[sI p1, sJ q2, sW, sI 3, sI c0, sI c1, sI c2, sI e0_, sI e1_, sI e2_, sI again, sJ v11, sW, sR b76, sR b87, sR b109, sR b142, sI 0, sI 1, sI 0, sR b87, sR b87, sI 1, sU] [(.ref b87), (.ref b87)])) X962 hx rfl rfl rfl (pc0 := 425) (pc' := 428) (same := true) rfl (hb hby at_425) rfl (decide_eq_true rfl) (by decide) (by decide) ?_
              refine XS.iconst X962.here hx rfl (hb hby at_428) ?_
              refine XS.istore X962.here hx rfl (hb hby at_429) rfl (l' := #[sI p1, sJ q2, sW, sI 3, sI c0, sI c1, sI c2, sI e0_, sI e1_, sI e2_, sI again, sJ v11, sW, sR b76, sR b87, sR b109, sR b142, sI 0, sI 0, sI 0, sR b87, sR b87, sI 1, sU]) rfl ?_
              refine XS.goto X962.here hx rfl (pc0 := 431) (pc' := 437) rfl (hb hby at_431) (by decide) (by decide) ?_
              refine XS.iload X962.here hx rfl (hb hby at_437) rfl ?_
              refine XS.iload X962.here hx rfl (hb hby at_439) rfl ?_
              refine XS.iload X962.here hx rfl (hb hby at_441) rfl ?_
              refine XS.aload X962.here hx rfl (hb hby at_443) rfl rfl ?_
              refine XS.aload X962.here hx rfl (hb hby at_445) rfl rfl ?_
              refine XS.aload X962.here hx rfl (hb hby at_447) rfl rfl ?_
              exact k)
            obtain ⟨_, _, ⟨T974, L974, k974, n974⟩, -, X974, ⟨Lc974, hQ974, l974, y974, z974⟩, st974⟩ := Jvm.LawKit.callS X962 hx (y := own_y12) hown (mvT hZ hw45) (mvT hZ hw46) (mvT hZ hw47) (mvT hZ hw48) (by decide) (backOf (W := 0) (own_rm5d l Z a0 hw [] b76 b87 b109 T962.heap n0 f965 ) hZ hw48 hw47 (by decide) (by decide)) (g := (mkF m 449 #[sI p1, sJ q2, sW, sI 3, sI c0, sI c1, sI c2, sI e0_, sI e1_, sI e2_, sI again, sJ v11, sW, sR b76, sR b87, sR b109, sR b142, sI 0, sI 0, sI 0, sR b87, sR b87, sI 1, sU] [(.ref b109), (.ref b87), (.ref b76), (.int 0), (.int 0), (.int 0)])) rfl (by rw [hml]; rfl) (argsL := [(.int 0), (.int 0), (.int 0), (.ref b76), (.ref b87), (.ref b109)]) (rest := []) (lenOf own_pd_8 rfl) rfl (by show 2 * 0 + _ ≤ _; exact Nat.le_of_eq rfl) (hb hby at_449) (fun _ _ => ⟨rfl, rfl, (by decide : 8 + 0 ≤ _), (by decide : 53 + 0 ≤ _)⟩)
            dsimp only [Pt.U, Pt.locs, Pt.cells, Pt.slots] at X974 l974 y974 z974 st974 hQ974
            subst l974 y974 z974
            obtain ⟨rfl, N974q, eh974⟩ := hQ974
            have N974 := Fr.app N962 N974q
            have pre975 : ∀ t, own_S p e below T974 m 456 #[sI p1, sJ q2, sW, sI 3, sI c0, sI c1, sI c2, sI e0_, sI e1_, sI e2_, sI again, sJ v11, sW, sR b76, sR b87, sR b109, sR b142, sI 0, sI 0, sI 0, sR b87, sR b87, sI 1, sN] [(.ref b142)] t → R0 t := fun t k => pre973 t (by
              refine st974 _ ?_
              refine XS.astore X974.here hx rfl (hb hby at_452) rfl rfl (l' := #[sI p1, sJ q2, sW, sI 3, sI c0, sI c1, sI c2, sI e0_, sI e1_, sI e2_, sI again, sJ v11, sW, sR b76, sR b87, sR b109, sR b142, sI 0, sI 0, sI 0, sR b87, sR b87, sI 1, sN]) rfl ?_
              refine XS.aload X974.here hx rfl (hb hby at_454) rfl rfl ?_
              exact k)
            have hp976 : (0 : Int32) = (0 : Int32) := by decide
            have ex978 := own_QI_exa Q972
            have ex979 := own_QI_exa Q972
            obtain ⟨cq977, kq977, q977a, q977b, q977c⟩ := isOf hZ eh974 ex979
            obtain ⟨_, _, ⟨T977, L977, k977, n977⟩, -, X977, ⟨Lc977, hQ977, l977, y977, z977⟩, st977⟩ := X974.virtualBack hx (y := own_y11) (z := own_y11) hown (mvT hZ hw49) (mvT hZ hw50) (notFace_of_selects (args := #[]) (mvT hZ hw52)) (mvT hZ hw52) (mvT hZ hw51) (by decide) (backOf (W := 0) (own_rm6z l Z a0 hw [] b142 .null .null .null v11 (v11 + (1 : Int64)) (v11 + (2 : Int64)) (1 : Int32) (3 : Int32) (0 : Int32) T962.heap n0 f965 Q972 hp976) hZ hw53 hw25 (by decide) (by decide)) q977a q977c (g := (mkF m 456 #[sI p1, sJ q2, sW, sI 3, sI c0, sI c1, sI c2, sI e0_, sI e1_, sI e2_, sI again, sJ v11, sW, sR b76, sR b87, sR b109, sR b142, sI 0, sI 0, sI 0, sR b87, sR b87, sI 1, sN] [(.ref b142)])) rfl (by rw [hml]; rfl) (Steps.refl _) (argsL := []) (rest := []) (lenOf own_pd_9 rfl) rfl (by show 2 * 0 + _ ≤ _; exact Nat.le_of_eq rfl) (hb hby at_456) (fun _ _ => ⟨rfl, eh974, (by decide : 8 + 0 ≤ _), (by decide : 53 + 0 ≤ _)⟩)
            dsimp only [Pt.U, Pt.locs, Pt.cells, Pt.slots] at X977 l977 y977 z977 st977 hQ977
            subst l977 y977 z977
            obtain ⟨rfl, N977q, eh977⟩ := hQ977
            have N977 := Fr.app N974 N977q
            have pre980 : ∀ t, own_S p e below T977 m 469 #[sI p1, sJ q2, sW, sI 3, sI c0, sI c1, sI c2, sI e0_, sI e1_, sI e2_, sI again, sJ v11, sW, sR b76, sR b87, sR b109, sR b142, sI 0, sI 0, sI 0, sR b87, sR b87, sI 1, sN] [(.int 1)] t → R0 t := fun t k => pre975 t (by
              refine st977.trans ?_
              refine XS.aload X977.here hx rfl (hb hby at_459) rfl rfl ?_
              refine Jvm.RoadKit.acmp (g := (mkF m 461 #[sI p1, sJ q2, sW, sI 3, sI c0, sI c1, sI c2, sI e0_, sI e1_, sI e2_, sI again, sJ v11, sW, sR b76, sR b87, sR b109, sR b142, sI 0, sI 0, sI 0, sR b87, sR b87, sI 1, sN] [.null, .null])) X977 hx rfl rfl rfl (pc0 := 461) (pc' := 464) (same := true) rfl (hb hby at_461) rfl (decide_eq_true rfl) (by decide) (by decide) ?_
              refine XS.iconst X977.here hx rfl (hb hby at_464) ?_
              refine XS.goto X977.here hx rfl (pc0 := 465) (pc' := 469) rfl (hb hby at_465) (by decide) (by decide) ?_
              exact k)
            obtain ⟨fs, hr, hrun, hended, hW, hsame⟩ := X977.leave (v := some (.int 1)) (fun h => by rw [Bd.returns] at h; cases h)
            refine ⟨_, _, cast (congrFun hR0 _) (pre980 _ (retN X977 hx (t := .boolean) Bd.returns (by simp) (hb hby at_469) hr)), hrun, hended, _, _, rfl, ?_, ⟨_, rfl⟩, hW, hsame.mono (by decide) (by decide)⟩
            show own_Q0 Z _ _ h0 n0 _ T977.heap _
            rw [eh977]
            exact ⟨rfl, N977⟩
      · have pre981 : ∀ t, own_S p e below T563 m 250 #[sI p1, sJ q2, sW, sI 3, sI c0, sI c1, sI c2, sI e0_, sI e1_, sI e2_, sI again, sJ v11, sW, sR b76, sR b87, sR b109, sR b142, sI 0, sI 0, sU, sU, sU, sU, sU] [(.int e2_)] t → R0 t := fun t k => pre838 t (by
          refine XS.ifYes X563.here hx rfl (pc0 := 233) (pc' := 240) rfl (hb hby at_233) rfl ((if0 _ _).trans (feq hc233).2) (by decide) (by decide) ?_
          refine XS.iconst X563.here hx rfl (hb hby at_240) ?_
          refine XS.istore X563.here hx rfl (hb hby at_241) rfl (l' := #[sI p1, sJ q2, sW, sI 3, sI c0, sI c1, sI c2, sI e0_, sI e1_, sI e2_, sI again, sJ v11, sW, sR b76, sR b87, sR b109, sR b142, sI 0, sI 0, sU, sU, sU, sU, sU]) rfl ?_
          refine XS.iloadN X563.here hx rfl (hb hby at_243) rfl ?_
          refine XS.iconst X563.here hx rfl (hb hby at_244) ?_
          refine XS.icmpNo X563.here hx rfl (hb hby at_245) rfl (tlt (by decide : (2 : Int32) < (3 : Int32))).2.2.2 ?_
          refine XS.iload X563.here hx rfl (hb hby at_248) rfl ?_
          exact k)
        by_cases hc250 : e2_ = (0 : Int32)
        · have pre982 : ∀ t, own_S p e below T563 m 273 #[sI p1, sJ q2, sW, sI 3, sI c0, sI c1, sI c2, sI e0_, sI e1_, sI e2_, sI again, sJ v11, sW, sR b76, sR b87, sR b109, sR b142, sI 0, sI 0, sI 1, sU, sU, sU, sU] [(.ref b76), (.ref b142)] t → R0 t := fun t k => pre981 t (by
            refine XS.ifNo X563.here hx rfl (hb hby at_250) rfl ((if0 _ _).trans (teq hc250).2) ?_
            refine XS.iconst X563.here hx rfl (hb hby at_253) ?_
            refine XS.goto X563.here hx rfl (pc0 := 254) (pc' := 258) rfl (hb hby at_254) (by decide) (by decide) ?_
            refine XS.istore X563.here hx rfl (hb hby at_258) rfl (l' := #[sI p1, sJ q2, sW, sI 3, sI c0, sI c1, sI c2, sI e0_, sI e1_, sI e2_, sI again, sJ v11, sW, sR b76, sR b87, sR b109, sR b142, sI 0, sI 0, sI 1, sU, sU, sU, sU]) rfl ?_
            refine XS.iloadN X563.here hx rfl (hb hby at_260) rfl ?_
            refine XS.ifNo X563.here hx rfl (hb hby at_261) rfl ((if0 _ _).trans (tlt (by decide : (0 : Int32) < (3 : Int32))).2.2.2) ?_
            refine XS.iload X563.here hx rfl (hb hby at_264) rfl ?_
            refine XS.ifNo X563.here hx rfl (hb hby at_266) rfl ((if0 _ _).trans (feq hc216).1) ?_
            refine XS.aload X563.here hx rfl (hb hby at_269) rfl rfl ?_
            refine XS.aload X563.here hx rfl (hb hby at_271) rfl rfl ?_
            exact k)
          have hp983 : ((0 : Int32) = (0 : Int32) ∧ (3 : Int32) = (1 : Int32)) ∨ ((0 : Int32) = (0 : Int32) ∧ (3 : Int32) = (2 : Int32)) ∨ ((0 : Int32) = (0 : Int32) ∧ (3 : Int32) = (3 : Int32)) := by decide
          have hp984 : ((1 : Int32) < (3 : Int32) → v11 < (v11 + (1 : Int64))) ∧ ((2 : Int32) < (3 : Int32) → (v11 + (1 : Int64)) < (v11 + (2 : Int64))) := ⟨fun _ => hq01, fun _ => hq12⟩
          have hp985 : b76 < b142 := lne143
          have ex987 := own_QI_exa Q573
          have ex988 := own_QI_exa Q573
          obtain ⟨cq986, kq986, q986a, q986b, q986c⟩ := isOf hZ rfl ex988
          obtain ⟨_, _, ⟨T986, L986, k986, n986⟩, -, X986, ⟨Lc986, hQ986, l986, y986, z986⟩, st986⟩ := X563.virtualBack hx (y := own_y10) (z := own_y10) hown (mvT hZ hw82) (mvT hZ hw83) (notFace_of_selects (args := #[]) (mvT hZ hw85)) (mvT hZ hw85) (mvT hZ hw84) (by decide) (backOf (W := 0) (own_rm11j0 l Z a0 hw [] b142 b76 (.ref b87) (.ref b109) v11 (v11 + (1 : Int64)) (v11 + (2 : Int64)) (0 : Int32) (3 : Int32) (3 : Int32) T563.heap n0 f566 Q573 f567 f568 hp983 hp984 hp985) hZ hw86 hw25 (by decide) (by decide)) q986a q986c (g := (mkF m 273 #[sI p1, sJ q2, sW, sI 3, sI c0, sI c1, sI c2, sI e0_, sI e1_, sI e2_, sI again, sJ v11, sW, sR b76, sR b87, sR b109, sR b142, sI 0, sI 0, sI 1, sU, sU, sU, sU] [(.ref b76), (.ref b142)])) rfl (by rw [hml]; rfl) (Steps.refl _) (argsL := [(.ref b76)]) (rest := []) (lenOf own_pd_12 rfl) rfl (by show 2 * 0 + _ ≤ _; exact Nat.le_of_eq rfl) (hb hby at_273) (fun _ _ => ⟨rfl, rfl, (by decide : 8 + 0 ≤ _), (by decide : 53 + 0 ≤ _)⟩)
          dsimp only [Pt.U, Pt.locs, Pt.cells, Pt.slots] at X986 l986 y986 z986 st986 hQ986
          subst l986 y986 z986
          obtain ⟨rfl, N986q, Lw986, Qw986⟩ := hQ986
          have f989 := Nat.le_trans f566 Lw986.1
          have f990 := Lw986.exa f567 lne143
          have f991 := Lw986.fld f568 lne143
          have f992 := Lw986.exa f569 lne144
          have f993 := Lw986.fld f570 lne144
          have f994 := Lw986.exa f571 lne145
          have f995 := Lw986.fld f572 lne145
          have Q996 : own_QI Z T986.heap n0 b142 .null (.ref b87) (.ref b109) v11 (v11 + (1 : Int64)) (v11 + (2 : Int64)) (0 : Int32) (3 : Int32) (2 : Int32) := Qw986
          have N986 := Fr.app N563 N986q
          have pre997 : ∀ t, own_S p e below T986 m 290 #[sI p1, sJ q2, sW, sI 3, sI c0, sI c1, sI c2, sI e0_, sI e1_, sI e2_, sI again, sJ v11, sW, sR b76, sR b87, sR b109, sR b142, sI 0, sI 0, sI 1, sU, sU, sU, sU] [(.ref b87), (.ref b142)] t → R0 t := fun t k => pre982 t (by
            refine st986.trans ?_
            refine XS.iloadN X986.here hx rfl (hb hby at_276) rfl ?_
            refine XS.iconst X986.here hx rfl (hb hby at_277) ?_
            refine XS.icmpNo X986.here hx rfl (hb hby at_278) rfl (tlt (by decide : (1 : Int32) < (3 : Int32))).2.2.2 ?_
            refine XS.iload X986.here hx rfl (hb hby at_281) rfl ?_
            refine XS.ifNo X986.here hx rfl (hb hby at_283) rfl ((if0 _ _).trans (feq hc233).1) ?_
            refine XS.aload X986.here hx rfl (hb hby at_286) rfl rfl ?_
            refine XS.aload X986.here hx rfl (hb hby at_288) rfl rfl ?_
            exact k)
          have hp998 : ((0 : Int32) = (0 : Int32) ∧ (3 : Int32) = (2 : Int32)) ∨ ((0 : Int32) = (0 : Int32) ∧ (3 : Int32) = (3 : Int32)) ∨ ((0 : Int32) = (1 : Int32) ∧ (3 : Int32) = (2 : Int32)) ∨ ((0 : Int32) = (1 : Int32) ∧ (3 : Int32) = (3 : Int32)) := by decide
          have hp999 : ((1 : Int32) < (3 : Int32) → v11 < (v11 + (1 : Int64))) ∧ ((2 : Int32) < (3 : Int32) → (v11 + (1 : Int64)) < (v11 + (2 : Int64))) := ⟨fun _ => hq01, fun _ => hq12⟩
          have hp1000 : b87 < b142 := lne144
          have ex1002 := own_QI_exa Q996
          have ex1003 := own_QI_exa Q996
          obtain ⟨cq1001, kq1001, q1001a, q1001b, q1001c⟩ := isOf hZ rfl ex1003
          obtain ⟨_, _, ⟨T1001, L1001, k1001, n1001⟩, -, X1001, ⟨Lc1001, hQ1001, l1001, y1001, z1001⟩, st1001⟩ := X986.virtualBack hx (y := own_y10) (z := own_y10) hown (mvT hZ hw82) (mvT hZ hw83) (notFace_of_selects (args := #[]) (mvT hZ hw85)) (mvT hZ hw85) (mvT hZ hw84) (by decide) (backOf (W := 0) (own_rm11j1 l Z a0 hw [] b142 b87 .null (.ref b109) v11 (v11 + (1 : Int64)) (v11 + (2 : Int64)) (0 : Int32) (3 : Int32) (2 : Int32) T986.heap n0 f989 Q996 f992 f993 hp998 hp999 hp1000) hZ hw86 hw25 (by decide) (by decide)) q1001a q1001c (g := (mkF m 290 #[sI p1, sJ q2, sW, sI 3, sI c0, sI c1, sI c2, sI e0_, sI e1_, sI e2_, sI again, sJ v11, sW, sR b76, sR b87, sR b109, sR b142, sI 0, sI 0, sI 1, sU, sU, sU, sU] [(.ref b87), (.ref b142)])) rfl (by rw [hml]; rfl) (Steps.refl _) (argsL := [(.ref b87)]) (rest := []) (lenOf own_pd_12 rfl) rfl (by show 2 * 0 + _ ≤ _; exact Nat.le_of_eq rfl) (hb hby at_290) (fun _ _ => ⟨rfl, rfl, (by decide : 8 + 0 ≤ _), (by decide : 53 + 0 ≤ _)⟩)
          dsimp only [Pt.U, Pt.locs, Pt.cells, Pt.slots] at X1001 l1001 y1001 z1001 st1001 hQ1001
          subst l1001 y1001 z1001
          obtain ⟨rfl, N1001q, Lw1001, Qw1001⟩ := hQ1001
          have f1004 := Nat.le_trans f989 Lw1001.1
          have f1005 := Lw1001.exa f990 lne143
          have f1006 := Lw1001.fld f991 lne143
          have f1007 := Lw1001.exa f992 lne144
          have f1008 := Lw1001.fld f993 lne144
          have f1009 := Lw1001.exa f994 lne145
          have f1010 := Lw1001.fld f995 lne145
          have Q1011 : own_QI Z T1001.heap n0 b142 .null .null (.ref b109) v11 (v11 + (1 : Int64)) (v11 + (2 : Int64)) (0 : Int32) (3 : Int32) (1 : Int32) := Qw1001
          have N1001 := Fr.app N986 N1001q
          have pre1012 : ∀ t, own_S p e below T1001 m 322 #[sI p1, sJ q2, sW, sI 3, sI c0, sI c1, sI c2, sI e0_, sI e1_, sI e2_, sI again, sJ v11, sW, sR b76, sR b87, sR b109, sR b142, sI 0, sI 0, sI 1, sU, sU, sU, sU] [(.ref b109), (.ref b87), (.ref b76), (.int 1), (.int 0), (.int 0)] t → R0 t := fun t k => pre997 t (by
            refine st1001.trans ?_
            refine XS.iloadN X1001.here hx rfl (hb hby at_293) rfl ?_
            refine XS.iconst X1001.here hx rfl (hb hby at_294) ?_
            refine XS.icmpNo X1001.here hx rfl (hb hby at_295) rfl (tlt (by decide : (2 : Int32) < (3 : Int32))).2.2.2 ?_
            refine XS.iload X1001.here hx rfl (hb hby at_298) rfl ?_
            refine XS.ifYes X1001.here hx rfl (pc0 := 300) (pc' := 310) rfl (hb hby at_300) rfl ((if0 _ _).trans (teq hc250).1) (by decide) (by decide) ?_
            refine XS.iload X1001.here hx rfl (hb hby at_310) rfl ?_
            refine XS.iload X1001.here hx rfl (hb hby at_312) rfl ?_
            refine XS.iload X1001.here hx rfl (hb hby at_314) rfl ?_
            refine XS.aload X1001.here hx rfl (hb hby at_316) rfl rfl ?_
            refine XS.aload X1001.here hx rfl (hb hby at_318) rfl rfl ?_
            refine XS.aload X1001.here hx rfl (hb hby at_320) rfl rfl ?_
            exact k)
          obtain ⟨_, _, ⟨T1013, L1013, k1013, n1013⟩, -, X1013, ⟨Lc1013, hQ1013, l1013, y1013, z1013⟩, st1013⟩ := Jvm.LawKit.callS X1001 hx (y := own_y12) hown (mvT hZ hw45) (mvT hZ hw46) (mvT hZ hw47) (mvT hZ hw48) (by decide) (backOf (W := 0) (own_rm5c l Z a0 hw [] b76 b87 b109 T1001.heap n0 f1004 ) hZ hw48 hw47 (by decide) (by decide)) (g := (mkF m 322 #[sI p1, sJ q2, sW, sI 3, sI c0, sI c1, sI c2, sI e0_, sI e1_, sI e2_, sI again, sJ v11, sW, sR b76, sR b87, sR b109, sR b142, sI 0, sI 0, sI 1, sU, sU, sU, sU] [(.ref b109), (.ref b87), (.ref b76), (.int 1), (.int 0), (.int 0)])) rfl (by rw [hml]; rfl) (argsL := [(.int 0), (.int 0), (.int 1), (.ref b76), (.ref b87), (.ref b109)]) (rest := []) (lenOf own_pd_8 rfl) rfl (by show 2 * 0 + _ ≤ _; exact Nat.le_of_eq rfl) (hb hby at_322) (fun _ _ => ⟨rfl, rfl, (by decide : 8 + 0 ≤ _), (by decide : 53 + 0 ≤ _)⟩)
          dsimp only [Pt.U, Pt.locs, Pt.cells, Pt.slots] at X1013 l1013 y1013 z1013 st1013 hQ1013
          subst l1013 y1013 z1013
          obtain ⟨rfl, N1013q, eh1013⟩ := hQ1013
          have N1013 := Fr.app N1001 N1013q
          have pre1014 : ∀ t, own_S p e below T1013 m 329 #[sI p1, sJ q2, sW, sI 3, sI c0, sI c1, sI c2, sI e0_, sI e1_, sI e2_, sI again, sJ v11, sW, sR b76, sR b87, sR b109, sR b142, sI 0, sI 0, sI 1, sR b109, sU, sU, sU] [(.ref b142)] t → R0 t := fun t k => pre1012 t (by
            refine st1013 _ ?_
            refine XS.astore X1013.here hx rfl (hb hby at_325) rfl rfl (l' := #[sI p1, sJ q2, sW, sI 3, sI c0, sI c1, sI c2, sI e0_, sI e1_, sI e2_, sI again, sJ v11, sW, sR b76, sR b87, sR b109, sR b142, sI 0, sI 0, sI 1, sR b109, sU, sU, sU]) rfl ?_
            refine XS.aload X1013.here hx rfl (hb hby at_327) rfl rfl ?_
            exact k)
          have hp1015 : ¬ ((1 : Int32) = (0 : Int32)) := by decide
          have ex1017 := own_QI_exa Q1011
          have ex1018 := own_QI_exa Q1011
          obtain ⟨cq1016, kq1016, q1016a, q1016b, q1016c⟩ := isOf hZ eh1013 ex1018
          obtain ⟨_, _, ⟨T1016, L1016, k1016, n1016⟩, -, X1016, ⟨Lc1016, hQ1016, l1016, y1016, z1016⟩, st1016⟩ := X1013.virtualBack hx (y := own_y11) (z := own_y11) hown (mvT hZ hw49) (mvT hZ hw50) (notFace_of_selects (args := #[]) (mvT hZ hw52)) (mvT hZ hw52) (mvT hZ hw51) (by decide) (backOf (W := 0) (own_rm6h0f2 l Z a0 hw [] b142 b109 v11 (v11 + (1 : Int64)) (v11 + (2 : Int64)) (3 : Int32) (1 : Int32) T1001.heap n0 f1004 Q1011 hp1015) hZ hw53 hw25 (by decide) (by decide)) q1016a q1016c (g := (mkF m 329 #[sI p1, sJ q2, sW, sI 3, sI c0, sI c1, sI c2, sI e0_, sI e1_, sI e2_, sI again, sJ v11, sW, sR b76, sR b87, sR b109, sR b142, sI 0, sI 0, sI 1, sR b109, sU, sU, sU] [(.ref b142)])) rfl (by rw [hml]; rfl) (Steps.refl _) (argsL := []) (rest := []) (lenOf own_pd_9 rfl) rfl (by show 2 * 0 + _ ≤ _; exact Nat.le_of_eq rfl) (hb hby at_329) (fun _ _ => ⟨rfl, eh1013, (by decide : 8 + 0 ≤ _), (by decide : 53 + 0 ≤ _)⟩)
          dsimp only [Pt.U, Pt.locs, Pt.cells, Pt.slots] at X1016 l1016 y1016 z1016 st1016 hQ1016
          subst l1016 y1016 z1016
          obtain ⟨rfl, N1016q, Lw1016, Qw1016⟩ := hQ1016
          have f1019 := Nat.le_trans f1004 Lw1016.1
          have f1020 := Lw1016.exa f1005 lne143
          have f1021 := Lw1016.fld f1006 lne143
          have f1022 := Lw1016.exa f1007 lne144
          have f1023 := Lw1016.fld f1008 lne144
          have f1024 := Lw1016.exa f1009 lne145
          have f1025 := Lw1016.fld f1010 lne145
          have Q1026 : own_QI Z T1016.heap n0 b142 .null .null (.ref b109) v11 (v11 + (1 : Int64)) (v11 + (2 : Int64)) (2 : Int32) (3 : Int32) (1 : Int32) := Qw1016
          have N1016 := Fr.app N1013 N1016q
          have pre1027 : ∀ t, own_S p e below T1016 m 379 #[sI p1, sJ q2, sW, sI 3, sI c0, sI c1, sI c2, sI e0_, sI e1_, sI e2_, sI again, sJ v11, sW, sR b76, sR b87, sR b109, sR b142, sI 0, sI 0, sI 1, sR b109, sR b109, sI 1, sU] [(.ref b142)] t → R0 t := fun t k => pre1014 t (by
            refine st1016.trans ?_
            refine XS.astore X1016.here hx rfl (hb hby at_332) rfl rfl (l' := #[sI p1, sJ q2, sW, sI 3, sI c0, sI c1, sI c2, sI e0_, sI e1_, sI e2_, sI again, sJ v11, sW, sR b76, sR b87, sR b109, sR b142, sI 0, sI 0, sI 1, sR b109, sR b109, sU, sU]) rfl ?_
            refine XS.aload X1016.here hx rfl (hb hby at_334) rfl rfl ?_
            refine XS.aload X1016.here hx rfl (hb hby at_336) rfl rfl ?_
            refine Jvm.RoadKit.acmp (g := (mkF m 338 #[sI p1, sJ q2, sW, sI 3, sI c0, sI c1, sI c2, sI e0_, sI e1_, sI e2_, sI again, sJ v11, sW, sR b76, sR b87, sR b109, sR b142, sI 0, sI 0, sI 1, sR b109, sR b109, sU, sU] [(.ref b109), (.ref b109)])) X1016 hx rfl rfl rfl (pc0 := 338) (pc' := 343) (same := true) rfl (hb hby at_338) rfl (decide_eq_true rfl) (by decide) (by decide) ?_
            refine XS.iload X1016.here hx rfl (hb hby at_343) rfl ?_
            refine XS.ifYes X1016.here hx rfl (pc0 := 345) (pc' := 352) rfl (hb hby at_345) rfl ((if0 _ _).trans (teq (by decide : (0 : Int32) = (0 : Int32))).1) (by decide) (by decide) ?_
            refine XS.iconst X1016.here hx rfl (hb hby at_352) ?_
            refine XS.iload X1016.here hx rfl (hb hby at_353) rfl ?_
            refine XS.ifYes X1016.here hx rfl (pc0 := 355) (pc' := 362) rfl (hb hby at_355) rfl ((if0 _ _).trans (teq (by decide : (0 : Int32) = (0 : Int32))).1) (by decide) (by decide) ?_
            refine XS.iconst X1016.here hx rfl (hb hby at_362) ?_
            refine XS.iadd X1016.here hx rfl (hb hby at_363) rfl ?_
            refine XS.iload X1016.here hx rfl (hb hby at_364) rfl ?_
            refine XS.ifNo X1016.here hx rfl (hb hby at_366) rfl ((if0 _ _).trans (feq (by decide : ¬ ((1 : Int32) = (0 : Int32)))).1) ?_
            refine XS.iconst X1016.here hx rfl (hb hby at_369) ?_
            refine XS.goto X1016.here hx rfl (pc0 := 370) (pc' := 374) rfl (hb hby at_370) (by decide) (by decide) ?_
            refine XS.iadd X1016.here hx rfl (hb hby at_374) rfl ?_
            refine XS.istore X1016.here hx rfl (hb hby at_375) rfl (l' := #[sI p1, sJ q2, sW, sI 3, sI c0, sI c1, sI c2, sI e0_, sI e1_, sI e2_, sI again, sJ v11, sW, sR b76, sR b87, sR b109, sR b142, sI 0, sI 0, sI 1, sR b109, sR b109, sI 1, sU]) rfl ?_
            refine XS.aload X1016.here hx rfl (hb hby at_377) rfl rfl ?_
            exact k)
          have ex1029 := own_QI_exa Q1026
          have ex1030 := own_QI_exa Q1026
          obtain ⟨cq1028, kq1028, q1028a, q1028b, q1028c⟩ := isOf hZ rfl ex1030
          obtain ⟨_, _, ⟨T1028, L1028, k1028, n1028⟩, -, X1028, ⟨Lc1028, hQ1028, l1028, y1028, z1028⟩, st1028⟩ := X1016.virtualBack hx (y := own_y4) (z := own_y4) hown (mvT hZ hw56) (mvT hZ hw57) (notFace_of_selects (args := #[]) (mvT hZ hw59)) (mvT hZ hw59) (mvT hZ hw58) (by decide) (backOf (W := 0) (own_rm7 l Z a0 hw [] b142 .null .null (.ref b109) v11 (v11 + (1 : Int64)) (v11 + (2 : Int64)) (2 : Int32) (3 : Int32) (1 : Int32) T1016.heap n0 f1019 Q1026) hZ hw60 hw25 (by decide) (by decide)) q1028a q1028c (g := (mkF m 379 #[sI p1, sJ q2, sW, sI 3, sI c0, sI c1, sI c2, sI e0_, sI e1_, sI e2_, sI again, sJ v11, sW, sR b76, sR b87, sR b109, sR b142, sI 0, sI 0, sI 1, sR b109, sR b109, sI 1, sU] [(.ref b142)])) rfl (by rw [hml]; rfl) (Steps.refl _) (argsL := []) (rest := []) (lenOf own_pd_10 rfl) rfl (by show 2 * 0 + _ ≤ _; exact Nat.le_of_eq rfl) (hb hby at_379) (fun _ _ => ⟨rfl, rfl, (by decide : 8 + 0 ≤ _), (by decide : 53 + 0 ≤ _)⟩)
          dsimp only [Pt.U, Pt.locs, Pt.cells, Pt.slots] at X1028 l1028 y1028 z1028 st1028 hQ1028
          subst l1028 y1028 z1028
          obtain ⟨rfl, N1028q, eh1028⟩ := hQ1028
          have N1028 := Fr.app N1016 N1028q
          have pre1031 : ∀ t, own_S p e below T1028 m 391 #[sI p1, sJ q2, sW, sI 3, sI c0, sI c1, sI c2, sI e0_, sI e1_, sI e2_, sI again, sJ v11, sW, sR b76, sR b87, sR b109, sR b142, sI 0, sI 0, sI 1, sR b109, sR b109, sI 1, sU] [(.int again)] t → R0 t := fun t k => pre1027 t (by
            refine st1028.trans ?_
            refine XS.iload X1028.here hx rfl (hb hby at_382) rfl ?_
            refine XS.icmpYes X1028.here hx rfl (pc0 := 384) (pc' := 389) rfl (hb hby at_384) rfl (teq (by decide : (1 : Int32) = (1 : Int32))).1 (by decide) (by decide) ?_
            refine XS.iload X1028.here hx rfl (hb hby at_389) rfl ?_
            exact k)
          by_cases hc391 : again = (0 : Int32)
          · have pre1032 : ∀ t, own_S p e below T1028 m 400 #[sI p1, sJ q2, sW, sI 3, sI c0, sI c1, sI c2, sI e0_, sI e1_, sI e2_, sI again, sJ v11, sW, sR b76, sR b87, sR b109, sR b142, sI 0, sI 0, sI 1, sR b109, sR b109, sI 1, sU] [(.int 1)] t → R0 t := fun t k => pre1031 t (by
              refine XS.ifYes X1028.here hx rfl (pc0 := 391) (pc' := 399) rfl (hb hby at_391) rfl ((if0 _ _).trans (teq hc391).1) (by decide) (by decide) ?_
              refine XS.iconst X1028.here hx rfl (hb hby at_399) ?_
              exact k)
            obtain ⟨fs, hr, hrun, hended, hW, hsame⟩ := X1028.leave (v := some (.int 1)) (fun h => by rw [Bd.returns] at h; cases h)
            refine ⟨_, _, cast (congrFun hR0 _) (pre1032 _ (retN X1028 hx (t := .boolean) Bd.returns (by simp) (hb hby at_400) hr)), hrun, hended, _, _, rfl, ?_, ⟨_, rfl⟩, hW, hsame.mono (by decide) (by decide)⟩
            show own_Q0 Z _ _ h0 n0 _ T1028.heap _
            rw [eh1028]
            exact ⟨rfl, N1028⟩
          · have pre1033 : ∀ t, own_S p e below T1028 m 405 #[sI p1, sJ q2, sW, sI 3, sI c0, sI c1, sI c2, sI e0_, sI e1_, sI e2_, sI again, sJ v11, sW, sR b76, sR b87, sR b109, sR b142, sI 0, sI 0, sI 1, sR b109, sR b109, sI 1, sU] [(.ref b109), (.ref b142)] t → R0 t := fun t k => pre1031 t (by
              refine XS.ifNo X1028.here hx rfl (hb hby at_391) rfl ((if0 _ _).trans (feq hc391).1) ?_
              refine XS.aload X1028.here hx rfl (hb hby at_394) rfl rfl ?_
              refine XS.ifnonnullYes X1028.here hx rfl (pc0 := 396) (pc' := 401) rfl (hb hby at_396) rfl (by decide) (by decide) ?_
              refine XS.aload X1028.here hx rfl (hb hby at_401) rfl rfl ?_
              refine XS.aload X1028.here hx rfl (hb hby at_403) rfl rfl ?_
              exact k)
            have hp1034 : ((2 : Int32) = (0 : Int32) ∧ (3 : Int32) = (3 : Int32)) ∨ ((2 : Int32) = (2 : Int32) ∧ (3 : Int32) = (3 : Int32)) := by decide
            have hp1035 : ((1 : Int32) < (3 : Int32) → v11 < (v11 + (1 : Int64))) ∧ ((2 : Int32) < (3 : Int32) → (v11 + (1 : Int64)) < (v11 + (2 : Int64))) := ⟨fun _ => hq01, fun _ => hq12⟩
            have hp1036 : b109 < b142 := lne145
            have ex1038 := own_QI_exa Q1026
            have ex1039 := own_QI_exa Q1026
            obtain ⟨cq1037, kq1037, q1037a, q1037b, q1037c⟩ := isOf hZ eh1028 ex1039
            obtain ⟨_, _, ⟨T1037, L1037, k1037, n1037⟩, -, X1037, ⟨Lc1037, hQ1037, l1037, y1037, z1037⟩, st1037⟩ := X1028.virtualBack hx (y := own_y10) (z := own_y10) hown (mvT hZ hw82) (mvT hZ hw83) (notFace_of_selects (args := #[]) (mvT hZ hw85)) (mvT hZ hw85) (mvT hZ hw84) (by decide) (backOf (W := 0) (own_rm11j2 l Z a0 hw [] b142 b109 .null .null v11 (v11 + (1 : Int64)) (v11 + (2 : Int64)) (2 : Int32) (3 : Int32) (1 : Int32) T1016.heap n0 f1019 Q1026 f1024 f1025 hp1034 hp1035 hp1036) hZ hw86 hw25 (by decide) (by decide)) q1037a q1037c (g := (mkF m 405 #[sI p1, sJ q2, sW, sI 3, sI c0, sI c1, sI c2, sI e0_, sI e1_, sI e2_, sI again, sJ v11, sW, sR b76, sR b87, sR b109, sR b142, sI 0, sI 0, sI 1, sR b109, sR b109, sI 1, sU] [(.ref b109), (.ref b142)])) rfl (by rw [hml]; rfl) (Steps.refl _) (argsL := [(.ref b109)]) (rest := []) (lenOf own_pd_12 rfl) rfl (by show 2 * 0 + _ ≤ _; exact Nat.le_of_eq rfl) (hb hby at_405) (fun _ _ => ⟨rfl, eh1028, (by decide : 8 + 0 ≤ _), (by decide : 53 + 0 ≤ _)⟩)
            dsimp only [Pt.U, Pt.locs, Pt.cells, Pt.slots] at X1037 l1037 y1037 z1037 st1037 hQ1037
            subst l1037 y1037 z1037
            obtain ⟨rfl, N1037q, Lw1037, Qw1037⟩ := hQ1037
            have f1040 := Nat.le_trans f1019 Lw1037.1
            have f1041 := Lw1037.exa f1020 lne143
            have f1042 := Lw1037.fld f1021 lne143
            have f1043 := Lw1037.exa f1022 lne144
            have f1044 := Lw1037.fld f1023 lne144
            have f1045 := Lw1037.exa f1024 lne145
            have f1046 := Lw1037.fld f1025 lne145
            have Q1047 : own_QI Z T1037.heap n0 b142 .null .null .null v11 (v11 + (1 : Int64)) (v11 + (2 : Int64)) (2 : Int32) (3 : Int32) (0 : Int32) := Qw1037
            have N1037 := Fr.app N1028 N1037q
            have pre1048 : ∀ t, own_S p e below T1037 m 449 #[sI p1, sJ q2, sW, sI 3, sI c0, sI c1, sI c2, sI e0_, sI e1_, sI e2_, sI again, sJ v11, sW, sR b76, sR b87, sR b109, sR b142, sI 0, sI 0, sI 0, sR b109, sR b109, sI 1, sU] [(.ref b109), (.ref b87), (.ref b76), (.int 0), (.int 0), (.int 0)] t → R0 t := fun t k => pre1033 t (by
              refine st1037.trans ?_
              refine XS.aload X1037.here hx rfl (hb hby at_408) rfl rfl ?_
              refine XS.aload X1037.here hx rfl (hb hby at_410) rfl rfl ?_
              refine Jvm.RoadKit.acmp (g := (mkF m 412 #[sI p1, sJ q2, sW, sI 3, sI c0, sI c1, sI c2, sI e0_, sI e1_, sI e2_, sI again, sJ v11, sW, sR b76, sR b87, sR b109, sR b142, sI 0, sI 0, sI 1, sR b109, sR b109, sI 1, sU] [(.ref b76), (.ref b109)])) X1037 hx rfl rfl rfl (pc0 := 412) (pc' := 421) (same := false) rfl (hb hby at_412) rfl (decide_eq_false fun q => (Ne.symm ne110) (Value.ref.inj q)) (by decide) (by decide) ?_
              refine XS.aload X1037.here hx rfl (hb hby at_421) rfl rfl ?_
              refine XS.aload X1037.here hx rfl (hb hby at_423) rfl rfl ?_
              refine Jvm.RoadKit.acmp (g := (mkF m 425 #[sI p1, sJ q2, sW, sI 3, sI c0, sI c1, sI c2, sI e0_, sI e1_, sI e2_, sI again, sJ v11, sW, sR b76, sR b87, sR b109, sR b142, sI 0, sI 0, sI 1, sR b109, sR b109, sI 1, sU] [(.ref b87), (.ref b109)])) X1037 hx rfl rfl rfl (pc0 := 425) (pc' := 434) (same := false) rfl (hb hby at_425) rfl (decide_eq_false fun q => (Ne.symm ne111) (Value.ref.inj q)) (by decide) (by decide) ?_
              refine XS.iconst X1037.here hx rfl (hb hby at_434) ?_
              refine XS.istore X1037.here hx rfl (hb hby at_435) rfl (l' := #[sI p1, sJ q2, sW, sI 3, sI c0, sI c1, sI c2, sI e0_, sI e1_, sI e2_, sI again, sJ v11, sW, sR b76, sR b87, sR b109, sR b142, sI 0, sI 0, sI 0, sR b109, sR b109, sI 1, sU]) rfl ?_
              refine XS.iload X1037.here hx rfl (hb hby at_437) rfl ?_
              refine XS.iload X1037.here hx rfl (hb hby at_439) rfl ?_
              refine XS.iload X1037.here hx rfl (hb hby at_441) rfl ?_
              refine XS.aload X1037.here hx rfl (hb hby at_443) rfl rfl ?_
              refine XS.aload X1037.here hx rfl (hb hby at_445) rfl rfl ?_
              refine XS.aload X1037.here hx rfl (hb hby at_447) rfl rfl ?_
              exact k)
            obtain ⟨_, _, ⟨T1049, L1049, k1049, n1049⟩, -, X1049, ⟨Lc1049, hQ1049, l1049, y1049, z1049⟩, st1049⟩ := Jvm.LawKit.callS X1037 hx (y := own_y12) hown (mvT hZ hw45) (mvT hZ hw46) (mvT hZ hw47) (mvT hZ hw48) (by decide) (backOf (W := 0) (own_rm5d l Z a0 hw [] b76 b87 b109 T1037.heap n0 f1040 ) hZ hw48 hw47 (by decide) (by decide)) (g := (mkF m 449 #[sI p1, sJ q2, sW, sI 3, sI c0, sI c1, sI c2, sI e0_, sI e1_, sI e2_, sI again, sJ v11, sW, sR b76, sR b87, sR b109, sR b142, sI 0, sI 0, sI 0, sR b109, sR b109, sI 1, sU] [(.ref b109), (.ref b87), (.ref b76), (.int 0), (.int 0), (.int 0)])) rfl (by rw [hml]; rfl) (argsL := [(.int 0), (.int 0), (.int 0), (.ref b76), (.ref b87), (.ref b109)]) (rest := []) (lenOf own_pd_8 rfl) rfl (by show 2 * 0 + _ ≤ _; exact Nat.le_of_eq rfl) (hb hby at_449) (fun _ _ => ⟨rfl, rfl, (by decide : 8 + 0 ≤ _), (by decide : 53 + 0 ≤ _)⟩)
            dsimp only [Pt.U, Pt.locs, Pt.cells, Pt.slots] at X1049 l1049 y1049 z1049 st1049 hQ1049
            subst l1049 y1049 z1049
            obtain ⟨rfl, N1049q, eh1049⟩ := hQ1049
            have N1049 := Fr.app N1037 N1049q
            have pre1050 : ∀ t, own_S p e below T1049 m 456 #[sI p1, sJ q2, sW, sI 3, sI c0, sI c1, sI c2, sI e0_, sI e1_, sI e2_, sI again, sJ v11, sW, sR b76, sR b87, sR b109, sR b142, sI 0, sI 0, sI 0, sR b109, sR b109, sI 1, sN] [(.ref b142)] t → R0 t := fun t k => pre1048 t (by
              refine st1049 _ ?_
              refine XS.astore X1049.here hx rfl (hb hby at_452) rfl rfl (l' := #[sI p1, sJ q2, sW, sI 3, sI c0, sI c1, sI c2, sI e0_, sI e1_, sI e2_, sI again, sJ v11, sW, sR b76, sR b87, sR b109, sR b142, sI 0, sI 0, sI 0, sR b109, sR b109, sI 1, sN]) rfl ?_
              refine XS.aload X1049.here hx rfl (hb hby at_454) rfl rfl ?_
              exact k)
            have hp1051 : (0 : Int32) = (0 : Int32) := by decide
            have ex1053 := own_QI_exa Q1047
            have ex1054 := own_QI_exa Q1047
            obtain ⟨cq1052, kq1052, q1052a, q1052b, q1052c⟩ := isOf hZ eh1049 ex1054
            obtain ⟨_, _, ⟨T1052, L1052, k1052, n1052⟩, -, X1052, ⟨Lc1052, hQ1052, l1052, y1052, z1052⟩, st1052⟩ := X1049.virtualBack hx (y := own_y11) (z := own_y11) hown (mvT hZ hw49) (mvT hZ hw50) (notFace_of_selects (args := #[]) (mvT hZ hw52)) (mvT hZ hw52) (mvT hZ hw51) (by decide) (backOf (W := 0) (own_rm6z l Z a0 hw [] b142 .null .null .null v11 (v11 + (1 : Int64)) (v11 + (2 : Int64)) (2 : Int32) (3 : Int32) (0 : Int32) T1037.heap n0 f1040 Q1047 hp1051) hZ hw53 hw25 (by decide) (by decide)) q1052a q1052c (g := (mkF m 456 #[sI p1, sJ q2, sW, sI 3, sI c0, sI c1, sI c2, sI e0_, sI e1_, sI e2_, sI again, sJ v11, sW, sR b76, sR b87, sR b109, sR b142, sI 0, sI 0, sI 0, sR b109, sR b109, sI 1, sN] [(.ref b142)])) rfl (by rw [hml]; rfl) (Steps.refl _) (argsL := []) (rest := []) (lenOf own_pd_9 rfl) rfl (by show 2 * 0 + _ ≤ _; exact Nat.le_of_eq rfl) (hb hby at_456) (fun _ _ => ⟨rfl, eh1049, (by decide : 8 + 0 ≤ _), (by decide : 53 + 0 ≤ _)⟩)
            dsimp only [Pt.U, Pt.locs, Pt.cells, Pt.slots] at X1052 l1052 y1052 z1052 st1052 hQ1052
            subst l1052 y1052 z1052
            obtain ⟨rfl, N1052q, eh1052⟩ := hQ1052
            have N1052 := Fr.app N1049 N1052q
            have pre1055 : ∀ t, own_S p e below T1052 m 469 #[sI p1, sJ q2, sW, sI 3, sI c0, sI c1, sI c2, sI e0_, sI e1_, sI e2_, sI again, sJ v11, sW, sR b76, sR b87, sR b109, sR b142, sI 0, sI 0, sI 0, sR b109, sR b109, sI 1, sN] [(.int 1)] t → R0 t := fun t k => pre1050 t (by
              refine st1052.trans ?_
              refine XS.aload X1052.here hx rfl (hb hby at_459) rfl rfl ?_
              refine Jvm.RoadKit.acmp (g := (mkF m 461 #[sI p1, sJ q2, sW, sI 3, sI c0, sI c1, sI c2, sI e0_, sI e1_, sI e2_, sI again, sJ v11, sW, sR b76, sR b87, sR b109, sR b142, sI 0, sI 0, sI 0, sR b109, sR b109, sI 1, sN] [.null, .null])) X1052 hx rfl rfl rfl (pc0 := 461) (pc' := 464) (same := true) rfl (hb hby at_461) rfl (decide_eq_true rfl) (by decide) (by decide) ?_
              refine XS.iconst X1052.here hx rfl (hb hby at_464) ?_
              refine XS.goto X1052.here hx rfl (pc0 := 465) (pc' := 469) rfl (hb hby at_465) (by decide) (by decide) ?_
              exact k)
            obtain ⟨fs, hr, hrun, hended, hW, hsame⟩ := X1052.leave (v := some (.int 1)) (fun h => by rw [Bd.returns] at h; cases h)
            refine ⟨_, _, cast (congrFun hR0 _) (pre1055 _ (retN X1052 hx (t := .boolean) Bd.returns (by simp) (hb hby at_469) hr)), hrun, hended, _, _, rfl, ?_, ⟨_, rfl⟩, hW, hsame.mono (by decide) (by decide)⟩
            show own_Q0 Z _ _ h0 n0 _ T1052.heap _
            rw [eh1052]
            exact ⟨rfl, N1052⟩
        · have pre1056 : ∀ t, own_S p e below T563 m 273 #[sI p1, sJ q2, sW, sI 3, sI c0, sI c1, sI c2, sI e0_, sI e1_, sI e2_, sI again, sJ v11, sW, sR b76, sR b87, sR b109, sR b142, sI 0, sI 0, sI 0, sU, sU, sU, sU] [(.ref b76), (.ref b142)] t → R0 t := fun t k => pre981 t (by
            refine XS.ifYes X563.here hx rfl (pc0 := 250) (pc' := 257) rfl (hb hby at_250) rfl ((if0 _ _).trans (feq hc250).2) (by decide) (by decide) ?_
            refine XS.iconst X563.here hx rfl (hb hby at_257) ?_
            refine XS.istore X563.here hx rfl (hb hby at_258) rfl (l' := #[sI p1, sJ q2, sW, sI 3, sI c0, sI c1, sI c2, sI e0_, sI e1_, sI e2_, sI again, sJ v11, sW, sR b76, sR b87, sR b109, sR b142, sI 0, sI 0, sI 0, sU, sU, sU, sU]) rfl ?_
            refine XS.iloadN X563.here hx rfl (hb hby at_260) rfl ?_
            refine XS.ifNo X563.here hx rfl (hb hby at_261) rfl ((if0 _ _).trans (tlt (by decide : (0 : Int32) < (3 : Int32))).2.2.2) ?_
            refine XS.iload X563.here hx rfl (hb hby at_264) rfl ?_
            refine XS.ifNo X563.here hx rfl (hb hby at_266) rfl ((if0 _ _).trans (feq hc216).1) ?_
            refine XS.aload X563.here hx rfl (hb hby at_269) rfl rfl ?_
            refine XS.aload X563.here hx rfl (hb hby at_271) rfl rfl ?_
            exact k)
          have hp1057 : ((0 : Int32) = (0 : Int32) ∧ (3 : Int32) = (1 : Int32)) ∨ ((0 : Int32) = (0 : Int32) ∧ (3 : Int32) = (2 : Int32)) ∨ ((0 : Int32) = (0 : Int32) ∧ (3 : Int32) = (3 : Int32)) := by decide
          have hp1058 : ((1 : Int32) < (3 : Int32) → v11 < (v11 + (1 : Int64))) ∧ ((2 : Int32) < (3 : Int32) → (v11 + (1 : Int64)) < (v11 + (2 : Int64))) := ⟨fun _ => hq01, fun _ => hq12⟩
          have hp1059 : b76 < b142 := lne143
          have ex1061 := own_QI_exa Q573
          have ex1062 := own_QI_exa Q573
          obtain ⟨cq1060, kq1060, q1060a, q1060b, q1060c⟩ := isOf hZ rfl ex1062
          obtain ⟨_, _, ⟨T1060, L1060, k1060, n1060⟩, -, X1060, ⟨Lc1060, hQ1060, l1060, y1060, z1060⟩, st1060⟩ := X563.virtualBack hx (y := own_y10) (z := own_y10) hown (mvT hZ hw82) (mvT hZ hw83) (notFace_of_selects (args := #[]) (mvT hZ hw85)) (mvT hZ hw85) (mvT hZ hw84) (by decide) (backOf (W := 0) (own_rm11j0 l Z a0 hw [] b142 b76 (.ref b87) (.ref b109) v11 (v11 + (1 : Int64)) (v11 + (2 : Int64)) (0 : Int32) (3 : Int32) (3 : Int32) T563.heap n0 f566 Q573 f567 f568 hp1057 hp1058 hp1059) hZ hw86 hw25 (by decide) (by decide)) q1060a q1060c (g := (mkF m 273 #[sI p1, sJ q2, sW, sI 3, sI c0, sI c1, sI c2, sI e0_, sI e1_, sI e2_, sI again, sJ v11, sW, sR b76, sR b87, sR b109, sR b142, sI 0, sI 0, sI 0, sU, sU, sU, sU] [(.ref b76), (.ref b142)])) rfl (by rw [hml]; rfl) (Steps.refl _) (argsL := [(.ref b76)]) (rest := []) (lenOf own_pd_12 rfl) rfl (by show 2 * 0 + _ ≤ _; exact Nat.le_of_eq rfl) (hb hby at_273) (fun _ _ => ⟨rfl, rfl, (by decide : 8 + 0 ≤ _), (by decide : 53 + 0 ≤ _)⟩)
          dsimp only [Pt.U, Pt.locs, Pt.cells, Pt.slots] at X1060 l1060 y1060 z1060 st1060 hQ1060
          subst l1060 y1060 z1060
          obtain ⟨rfl, N1060q, Lw1060, Qw1060⟩ := hQ1060
          have f1063 := Nat.le_trans f566 Lw1060.1
          have f1064 := Lw1060.exa f567 lne143
          have f1065 := Lw1060.fld f568 lne143
          have f1066 := Lw1060.exa f569 lne144
          have f1067 := Lw1060.fld f570 lne144
          have f1068 := Lw1060.exa f571 lne145
          have f1069 := Lw1060.fld f572 lne145
          have Q1070 : own_QI Z T1060.heap n0 b142 .null (.ref b87) (.ref b109) v11 (v11 + (1 : Int64)) (v11 + (2 : Int64)) (0 : Int32) (3 : Int32) (2 : Int32) := Qw1060
          have N1060 := Fr.app N563 N1060q
          have pre1071 : ∀ t, own_S p e below T1060 m 290 #[sI p1, sJ q2, sW, sI 3, sI c0, sI c1, sI c2, sI e0_, sI e1_, sI e2_, sI again, sJ v11, sW, sR b76, sR b87, sR b109, sR b142, sI 0, sI 0, sI 0, sU, sU, sU, sU] [(.ref b87), (.ref b142)] t → R0 t := fun t k => pre1056 t (by
            refine st1060.trans ?_
            refine XS.iloadN X1060.here hx rfl (hb hby at_276) rfl ?_
            refine XS.iconst X1060.here hx rfl (hb hby at_277) ?_
            refine XS.icmpNo X1060.here hx rfl (hb hby at_278) rfl (tlt (by decide : (1 : Int32) < (3 : Int32))).2.2.2 ?_
            refine XS.iload X1060.here hx rfl (hb hby at_281) rfl ?_
            refine XS.ifNo X1060.here hx rfl (hb hby at_283) rfl ((if0 _ _).trans (feq hc233).1) ?_
            refine XS.aload X1060.here hx rfl (hb hby at_286) rfl rfl ?_
            refine XS.aload X1060.here hx rfl (hb hby at_288) rfl rfl ?_
            exact k)
          have hp1072 : ((0 : Int32) = (0 : Int32) ∧ (3 : Int32) = (2 : Int32)) ∨ ((0 : Int32) = (0 : Int32) ∧ (3 : Int32) = (3 : Int32)) ∨ ((0 : Int32) = (1 : Int32) ∧ (3 : Int32) = (2 : Int32)) ∨ ((0 : Int32) = (1 : Int32) ∧ (3 : Int32) = (3 : Int32)) := by decide
          have hp1073 : ((1 : Int32) < (3 : Int32) → v11 < (v11 + (1 : Int64))) ∧ ((2 : Int32) < (3 : Int32) → (v11 + (1 : Int64)) < (v11 + (2 : Int64))) := ⟨fun _ => hq01, fun _ => hq12⟩
          have hp1074 : b87 < b142 := lne144
          have ex1076 := own_QI_exa Q1070
          have ex1077 := own_QI_exa Q1070
          obtain ⟨cq1075, kq1075, q1075a, q1075b, q1075c⟩ := isOf hZ rfl ex1077
          obtain ⟨_, _, ⟨T1075, L1075, k1075, n1075⟩, -, X1075, ⟨Lc1075, hQ1075, l1075, y1075, z1075⟩, st1075⟩ := X1060.virtualBack hx (y := own_y10) (z := own_y10) hown (mvT hZ hw82) (mvT hZ hw83) (notFace_of_selects (args := #[]) (mvT hZ hw85)) (mvT hZ hw85) (mvT hZ hw84) (by decide) (backOf (W := 0) (own_rm11j1 l Z a0 hw [] b142 b87 .null (.ref b109) v11 (v11 + (1 : Int64)) (v11 + (2 : Int64)) (0 : Int32) (3 : Int32) (2 : Int32) T1060.heap n0 f1063 Q1070 f1066 f1067 hp1072 hp1073 hp1074) hZ hw86 hw25 (by decide) (by decide)) q1075a q1075c (g := (mkF m 290 #[sI p1, sJ q2, sW, sI 3, sI c0, sI c1, sI c2, sI e0_, sI e1_, sI e2_, sI again, sJ v11, sW, sR b76, sR b87, sR b109, sR b142, sI 0, sI 0, sI 0, sU, sU, sU, sU] [(.ref b87), (.ref b142)])) rfl (by rw [hml]; rfl) (Steps.refl _) (argsL := [(.ref b87)]) (rest := []) (lenOf own_pd_12 rfl) rfl (by show 2 * 0 + _ ≤ _; exact Nat.le_of_eq rfl) (hb hby at_290) (fun _ _ => ⟨rfl, rfl, (by decide : 8 + 0 ≤ _), (by decide : 53 + 0 ≤ _)⟩)
          dsimp only [Pt.U, Pt.locs, Pt.cells, Pt.slots] at X1075 l1075 y1075 z1075 st1075 hQ1075
          subst l1075 y1075 z1075
          obtain ⟨rfl, N1075q, Lw1075, Qw1075⟩ := hQ1075
          have f1078 := Nat.le_trans f1063 Lw1075.1
          have f1079 := Lw1075.exa f1064 lne143
          have f1080 := Lw1075.fld f1065 lne143
          have f1081 := Lw1075.exa f1066 lne144
          have f1082 := Lw1075.fld f1067 lne144
          have f1083 := Lw1075.exa f1068 lne145
          have f1084 := Lw1075.fld f1069 lne145
          have Q1085 : own_QI Z T1075.heap n0 b142 .null .null (.ref b109) v11 (v11 + (1 : Int64)) (v11 + (2 : Int64)) (0 : Int32) (3 : Int32) (1 : Int32) := Qw1075
          have N1075 := Fr.app N1060 N1075q
          have pre1086 : ∀ t, own_S p e below T1075 m 307 #[sI p1, sJ q2, sW, sI 3, sI c0, sI c1, sI c2, sI e0_, sI e1_, sI e2_, sI again, sJ v11, sW, sR b76, sR b87, sR b109, sR b142, sI 0, sI 0, sI 0, sU, sU, sU, sU] [(.ref b109), (.ref b142)] t → R0 t := fun t k => pre1071 t (by
            refine st1075.trans ?_
            refine XS.iloadN X1075.here hx rfl (hb hby at_293) rfl ?_
            refine XS.iconst X1075.here hx rfl (hb hby at_294) ?_
            refine XS.icmpNo X1075.here hx rfl (hb hby at_295) rfl (tlt (by decide : (2 : Int32) < (3 : Int32))).2.2.2 ?_
            refine XS.iload X1075.here hx rfl (hb hby at_298) rfl ?_
            refine XS.ifNo X1075.here hx rfl (hb hby at_300) rfl ((if0 _ _).trans (feq hc250).1) ?_
            refine XS.aload X1075.here hx rfl (hb hby at_303) rfl rfl ?_
            refine XS.aload X1075.here hx rfl (hb hby at_305) rfl rfl ?_
            exact k)
          have hp1087 : ((0 : Int32) = (0 : Int32) ∧ (3 : Int32) = (3 : Int32)) ∨ ((0 : Int32) = (2 : Int32) ∧ (3 : Int32) = (3 : Int32)) := by decide
          have hp1088 : ((1 : Int32) < (3 : Int32) → v11 < (v11 + (1 : Int64))) ∧ ((2 : Int32) < (3 : Int32) → (v11 + (1 : Int64)) < (v11 + (2 : Int64))) := ⟨fun _ => hq01, fun _ => hq12⟩
          have hp1089 : b109 < b142 := lne145
          have ex1091 := own_QI_exa Q1085
          have ex1092 := own_QI_exa Q1085
          obtain ⟨cq1090, kq1090, q1090a, q1090b, q1090c⟩ := isOf hZ rfl ex1092
          obtain ⟨_, _, ⟨T1090, L1090, k1090, n1090⟩, -, X1090, ⟨Lc1090, hQ1090, l1090, y1090, z1090⟩, st1090⟩ := X1075.virtualBack hx (y := own_y10) (z := own_y10) hown (mvT hZ hw82) (mvT hZ hw83) (notFace_of_selects (args := #[]) (mvT hZ hw85)) (mvT hZ hw85) (mvT hZ hw84) (by decide) (backOf (W := 0) (own_rm11j2 l Z a0 hw [] b142 b109 .null .null v11 (v11 + (1 : Int64)) (v11 + (2 : Int64)) (0 : Int32) (3 : Int32) (1 : Int32) T1075.heap n0 f1078 Q1085 f1083 f1084 hp1087 hp1088 hp1089) hZ hw86 hw25 (by decide) (by decide)) q1090a q1090c (g := (mkF m 307 #[sI p1, sJ q2, sW, sI 3, sI c0, sI c1, sI c2, sI e0_, sI e1_, sI e2_, sI again, sJ v11, sW, sR b76, sR b87, sR b109, sR b142, sI 0, sI 0, sI 0, sU, sU, sU, sU] [(.ref b109), (.ref b142)])) rfl (by rw [hml]; rfl) (Steps.refl _) (argsL := [(.ref b109)]) (rest := []) (lenOf own_pd_12 rfl) rfl (by show 2 * 0 + _ ≤ _; exact Nat.le_of_eq rfl) (hb hby at_307) (fun _ _ => ⟨rfl, rfl, (by decide : 8 + 0 ≤ _), (by decide : 53 + 0 ≤ _)⟩)
          dsimp only [Pt.U, Pt.locs, Pt.cells, Pt.slots] at X1090 l1090 y1090 z1090 st1090 hQ1090
          subst l1090 y1090 z1090
          obtain ⟨rfl, N1090q, Lw1090, Qw1090⟩ := hQ1090
          have f1093 := Nat.le_trans f1078 Lw1090.1
          have f1094 := Lw1090.exa f1079 lne143
          have f1095 := Lw1090.fld f1080 lne143
          have f1096 := Lw1090.exa f1081 lne144
          have f1097 := Lw1090.fld f1082 lne144
          have f1098 := Lw1090.exa f1083 lne145
          have f1099 := Lw1090.fld f1084 lne145
          have Q1100 : own_QI Z T1090.heap n0 b142 .null .null .null v11 (v11 + (1 : Int64)) (v11 + (2 : Int64)) (0 : Int32) (3 : Int32) (0 : Int32) := Qw1090
          have N1090 := Fr.app N1075 N1090q
          have pre1101 : ∀ t, own_S p e below T1090 m 322 #[sI p1, sJ q2, sW, sI 3, sI c0, sI c1, sI c2, sI e0_, sI e1_, sI e2_, sI again, sJ v11, sW, sR b76, sR b87, sR b109, sR b142, sI 0, sI 0, sI 0, sU, sU, sU, sU] [(.ref b109), (.ref b87), (.ref b76), (.int 0), (.int 0), (.int 0)] t → R0 t := fun t k => pre1086 t (by
            refine st1090.trans ?_
            refine XS.iload X1090.here hx rfl (hb hby at_310) rfl ?_
            refine XS.iload X1090.here hx rfl (hb hby at_312) rfl ?_
            refine XS.iload X1090.here hx rfl (hb hby at_314) rfl ?_
            refine XS.aload X1090.here hx rfl (hb hby at_316) rfl rfl ?_
            refine XS.aload X1090.here hx rfl (hb hby at_318) rfl rfl ?_
            refine XS.aload X1090.here hx rfl (hb hby at_320) rfl rfl ?_
            exact k)
          obtain ⟨_, _, ⟨T1102, L1102, k1102, n1102⟩, -, X1102, ⟨Lc1102, hQ1102, l1102, y1102, z1102⟩, st1102⟩ := Jvm.LawKit.callS X1090 hx (y := own_y12) hown (mvT hZ hw45) (mvT hZ hw46) (mvT hZ hw47) (mvT hZ hw48) (by decide) (backOf (W := 0) (own_rm5d l Z a0 hw [] b76 b87 b109 T1090.heap n0 f1093 ) hZ hw48 hw47 (by decide) (by decide)) (g := (mkF m 322 #[sI p1, sJ q2, sW, sI 3, sI c0, sI c1, sI c2, sI e0_, sI e1_, sI e2_, sI again, sJ v11, sW, sR b76, sR b87, sR b109, sR b142, sI 0, sI 0, sI 0, sU, sU, sU, sU] [(.ref b109), (.ref b87), (.ref b76), (.int 0), (.int 0), (.int 0)])) rfl (by rw [hml]; rfl) (argsL := [(.int 0), (.int 0), (.int 0), (.ref b76), (.ref b87), (.ref b109)]) (rest := []) (lenOf own_pd_8 rfl) rfl (by show 2 * 0 + _ ≤ _; exact Nat.le_of_eq rfl) (hb hby at_322) (fun _ _ => ⟨rfl, rfl, (by decide : 8 + 0 ≤ _), (by decide : 53 + 0 ≤ _)⟩)
          dsimp only [Pt.U, Pt.locs, Pt.cells, Pt.slots] at X1102 l1102 y1102 z1102 st1102 hQ1102
          subst l1102 y1102 z1102
          obtain ⟨rfl, N1102q, eh1102⟩ := hQ1102
          have N1102 := Fr.app N1090 N1102q
          have pre1103 : ∀ t, own_S p e below T1102 m 329 #[sI p1, sJ q2, sW, sI 3, sI c0, sI c1, sI c2, sI e0_, sI e1_, sI e2_, sI again, sJ v11, sW, sR b76, sR b87, sR b109, sR b142, sI 0, sI 0, sI 0, sN, sU, sU, sU] [(.ref b142)] t → R0 t := fun t k => pre1101 t (by
            refine st1102 _ ?_
            refine XS.astore X1102.here hx rfl (hb hby at_325) rfl rfl (l' := #[sI p1, sJ q2, sW, sI 3, sI c0, sI c1, sI c2, sI e0_, sI e1_, sI e2_, sI again, sJ v11, sW, sR b76, sR b87, sR b109, sR b142, sI 0, sI 0, sI 0, sN, sU, sU, sU]) rfl ?_
            refine XS.aload X1102.here hx rfl (hb hby at_327) rfl rfl ?_
            exact k)
          have hp1104 : (0 : Int32) = (0 : Int32) := by decide
          have ex1106 := own_QI_exa Q1100
          have ex1107 := own_QI_exa Q1100
          obtain ⟨cq1105, kq1105, q1105a, q1105b, q1105c⟩ := isOf hZ eh1102 ex1107
          obtain ⟨_, _, ⟨T1105, L1105, k1105, n1105⟩, -, X1105, ⟨Lc1105, hQ1105, l1105, y1105, z1105⟩, st1105⟩ := X1102.virtualBack hx (y := own_y11) (z := own_y11) hown (mvT hZ hw49) (mvT hZ hw50) (notFace_of_selects (args := #[]) (mvT hZ hw52)) (mvT hZ hw52) (mvT hZ hw51) (by decide) (backOf (W := 0) (own_rm6z l Z a0 hw [] b142 .null .null .null v11 (v11 + (1 : Int64)) (v11 + (2 : Int64)) (0 : Int32) (3 : Int32) (0 : Int32) T1090.heap n0 f1093 Q1100 hp1104) hZ hw53 hw25 (by decide) (by decide)) q1105a q1105c (g := (mkF m 329 #[sI p1, sJ q2, sW, sI 3, sI c0, sI c1, sI c2, sI e0_, sI e1_, sI e2_, sI again, sJ v11, sW, sR b76, sR b87, sR b109, sR b142, sI 0, sI 0, sI 0, sN, sU, sU, sU] [(.ref b142)])) rfl (by rw [hml]; rfl) (Steps.refl _) (argsL := []) (rest := []) (lenOf own_pd_9 rfl) rfl (by show 2 * 0 + _ ≤ _; exact Nat.le_of_eq rfl) (hb hby at_329) (fun _ _ => ⟨rfl, eh1102, (by decide : 8 + 0 ≤ _), (by decide : 53 + 0 ≤ _)⟩)
          dsimp only [Pt.U, Pt.locs, Pt.cells, Pt.slots] at X1105 l1105 y1105 z1105 st1105 hQ1105
          subst l1105 y1105 z1105
          obtain ⟨rfl, N1105q, eh1105⟩ := hQ1105
          have N1105 := Fr.app N1102 N1105q
          have pre1108 : ∀ t, own_S p e below T1105 m 379 #[sI p1, sJ q2, sW, sI 3, sI c0, sI c1, sI c2, sI e0_, sI e1_, sI e2_, sI again, sJ v11, sW, sR b76, sR b87, sR b109, sR b142, sI 0, sI 0, sI 0, sN, sN, sI 0, sU] [(.ref b142)] t → R0 t := fun t k => pre1103 t (by
            refine st1105.trans ?_
            refine XS.astore X1105.here hx rfl (hb hby at_332) rfl rfl (l' := #[sI p1, sJ q2, sW, sI 3, sI c0, sI c1, sI c2, sI e0_, sI e1_, sI e2_, sI again, sJ v11, sW, sR b76, sR b87, sR b109, sR b142, sI 0, sI 0, sI 0, sN, sN, sU, sU]) rfl ?_
            refine XS.aload X1105.here hx rfl (hb hby at_334) rfl rfl ?_
            refine XS.aload X1105.here hx rfl (hb hby at_336) rfl rfl ?_
            refine Jvm.RoadKit.acmp (g := (mkF m 338 #[sI p1, sJ q2, sW, sI 3, sI c0, sI c1, sI c2, sI e0_, sI e1_, sI e2_, sI again, sJ v11, sW, sR b76, sR b87, sR b109, sR b142, sI 0, sI 0, sI 0, sN, sN, sU, sU] [.null, .null])) X1105 hx rfl rfl rfl (pc0 := 338) (pc' := 343) (same := true) rfl (hb hby at_338) rfl (decide_eq_true rfl) (by decide) (by decide) ?_
            refine XS.iload X1105.here hx rfl (hb hby at_343) rfl ?_
            refine XS.ifYes X1105.here hx rfl (pc0 := 345) (pc' := 352) rfl (hb hby at_345) rfl ((if0 _ _).trans (teq (by decide : (0 : Int32) = (0 : Int32))).1) (by decide) (by decide) ?_
            refine XS.iconst X1105.here hx rfl (hb hby at_352) ?_
            refine XS.iload X1105.here hx rfl (hb hby at_353) rfl ?_
            refine XS.ifYes X1105.here hx rfl (pc0 := 355) (pc' := 362) rfl (hb hby at_355) rfl ((if0 _ _).trans (teq (by decide : (0 : Int32) = (0 : Int32))).1) (by decide) (by decide) ?_
            refine XS.iconst X1105.here hx rfl (hb hby at_362) ?_
            refine XS.iadd X1105.here hx rfl (hb hby at_363) rfl ?_
            refine XS.iload X1105.here hx rfl (hb hby at_364) rfl ?_
            refine XS.ifYes X1105.here hx rfl (pc0 := 366) (pc' := 373) rfl (hb hby at_366) rfl ((if0 _ _).trans (teq (by decide : (0 : Int32) = (0 : Int32))).1) (by decide) (by decide) ?_
            refine XS.iconst X1105.here hx rfl (hb hby at_373) ?_
            refine XS.iadd X1105.here hx rfl (hb hby at_374) rfl ?_
            refine XS.istore X1105.here hx rfl (hb hby at_375) rfl (l' := #[sI p1, sJ q2, sW, sI 3, sI c0, sI c1, sI c2, sI e0_, sI e1_, sI e2_, sI again, sJ v11, sW, sR b76, sR b87, sR b109, sR b142, sI 0, sI 0, sI 0, sN, sN, sI 0, sU]) rfl ?_
            refine XS.aload X1105.here hx rfl (hb hby at_377) rfl rfl ?_
            exact k)
          have ex1110 := own_QI_exa Q1100
          have ex1111 := own_QI_exa Q1100
          obtain ⟨cq1109, kq1109, q1109a, q1109b, q1109c⟩ := isOf hZ eh1105 ex1111
          obtain ⟨_, _, ⟨T1109, L1109, k1109, n1109⟩, -, X1109, ⟨Lc1109, hQ1109, l1109, y1109, z1109⟩, st1109⟩ := X1105.virtualBack hx (y := own_y4) (z := own_y4) hown (mvT hZ hw56) (mvT hZ hw57) (notFace_of_selects (args := #[]) (mvT hZ hw59)) (mvT hZ hw59) (mvT hZ hw58) (by decide) (backOf (W := 0) (own_rm7 l Z a0 hw [] b142 .null .null .null v11 (v11 + (1 : Int64)) (v11 + (2 : Int64)) (0 : Int32) (3 : Int32) (0 : Int32) T1090.heap n0 f1093 Q1100) hZ hw60 hw25 (by decide) (by decide)) q1109a q1109c (g := (mkF m 379 #[sI p1, sJ q2, sW, sI 3, sI c0, sI c1, sI c2, sI e0_, sI e1_, sI e2_, sI again, sJ v11, sW, sR b76, sR b87, sR b109, sR b142, sI 0, sI 0, sI 0, sN, sN, sI 0, sU] [(.ref b142)])) rfl (by rw [hml]; rfl) (Steps.refl _) (argsL := []) (rest := []) (lenOf own_pd_10 rfl) rfl (by show 2 * 0 + _ ≤ _; exact Nat.le_of_eq rfl) (hb hby at_379) (fun _ _ => ⟨rfl, eh1105, (by decide : 8 + 0 ≤ _), (by decide : 53 + 0 ≤ _)⟩)
          dsimp only [Pt.U, Pt.locs, Pt.cells, Pt.slots] at X1109 l1109 y1109 z1109 st1109 hQ1109
          subst l1109 y1109 z1109
          obtain ⟨rfl, N1109q, eh1109⟩ := hQ1109
          have N1109 := Fr.app N1105 N1109q
          have pre1112 : ∀ t, own_S p e below T1109 m 391 #[sI p1, sJ q2, sW, sI 3, sI c0, sI c1, sI c2, sI e0_, sI e1_, sI e2_, sI again, sJ v11, sW, sR b76, sR b87, sR b109, sR b142, sI 0, sI 0, sI 0, sN, sN, sI 0, sU] [(.int again)] t → R0 t := fun t k => pre1108 t (by
            refine st1109.trans ?_
            refine XS.iload X1109.here hx rfl (hb hby at_382) rfl ?_
            refine XS.icmpYes X1109.here hx rfl (pc0 := 384) (pc' := 389) rfl (hb hby at_384) rfl (teq (by decide : (0 : Int32) = (0 : Int32))).1 (by decide) (by decide) ?_
            refine XS.iload X1109.here hx rfl (hb hby at_389) rfl ?_
            exact k)
          by_cases hc391 : again = (0 : Int32)
          · have pre1113 : ∀ t, own_S p e below T1109 m 400 #[sI p1, sJ q2, sW, sI 3, sI c0, sI c1, sI c2, sI e0_, sI e1_, sI e2_, sI again, sJ v11, sW, sR b76, sR b87, sR b109, sR b142, sI 0, sI 0, sI 0, sN, sN, sI 0, sU] [(.int 1)] t → R0 t := fun t k => pre1112 t (by
              refine XS.ifYes X1109.here hx rfl (pc0 := 391) (pc' := 399) rfl (hb hby at_391) rfl ((if0 _ _).trans (teq hc391).1) (by decide) (by decide) ?_
              refine XS.iconst X1109.here hx rfl (hb hby at_399) ?_
              exact k)
            obtain ⟨fs, hr, hrun, hended, hW, hsame⟩ := X1109.leave (v := some (.int 1)) (fun h => by rw [Bd.returns] at h; cases h)
            refine ⟨_, _, cast (congrFun hR0 _) (pre1113 _ (retN X1109 hx (t := .boolean) Bd.returns (by simp) (hb hby at_400) hr)), hrun, hended, _, _, rfl, ?_, ⟨_, rfl⟩, hW, hsame.mono (by decide) (by decide)⟩
            show own_Q0 Z _ _ h0 n0 _ T1109.heap _
            rw [eh1109]
            exact ⟨rfl, N1109⟩
          · have pre1114 : ∀ t, own_S p e below T1109 m 400 #[sI p1, sJ q2, sW, sI 3, sI c0, sI c1, sI c2, sI e0_, sI e1_, sI e2_, sI again, sJ v11, sW, sR b76, sR b87, sR b109, sR b142, sI 0, sI 0, sI 0, sN, sN, sI 0, sU] [(.int 1)] t → R0 t := fun t k => pre1112 t (by
              refine XS.ifNo X1109.here hx rfl (hb hby at_391) rfl ((if0 _ _).trans (feq hc391).1) ?_
              refine XS.aload X1109.here hx rfl (hb hby at_394) rfl rfl ?_
              refine XS.ifnonnullNo X1109.here hx rfl (hb hby at_396) rfl ?_
              refine XS.iconst X1109.here hx rfl (hb hby at_399) ?_
              exact k)
            obtain ⟨fs, hr, hrun, hended, hW, hsame⟩ := X1109.leave (v := some (.int 1)) (fun h => by rw [Bd.returns] at h; cases h)
            refine ⟨_, _, cast (congrFun hR0 _) (pre1114 _ (retN X1109 hx (t := .boolean) Bd.returns (by simp) (hb hby at_400) hr)), hrun, hended, _, _, rfl, ?_, ⟨_, rfl⟩, hW, hsame.mono (by decide) (by decide)⟩
            show own_Q0 Z _ _ h0 n0 _ T1109.heap _
            rw [eh1109]
            exact ⟨rfl, N1109⟩
set_option maxRecDepth 65536 in
set_option maxHeartbeats 40000000 in
theorem own_comes {Post : Tables → Env → Array Value → State → Outcome → State → Prop} (hpost : ∀ tb e args s v u, (limb_1_1.after args s (.returned v) u = true ∧ limb_1_2.after args s (.returned v) u = true ∧ True) → FrameEnd s (.returned v) u (Jvm.fieldLocs frame_1_writes args s ++ Jvm.arrayLocs frame_1_arrays args s ++ Jvm.staticLocs frame_1_statics s) 24 192 → Post tb e args s (.returned v) u) :
    ArmFor flags0 classFile x code maxLocals ret World_1 tables_1 room_1 Calls_1 rest_1 Pre_1 Post := by
  intro l hfl _ _ p e ha hc hk s m args below hf hA hF happ hP
  obtain ⟨hcalls, hrest, hpre⟩ := hP
  obtain ⟨-, -, -, hnamed, -, -, -, hat⟩ := (Spec.applies_iff hf).mp happ
  obtain ⟨hg, hn⟩ := and_e (Cond.before_iff.mp (show (Jvm.Cond.and given_1 narrow_1).before args s = true from hpre))
  obtain ⟨hcount, hg0⟩ := and_e hg
  obtain ⟨ha0, hg1⟩ := and_e hg0
  have ha1 := hg1
  obtain ⟨w0, w1, rfl⟩ : ∃ w0 w1 : Value, args = #[w0, w1] := by
    have hs : args.size = 2 := by simpa [Cond.value, given_1] using hcount
    obtain ⟨L⟩ := args
    match L, hs with
    | [w0, w1], _ => exact ⟨w0, w1, rfl⟩
  have hw := fun d (hd : d ∈ tables_1) => atoms_spec (ws := Jvm.Cond.code x code maxLocals ret :: tables_1) hat d (List.mem_cons_of_mem _ hd)
  have hfit : Fit s := fun {y c} hc i hi => by
    obtain ⟨ha, rfl⟩ := Array.getElem?_eq_some_iff.mp hc
    have q := List.all_eq_true.mp ((Array.all_eq_true_iff_forall_mem.mp hF) _ (Array.getElem_mem ha)) i (List.mem_range.mpr hi)
    simpa [Array.getElem?_eq_getElem hi] using q
  obtain ⟨i0, ei0⟩ := is_v ha0
  obtain rfl : w0 = (.int i0) := Option.some.inj ei0
  obtain ⟨i1, ei1⟩ := isL_v ha1
  obtain rfl : w1 = (.long i1) := Option.some.inj ei1
  obtain ⟨n, o, h1, h2, h3, _, L, rfl, ⟨rfl, N⟩, hq⟩ := own_rm0 l s _ hw tables_1 i0 i1  s.heap s.heap.size (Nat.le_refl _)  p e ha hc hk s m _ below hf ((Spec.applies_iff_loose hf).mp happ).1 ⟨rfl, State.Warmed39.refl s, rfl⟩ trivial
  refine ⟨n, _, h1, h2, h3, hpost _ _ _ _ _ _ ⟨Cond.after_iff.mpr rfl, Cond.after_iff.mpr (eq_i res_at (Term.int_eval (1)) rfl), trivial⟩ ⟨hq.1, hq.2.1, (hq.2.2.sift fun y hy => Or.inr (N y hy)).mono (by decide) (by decide)⟩⟩
theorem main_1_1 : Claimed_1_1 := own_comes fun _ _ _ _ _ _ h hF => ⟨h.1, hF⟩
theorem main_1_2 : Claimed_1_2 := own_comes fun _ _ _ _ _ _ h hF => ⟨h.2.1, hF⟩
end Jvm.Pilot.@@N@@
namespace Jvm.Pilot.@@N@@
open Jvm Jvm.ClassFile Sem Op Lib Jvm.Free Jvm.Stand Jvm.Pilot.@@N@@.Jvm.D
/-! MADE BY PROGRAM (witnessworld.py) out of the Statement's table words and the real class files: 17 classes; the members and pool entries that the words name. The judged class is class 1, her method 1. -/
namespace start1
open Jvm.ClassFile
def u (s : String) : CpInfo := .utf8 (stringToUtf16 s)
/-- a pool by its gaps: so many unusable entries, then the entry; so many at the end -/
def gap : Nat → List CpInfo → List CpInfo
  | 0, r => r
  | n + 1, r => .unusable :: gap n r
def poolList (es : List (Nat × CpInfo)) (last : Nat) : List CpInfo := es.foldr (fun e r => gap e.1 (e.2 :: r)) (gap last [])
def pool (es : List (Nat × CpInfo)) (last : Nat) : Array CpInfo := ⟨poolList es last⟩
def fileOf (pool : Array CpInfo) (this : Nat) (attrs : Array Attribute := #[]) (ms : Array MethodInfo := #[]) (fl : Nat := 33) (sup : Nat := 0) (ifs : Array Nat := #[]) (fds : Array FieldInfo := #[]) : ClassFile where
  minorVersion := 0
  majorVersion := 65
  constantPool := pool
  accessFlags := fl
  thisClass := this
  superClass := sup
  interfaces := ifs
  fields := fds
  methods := ms
  attributes := attrs
def plain (name : String) (sup : Option ClassId) : Class where
  name := name
  kind := .ordinary
  loader := none
  accessFlags := 33
  super := sup
  interfaces := #[]
  cf := none
  fields := #[]
  methods := #[]
  instanceTypes := #[]
  staticTypes := #[]
  resolved := #[]
  callSites := []
  init := .initialized
  statics := none
  mirror := none

def pool0 : Array CpInfo := pool [(5, u "<init>"), (0, u "()V"), (1, .class_ 10), (1, u "java/lang/Object")] 113

def k0c0 : Code := { maxStack := 0, maxLocals := 1, code := object_method_1_code, exceptionTable := #[], attributes := #[] }
def k0m0 : Method := { name := "<init>", desc := "()V", sig := { parameters := [], returnType := none }, accessFlags := 1, code := some k0c0 }
/-- java/lang/Object -/
def k0 : Class := { plain "java/lang/Object" none with
  accessFlags := 33
  interfaces := #[]
  cf := some (fileOf pool0 8 #[] #[{ accessFlags := 1, nameIndex := 5, descriptorIndex := 6, attributes := #[] }] 33 0 #[] #[])
  fields := #[]
  methods := #[k0m0]
  instanceTypes := #[]
  staticTypes := #[]
  resolved := Array.replicate 124 none
  statics := none }

def pool1 : Array CpInfo := pool [(2, .class_ 4), (1, u "java/lang/Object"), (0, u "<init>"), (0, u "()V"), (0, .class_ 8), (0, u "com/example/adlim/adlim/client/Waiter"), (0, .methodref 7 10), (0, .nameAndType 5 11), (0, u "(Ljava/util/concurrent/CompletableFuture;Lcom/example/adlim/adlim/client/Demand;JJ)V"), (0, .long 2), (1, .class_ 15), (0, u "com/example/adlim/adlim/client/WaiterQueue"), (2, .methodref 14 19), (0, .nameAndType 5 20), (0, u "(Lcom/example/adlim/adlim/client/CeilingQueue;)V"), (0, .methodref 14 22), (0, .nameAndType 23 24), (0, u "add"), (0, u "(Lcom/example/adlim/adlim/client/Waiter;Z)V"), (0, .methodref 14 26), (0, .nameAndType 27 28), (0, u "withdraw"), (0, u "(Lcom/example/adlim/adlim/client/Waiter;)V"), (0, .methodref 30 31), (0, .class_ 32), (0, .nameAndType 33 34), (0, u "com/example/adlim/adlim/client/WaiterQueuePeekPinLaw"), (0, u "first"), (0, u "(ZZZLcom/example/adlim/adlim/client/Waiter;Lcom/example/adlim/adlim/client/Waiter;Lcom/example/adlim/adlim/client/Waiter;)Lcom/example/adlim/adlim/client/Waiter;"), (0, .methodref 14 36), (0, .nameAndType 37 38), (0, u "peek"), (0, u "()Lcom/example/adlim/adlim/client/Waiter;"), (0, .methodref 14 40), (0, .nameAndType 41 42), (0, u "size"), (0, u "()I"), (2, u "law"), (0, u "(IJ)Z")] 3

def k1m0 : Method := { name := "<init>", desc := "()V", sig := { parameters := [], returnType := none }, accessFlags := 1, code := none }
def k1c1 : Code := { maxStack := 10, maxLocals := 24, code := code, exceptionTable := #[], attributes := #[] }
def k1m1 : Method := { name := "law", desc := "(IJ)Z", sig := { parameters := [.int, .long], returnType := some .boolean }, accessFlags := 9, code := some k1c1 }
def k1c2 : Code := { maxStack := 1, maxLocals := 6, code := method_3_code, exceptionTable := #[], attributes := #[] }
def k1m2 : Method := { name := "first", desc := "(ZZZLcom/example/adlim/adlim/client/Waiter;Lcom/example/adlim/adlim/client/Waiter;Lcom/example/adlim/adlim/client/Waiter;)Lcom/example/adlim/adlim/client/Waiter;", sig := { parameters := [.boolean, .boolean, .boolean, (.object "com/example/adlim/adlim/client/Waiter"), (.object "com/example/adlim/adlim/client/Waiter"), (.object "com/example/adlim/adlim/client/Waiter")], returnType := some (.object "com/example/adlim/adlim/client/Waiter") }, accessFlags := 10, code := some k1c2 }
/-- com/example/adlim/adlim/client/WaiterQueuePeekPinLaw -/
def k1 : Class := { plain "com/example/adlim/adlim/client/WaiterQueuePeekPinLaw" (some 0) with
  accessFlags := 49
  interfaces := #[]
  cf := some (fileOf pool1 30 #[] #[{ accessFlags := 1, nameIndex := 5, descriptorIndex := 6, attributes := #[] }, { accessFlags := 9, nameIndex := 45, descriptorIndex := 46, attributes := #[] }, { accessFlags := 10, nameIndex := 33, descriptorIndex := 34, attributes := #[] }] 49 2 #[] #[])
  fields := #[]
  methods := #[k1m0, k1m1, k1m2]
  instanceTypes := #[]
  staticTypes := #[]
  resolved := Array.replicate 50 none
  statics := none }

def pool2 : Array CpInfo := pool [(1, .methodref 2 3), (0, .class_ 4), (0, .nameAndType 5 6), (0, u "java/lang/Object"), (0, u "<init>"), (0, u "()V"), (0, .class_ 8), (0, u "java/lang/Record")] 13

def k2c0 : Code := { maxStack := 1, maxLocals := 1, code := jdk_30_method_1_code, exceptionTable := #[], attributes := #[] }
def k2m0 : Method := { name := "<init>", desc := "()V", sig := { parameters := [], returnType := none }, accessFlags := 4, code := some k2c0 }
/-- java/lang/Record -/
def k2 : Class := { plain "java/lang/Record" (some 0) with
  accessFlags := 1057
  interfaces := #[]
  cf := some (fileOf pool2 7 #[] #[{ accessFlags := 4, nameIndex := 5, descriptorIndex := 6, attributes := #[] }] 1057 2 #[] #[])
  fields := #[]
  methods := #[k2m0]
  instanceTypes := #[]
  staticTypes := #[]
  resolved := Array.replicate 22 none
  statics := none }

def pool3 : Array CpInfo := pool [(1, .methodref 2 3), (0, .class_ 4), (0, .nameAndType 5 6), (0, u "java/lang/Record"), (0, u "<init>"), (0, u "()V"), (0, .fieldref 8 9), (0, .class_ 10), (0, .nameAndType 11 12), (0, u "com/example/adlim/adlim/client/Waiter"), (0, u "future"), (0, u "Ljava/util/concurrent/CompletableFuture;"), (0, .fieldref 8 14), (0, .nameAndType 15 16), (0, u "demand"), (0, u "Lcom/example/adlim/adlim/client/Demand;"), (0, .fieldref 8 18), (0, .nameAndType 19 20), (0, u "admitted"), (0, u "J"), (0, .fieldref 8 22), (0, .nameAndType 23 20), (0, u "order"), (14, u "(Ljava/util/concurrent/CompletableFuture;Lcom/example/adlim/adlim/client/Demand;JJ)V"), (10, u "()J")] 23

def k3c0 : Code := { maxStack := 3, maxLocals := 7, code := prog_62_method_1_code, exceptionTable := #[], attributes := #[] }
def k3m0 : Method := { name := "<init>", desc := "(Ljava/util/concurrent/CompletableFuture;Lcom/example/adlim/adlim/client/Demand;JJ)V", sig := { parameters := [(.object "java/util/concurrent/CompletableFuture"), (.object "com/example/adlim/adlim/client/Demand"), .long, .long], returnType := none }, accessFlags := 0, code := some k3c0 }
def k3c1 : Code := { maxStack := 2, maxLocals := 1, code := prog_62_method_8_code, exceptionTable := #[], attributes := #[] }
def k3m1 : Method := { name := "order", desc := "()J", sig := { parameters := [], returnType := some .long }, accessFlags := 1, code := some k3c1 }
/-- com/example/adlim/adlim/client/Waiter -/
def k3 : Class := { plain "com/example/adlim/adlim/client/Waiter" (some 2) with
  accessFlags := 48
  interfaces := #[]
  cf := some (fileOf pool3 8 #[] #[{ accessFlags := 0, nameIndex := 5, descriptorIndex := 38, attributes := #[] }, { accessFlags := 1, nameIndex := 23, descriptorIndex := 49, attributes := #[] }] 48 2 #[] #[{ accessFlags := 18, nameIndex := 11, descriptorIndex := 12, attributes := #[] }, { accessFlags := 18, nameIndex := 15, descriptorIndex := 16, attributes := #[] }, { accessFlags := 18, nameIndex := 19, descriptorIndex := 20, attributes := #[] }, { accessFlags := 18, nameIndex := 23, descriptorIndex := 20, attributes := #[] }])
  fields := #[{ name := "future", type := (.object "java/util/concurrent/CompletableFuture"), accessFlags := 18, slot := 0, constantValue := 0 }, { name := "demand", type := (.object "com/example/adlim/adlim/client/Demand"), accessFlags := 18, slot := 1, constantValue := 0 }, { name := "admitted", type := .long, accessFlags := 18, slot := 2, constantValue := 0 }, { name := "order", type := .long, accessFlags := 18, slot := 3, constantValue := 0 }]
  methods := #[k3m0, k3m1]
  instanceTypes := #[(.object "java/util/concurrent/CompletableFuture"), (.object "com/example/adlim/adlim/client/Demand"), .long, .long]
  staticTypes := #[]
  resolved := Array.replicate 73 none
  statics := none }

def pool4 : Array CpInfo := pool [(8, .class_ 10), (1, u "java/lang/Iterable"), (24, .class_ 36), (0, u "java/lang/Object")] 25

/-- java/lang/Iterable -/
def k4 : Class := { plain "java/lang/Iterable" (some 0) with
  accessFlags := 1537
  interfaces := #[]
  cf := some (fileOf pool4 8 #[] #[] 1537 35 #[] #[])
  fields := #[]
  methods := #[]
  instanceTypes := #[]
  staticTypes := #[]
  resolved := Array.replicate 62 none
  statics := none }

def pool5 : Array CpInfo := pool [(2, .class_ 4), (1, u "com/example/adlim/adlim/client/WaiterQueue"), (0, u "<init>"), (0, u "(Lcom/example/adlim/adlim/client/CeilingQueue;)V"), (0, .methodref 8 9), (0, .class_ 10), (0, .nameAndType 5 11), (0, u "java/lang/Object"), (0, u "()V"), (0, .class_ 13), (0, u "com/example/adlim/adlim/client/Waiter"), (0, .fieldref 2 15), (0, .nameAndType 16 17), (0, u "waiters"), (0, u "[Lcom/example/adlim/adlim/client/Waiter;"), (0, .fieldref 2 19), (0, .nameAndType 20 21), (0, u "orders"), (0, u "[J"), (0, .fieldref 2 23), (0, .nameAndType 24 25), (0, u "uncounted"), (0, u "[Z"), (0, .fieldref 2 27), (0, .nameAndType 28 29), (0, u "counts"), (0, u "[I"), (0, .fieldref 2 31), (0, .nameAndType 32 33), (0, u "ceiling"), (0, u "Lcom/example/adlim/adlim/client/CeilingQueue;"), (2, u "add"), (0, u "(Lcom/example/adlim/adlim/client/Waiter;Z)V"), (0, .fieldref 2 39), (0, .nameAndType 40 41), (0, u "tail"), (0, u "I"), (3, .methodref 12 46), (0, .nameAndType 47 48), (0, u "order"), (0, u "()J"), (0, .methodref 2 50), (0, .nameAndType 51 52), (0, u "change"), (0, u "(II)V"), (0, .fieldref 2 54), (0, .nameAndType 55 41), (0, u "size"), (6, .fieldref 2 63), (0, .nameAndType 64 41), (0, u "head"), (2, u "peek"), (0, u "()Lcom/example/adlim/adlim/client/Waiter;"), (7, .methodref 2 77), (0, .nameAndType 78 79), (0, u "take"), (0, u "(I)V"), (0, .methodref 2 81), (0, .nameAndType 82 83), (0, u "slotOf"), (0, u "(Lcom/example/adlim/adlim/client/Waiter;)I"), (0, .fieldref 2 85), (0, .nameAndType 86 41), (0, u "counted"), (0, .methodref 2 88), (0, .nameAndType 89 90), (0, u "slotFrom"), (0, u "(J)I"), (0, .class_ 92), (0, u "com/example/adlim/adlim/client/WaiterQueue$1"), (6, .class_ 100), (0, u "java/lang/Iterable"), (0, u "FIRST_CAPACITY"), (4, u "(Lcom/example/adlim/adlim/client/Waiter;)V"), (4, u "()I"), (1, u "withdraw")] 17

def k5m0 : Method := { name := "<init>", desc := "()V", sig := { parameters := [], returnType := none }, accessFlags := 0, code := none }
def k5c1 : Code := { maxStack := 2, maxLocals := 2, code := prog_63_method_2_code, exceptionTable := #[], attributes := #[] }
def k5m1 : Method := { name := "<init>", desc := "(Lcom/example/adlim/adlim/client/CeilingQueue;)V", sig := { parameters := [(.object "com/example/adlim/adlim/client/CeilingQueue")], returnType := none }, accessFlags := 0, code := some k5c1 }
def k5c2 : Code := { maxStack := 4, maxLocals := 3, code := prog_63_method_4_code, exceptionTable := #[], attributes := #[] }
def k5m2 : Method := { name := "add", desc := "(Lcom/example/adlim/adlim/client/Waiter;Z)V", sig := { parameters := [(.object "com/example/adlim/adlim/client/Waiter"), .boolean], returnType := none }, accessFlags := 0, code := some k5c2 }
def k5c3 : Code := { maxStack := 1, maxLocals := 1, code := prog_63_method_6_code, exceptionTable := #[], attributes := #[] }
def k5m3 : Method := { name := "size", desc := "()I", sig := { parameters := [], returnType := some .int }, accessFlags := 0, code := some k5c3 }
def k5c4 : Code := { maxStack := 3, maxLocals := 1, code := prog_63_method_7_code, exceptionTable := #[], attributes := #[] }
def k5m4 : Method := { name := "peek", desc := "()Lcom/example/adlim/adlim/client/Waiter;", sig := { parameters := [], returnType := some (.object "com/example/adlim/adlim/client/Waiter") }, accessFlags := 0, code := some k5c4 }
def k5c5 : Code := { maxStack := 2, maxLocals := 3, code := prog_63_method_9_code, exceptionTable := #[], attributes := #[] }
def k5m5 : Method := { name := "withdraw", desc := "(Lcom/example/adlim/adlim/client/Waiter;)V", sig := { parameters := [(.object "com/example/adlim/adlim/client/Waiter")], returnType := none }, accessFlags := 0, code := some k5c5 }
def k5c6 : Code := { maxStack := 3, maxLocals := 3, code := prog_63_method_14_code, exceptionTable := #[], attributes := #[] }
def k5m6 : Method := { name := "slotOf", desc := "(Lcom/example/adlim/adlim/client/Waiter;)I", sig := { parameters := [(.object "com/example/adlim/adlim/client/Waiter")], returnType := some .int }, accessFlags := 2, code := some k5c6 }
def k5c7 : Code := { maxStack := 4, maxLocals := 6, code := prog_63_method_15_code, exceptionTable := #[], attributes := #[] }
def k5m7 : Method := { name := "slotFrom", desc := "(J)I", sig := { parameters := [.long], returnType := some .int }, accessFlags := 2, code := some k5c7 }
def k5c8 : Code := { maxStack := 3, maxLocals := 3, code := prog_63_method_16_code, exceptionTable := #[], attributes := #[] }
def k5m8 : Method := { name := "take", desc := "(I)V", sig := { parameters := [.int], returnType := none }, accessFlags := 2, code := some k5c8 }
def k5c9 : Code := { maxStack := 4, maxLocals := 4, code := prog_63_method_17_code, exceptionTable := #[], attributes := #[] }
def k5m9 : Method := { name := "change", desc := "(II)V", sig := { parameters := [.int, .int], returnType := none }, accessFlags := 2, code := some k5c9 }
/-- com/example/adlim/adlim/client/WaiterQueue -/
def k5 : Class := { plain "com/example/adlim/adlim/client/WaiterQueue" (some 0) with
  accessFlags := 48
  interfaces := #[4]
  cf := some (fileOf pool5 2 #[.nestMembers #[91]] #[{ accessFlags := 0, nameIndex := 5, descriptorIndex := 11, attributes := #[] }, { accessFlags := 0, nameIndex := 5, descriptorIndex := 6, attributes := #[] }, { accessFlags := 0, nameIndex := 36, descriptorIndex := 37, attributes := #[] }, { accessFlags := 0, nameIndex := 55, descriptorIndex := 111, attributes := #[] }, { accessFlags := 0, nameIndex := 67, descriptorIndex := 68, attributes := #[] }, { accessFlags := 0, nameIndex := 113, descriptorIndex := 106, attributes := #[] }, { accessFlags := 2, nameIndex := 82, descriptorIndex := 83, attributes := #[] }, { accessFlags := 2, nameIndex := 89, descriptorIndex := 90, attributes := #[] }, { accessFlags := 2, nameIndex := 78, descriptorIndex := 79, attributes := #[] }, { accessFlags := 2, nameIndex := 51, descriptorIndex := 52, attributes := #[] }] 48 8 #[99] #[{ accessFlags := 26, nameIndex := 101, descriptorIndex := 41, attributes := #[] }, { accessFlags := 18, nameIndex := 32, descriptorIndex := 33, attributes := #[] }, { accessFlags := 2, nameIndex := 16, descriptorIndex := 17, attributes := #[] }, { accessFlags := 2, nameIndex := 20, descriptorIndex := 21, attributes := #[] }, { accessFlags := 2, nameIndex := 24, descriptorIndex := 25, attributes := #[] }, { accessFlags := 2, nameIndex := 28, descriptorIndex := 29, attributes := #[] }, { accessFlags := 2, nameIndex := 64, descriptorIndex := 41, attributes := #[] }, { accessFlags := 2, nameIndex := 40, descriptorIndex := 41, attributes := #[] }, { accessFlags := 2, nameIndex := 55, descriptorIndex := 41, attributes := #[] }, { accessFlags := 2, nameIndex := 86, descriptorIndex := 41, attributes := #[] }])
  fields := #[{ name := "FIRST_CAPACITY", type := .int, accessFlags := 26, slot := 0, constantValue := 0 }, { name := "ceiling", type := (.object "com/example/adlim/adlim/client/CeilingQueue"), accessFlags := 18, slot := 0, constantValue := 0 }, { name := "waiters", type := (.array (.object "com/example/adlim/adlim/client/Waiter")), accessFlags := 2, slot := 1, constantValue := 0 }, { name := "orders", type := (.array .long), accessFlags := 2, slot := 2, constantValue := 0 }, { name := "uncounted", type := (.array .boolean), accessFlags := 2, slot := 3, constantValue := 0 }, { name := "counts", type := (.array .int), accessFlags := 2, slot := 4, constantValue := 0 }, { name := "head", type := .int, accessFlags := 2, slot := 5, constantValue := 0 }, { name := "tail", type := .int, accessFlags := 2, slot := 6, constantValue := 0 }, { name := "size", type := .int, accessFlags := 2, slot := 7, constantValue := 0 }, { name := "counted", type := .int, accessFlags := 2, slot := 8, constantValue := 0 }]
  methods := #[k5m0, k5m1, k5m2, k5m3, k5m4, k5m5, k5m6, k5m7, k5m8, k5m9]
  instanceTypes := #[(.object "com/example/adlim/adlim/client/CeilingQueue"), (.array (.object "com/example/adlim/adlim/client/Waiter")), (.array .long), (.array .boolean), (.array .int), .int, .int, .int, .int]
  staticTypes := #[.int]
  resolved := Array.replicate 131 none
  statics := none }

def pool6 : Array CpInfo := pool [(1, u "java/lang/Cloneable"), (0, .class_ 1), (0, u "java/lang/Object"), (0, .class_ 3)] 3

/-- java/lang/Cloneable -/
def k6 : Class := { plain "java/lang/Cloneable" (some 0) with
  accessFlags := 1537
  interfaces := #[]
  cf := some (fileOf pool6 2 #[] #[] 1537 4 #[] #[])
  fields := #[]
  methods := #[]
  instanceTypes := #[]
  staticTypes := #[]
  resolved := Array.replicate 8 none
  statics := none }

def pool7 : Array CpInfo := pool [(1, u "java/io/Serializable"), (0, .class_ 1), (0, u "java/lang/Object"), (0, .class_ 3)] 3

/-- java/io/Serializable -/
def k7 : Class := { plain "java/io/Serializable" (some 0) with
  accessFlags := 1537
  interfaces := #[]
  cf := some (fileOf pool7 2 #[] #[] 1537 4 #[] #[])
  fields := #[]
  methods := #[]
  instanceTypes := #[]
  staticTypes := #[]
  resolved := Array.replicate 8 none
  statics := none }

/-- the primitive boolean -/
def k8 : Class := { plain "boolean" none with kind := .primitive 'Z', accessFlags := 0x411 }
/-- [Z -/
def k9 : Class := { plain "[Z" (some 0) with kind := .array 8 .boolean, interfaces := #[6, 7], accessFlags := 1041 }

/-- the primitive byte -/
def k10 : Class := { plain "byte" none with kind := .primitive 'B', accessFlags := 0x411 }
/-- [B -/
def k11 : Class := { plain "[B" (some 0) with kind := .array 10 .byte, interfaces := #[6, 7], accessFlags := 1041 }

/-- the primitive int -/
def k12 : Class := { plain "int" none with kind := .primitive 'I', accessFlags := 0x411 }
/-- [I -/
def k13 : Class := { plain "[I" (some 0) with kind := .array 12 .int, interfaces := #[6, 7], accessFlags := 1041 }

/-- the primitive long -/
def k14 : Class := { plain "long" none with kind := .primitive 'J', accessFlags := 0x411 }
/-- [J -/
def k15 : Class := { plain "[J" (some 0) with kind := .array 14 .long, interfaces := #[6, 7], accessFlags := 1041 }

/-- [Lcom/example/adlim/adlim/client/Waiter; -/
def k16 : Class := { plain "[Lcom/example/adlim/adlim/client/Waiter;" (some 0) with kind := .array 3 (.object "com/example/adlim/adlim/client/Waiter"), interfaces := #[6, 7], accessFlags := 1041 }

def heap : Heap := #[]
def classes : Array Class := #[k0, k1, k2, k3, k4, k5, k6, k7, k8, k9, k10, k11, k12, k13, k14, k15, k16]
def interned : List (Array UInt16 × Addr) := []
def slotsUsed : Nat := 0
def theMethod : MethodId := ⟨1, 1⟩
def args0 : Array Value := #[.int 511, .long 5]
def aboutOver (below : List Frame) : State where
  vm := { classes := classes, interned := interned.toArray }
  heap := heap
  slotsUsed := slotsUsed
  threads := #[{ frames := .invoking theMethod args0 :: below }]
def below0 : List Frame := [.native { method := ⟨0, 0⟩, args := #[] }]
def about1 : State := aboutOver below0
def p0 : Program := .bare "" "" ""
def e0 : Env := launch0.env 0 0 0
theorem w_frames : about1.frames = Frame.invoking theMethod args0 :: below0 := rfl
set_option maxRecDepth 65536 in
theorem w_args : argsFit about1.vm theMethod args0 = true := by decide +kernel
set_option maxRecDepth 65536 in
theorem w_heap : heapFits about1 = true := by decide +kernel
set_option maxRecDepth 65536 in
theorem w_runnable : about1.curStatus? = some .runnable := by decide +kernel
set_option maxRecDepth 65536 in
theorem w_alone : about1.alone = true := by decide +kernel
set_option maxRecDepth 65536 in
theorem w_named : about1.methodNamed? x = some theMethod := by decide +kernel
set_option maxRecDepth 65536 in
theorem w_hears : about1.hears theMethod below0 = true := by decide +kernel
set_option maxRecDepth 65536 in
theorem w_ripe : about1.ripe theMethod args0 below0 = true := by decide +kernel
theorem w_running : about1.status = .running := rfl
set_option maxRecDepth 65536 in
theorem w_room : about1.hasRoom e0.platform room_1 = true :=
  launch0.hasRoom_least _ room_1 (by decide +kernel) (by decide +kernel) (by decide +kernel) (by decide +kernel) (by decide +kernel) (by decide +kernel)
theorem allAtoms_all (ts : List Jvm.Cond) (a : Array Jvm.Value) (st : Jvm.State) : (allAtoms ts).before a st = ts.all (fun c => c.before a st) := by
  induction ts with
  | nil => rfl
  | cons c t ih =>
    show (Jvm.Cond.and c (allAtoms t)).before a st = _
    rw [Jvm.Cond.before_and, ih, List.all_cons]
def words1 : List Jvm.Cond := Jvm.Cond.code x code maxLocals ret :: tables_1
/-- a 'code' word, met by the world's own term for the bytes: nothing is compared byte by byte -/
theorem code_word {y : MethodName} {bytes : ByteArray} {mx : Nat} {rt : Option FieldType} {a : Array Value} {s : State} {m : MethodId} {meth : Method} {c : Code} (h1 : s.methodNamed? y = some m) (h2 : s.vm.method? m = some meth) (h3 : meth.code = some c) (h4 : c.code = bytes)
    (h5 : (c.maxLocals == mx && c.exceptionTable.isEmpty && decide (c.maxStack ≤ mostOperands) && decide (meth.sig.returnType = rt) && !meth.locks && decide (parseMethodDescriptor y.desc = some meth.sig)) = true) : (Jvm.Cond.code y bytes mx rt).before a s = true := by
  simp only [Bool.and_eq_true, beq_iff_eq, Bool.not_eq_true', decide_eq_true_eq] at h5
  obtain ⟨⟨⟨⟨⟨g1, g2⟩, g3⟩, g4⟩, g5⟩, g6⟩ := h5
  simp [Cond.before, Cond.holds, Cond.value, h1, h2, h3, h4, g1, g2, g3, g4, g5, g6]
def isCode : Jvm.Cond → Bool
  | .code _ _ _ _ => true
  | _ => false
theorem all_split {L : List Jvm.Cond} {P : Jvm.Cond → Bool} (h1 : L.all (fun c => isCode c || P c) = true) (h2 : ∀ c ∈ L.filter isCode, P c = true) : L.all P = true := by
  refine List.all_eq_true.mpr fun c hc => ?_
  have h := List.all_eq_true.mp h1 c hc
  rcases Bool.eq_false_or_eq_true (isCode c) with hi | hi
  · exact h2 c (List.mem_filter.mpr ⟨hc, hi⟩)
  · simpa [hi] using h
set_option maxRecDepth 65536 in
theorem w_c0 : (Jvm.Cond.code x code maxLocals ret).before args0 about1 = true := code_word (m := ⟨1, 1⟩) (meth := k1m1) (c := k1c1) (by decide +kernel) rfl rfl rfl (by decide +kernel)
set_option maxRecDepth 65536 in
theorem w_c1 : (Jvm.Cond.code ({ cls := "com/example/adlim/adlim/client/Waiter", name := "<init>", desc := "(Ljava/util/concurrent/CompletableFuture;Lcom/example/adlim/adlim/client/Demand;JJ)V" } : Jvm.MethodName) prog_62_method_1_code (7 : Nat) (Option.none : Option Jvm.ClassFile.FieldType)).before args0 about1 = true := code_word (m := ⟨3, 0⟩) (meth := k3m0) (c := k3c0) (by decide +kernel) rfl rfl rfl (by decide +kernel)
set_option maxRecDepth 65536 in
theorem w_c2 : (Jvm.Cond.code ({ cls := "java/lang/Record", name := "<init>", desc := "()V" } : Jvm.MethodName) jdk_30_method_1_code (1 : Nat) (Option.none : Option Jvm.ClassFile.FieldType)).before args0 about1 = true := code_word (m := ⟨2, 0⟩) (meth := k2m0) (c := k2c0) (by decide +kernel) rfl rfl rfl (by decide +kernel)
set_option maxRecDepth 65536 in
theorem w_c3 : (Jvm.Cond.code ({ cls := "java/lang/Object", name := "<init>", desc := "()V" } : Jvm.MethodName) object_method_1_code (1 : Nat) (Option.none : Option Jvm.ClassFile.FieldType)).before args0 about1 = true := code_word (m := ⟨0, 0⟩) (meth := k0m0) (c := k0c0) (by decide +kernel) rfl rfl rfl (by decide +kernel)
set_option maxRecDepth 65536 in
theorem w_c4 : (Jvm.Cond.code ({ cls := "com/example/adlim/adlim/client/WaiterQueue", name := "<init>", desc := "(Lcom/example/adlim/adlim/client/CeilingQueue;)V" } : Jvm.MethodName) prog_63_method_2_code (2 : Nat) (Option.none : Option Jvm.ClassFile.FieldType)).before args0 about1 = true := code_word (m := ⟨5, 1⟩) (meth := k5m1) (c := k5c1) (by decide +kernel) rfl rfl rfl (by decide +kernel)
set_option maxRecDepth 65536 in
theorem w_c5 : (Jvm.Cond.code ({ cls := "com/example/adlim/adlim/client/WaiterQueuePeekPinLaw", name := "first", desc := "(ZZZLcom/example/adlim/adlim/client/Waiter;Lcom/example/adlim/adlim/client/Waiter;Lcom/example/adlim/adlim/client/Waiter;)Lcom/example/adlim/adlim/client/Waiter;" } : Jvm.MethodName) method_3_code (6 : Nat) (Option.some (Jvm.ClassFile.FieldType.object "com/example/adlim/adlim/client/Waiter"))).before args0 about1 = true := code_word (m := ⟨1, 2⟩) (meth := k1m2) (c := k1c2) (by decide +kernel) rfl rfl rfl (by decide +kernel)
set_option maxRecDepth 65536 in
theorem w_c6 : (Jvm.Cond.code ({ cls := "com/example/adlim/adlim/client/WaiterQueue", name := "peek", desc := "()Lcom/example/adlim/adlim/client/Waiter;" } : Jvm.MethodName) prog_63_method_7_code (1 : Nat) (Option.some (Jvm.ClassFile.FieldType.object "com/example/adlim/adlim/client/Waiter"))).before args0 about1 = true := code_word (m := ⟨5, 4⟩) (meth := k5m4) (c := k5c4) (by decide +kernel) rfl rfl rfl (by decide +kernel)
set_option maxRecDepth 65536 in
theorem w_c7 : (Jvm.Cond.code ({ cls := "com/example/adlim/adlim/client/WaiterQueue", name := "size", desc := "()I" } : Jvm.MethodName) prog_63_method_6_code (1 : Nat) (Option.some Jvm.ClassFile.FieldType.int)).before args0 about1 = true := code_word (m := ⟨5, 3⟩) (meth := k5m3) (c := k5c3) (by decide +kernel) rfl rfl rfl (by decide +kernel)
set_option maxRecDepth 65536 in
theorem w_c8 : (Jvm.Cond.code ({ cls := "com/example/adlim/adlim/client/WaiterQueue", name := "add", desc := "(Lcom/example/adlim/adlim/client/Waiter;Z)V" } : Jvm.MethodName) prog_63_method_4_code (3 : Nat) (Option.none : Option Jvm.ClassFile.FieldType)).before args0 about1 = true := code_word (m := ⟨5, 2⟩) (meth := k5m2) (c := k5c2) (by decide +kernel) rfl rfl rfl (by decide +kernel)
set_option maxRecDepth 65536 in
theorem w_c9 : (Jvm.Cond.code ({ cls := "com/example/adlim/adlim/client/Waiter", name := "order", desc := "()J" } : Jvm.MethodName) prog_62_method_8_code (1 : Nat) (Option.some Jvm.ClassFile.FieldType.long)).before args0 about1 = true := code_word (m := ⟨3, 1⟩) (meth := k3m1) (c := k3c1) (by decide +kernel) rfl rfl rfl (by decide +kernel)
set_option maxRecDepth 65536 in
theorem w_c10 : (Jvm.Cond.code ({ cls := "com/example/adlim/adlim/client/WaiterQueue", name := "change", desc := "(II)V" } : Jvm.MethodName) prog_63_method_17_code (4 : Nat) (Option.none : Option Jvm.ClassFile.FieldType)).before args0 about1 = true := code_word (m := ⟨5, 9⟩) (meth := k5m9) (c := k5c9) (by decide +kernel) rfl rfl rfl (by decide +kernel)
set_option maxRecDepth 65536 in
theorem w_c11 : (Jvm.Cond.code ({ cls := "com/example/adlim/adlim/client/WaiterQueue", name := "withdraw", desc := "(Lcom/example/adlim/adlim/client/Waiter;)V" } : Jvm.MethodName) prog_63_method_9_code (3 : Nat) (Option.none : Option Jvm.ClassFile.FieldType)).before args0 about1 = true := code_word (m := ⟨5, 5⟩) (meth := k5m5) (c := k5c5) (by decide +kernel) rfl rfl rfl (by decide +kernel)
set_option maxRecDepth 65536 in
theorem w_c12 : (Jvm.Cond.code ({ cls := "com/example/adlim/adlim/client/WaiterQueue", name := "slotOf", desc := "(Lcom/example/adlim/adlim/client/Waiter;)I" } : Jvm.MethodName) prog_63_method_14_code (3 : Nat) (Option.some Jvm.ClassFile.FieldType.int)).before args0 about1 = true := code_word (m := ⟨5, 6⟩) (meth := k5m6) (c := k5c6) (by decide +kernel) rfl rfl rfl (by decide +kernel)
set_option maxRecDepth 65536 in
theorem w_c13 : (Jvm.Cond.code ({ cls := "com/example/adlim/adlim/client/WaiterQueue", name := "slotFrom", desc := "(J)I" } : Jvm.MethodName) prog_63_method_15_code (6 : Nat) (Option.some Jvm.ClassFile.FieldType.int)).before args0 about1 = true := code_word (m := ⟨5, 7⟩) (meth := k5m7) (c := k5c7) (by decide +kernel) rfl rfl rfl (by decide +kernel)
set_option maxRecDepth 65536 in
theorem w_c14 : (Jvm.Cond.code ({ cls := "com/example/adlim/adlim/client/WaiterQueue", name := "take", desc := "(I)V" } : Jvm.MethodName) prog_63_method_16_code (3 : Nat) (Option.none : Option Jvm.ClassFile.FieldType)).before args0 about1 = true := code_word (m := ⟨5, 8⟩) (meth := k5m8) (c := k5c8) (by decide +kernel) rfl rfl rfl (by decide +kernel)
def codes1 : List Jvm.Cond := [Jvm.Cond.code x code maxLocals ret, Jvm.Cond.code ({ cls := "com/example/adlim/adlim/client/Waiter", name := "<init>", desc := "(Ljava/util/concurrent/CompletableFuture;Lcom/example/adlim/adlim/client/Demand;JJ)V" } : Jvm.MethodName) prog_62_method_1_code (7 : Nat) (Option.none : Option Jvm.ClassFile.FieldType), Jvm.Cond.code ({ cls := "java/lang/Record", name := "<init>", desc := "()V" } : Jvm.MethodName) jdk_30_method_1_code (1 : Nat) (Option.none : Option Jvm.ClassFile.FieldType), Jvm.Cond.code ({ cls := "java/lang/Object", name := "<init>", desc := "()V" } : Jvm.MethodName) object_method_1_code (1 : Nat) (Option.none : Option Jvm.ClassFile.FieldType), Jvm.Cond.code ({ cls := "com/example/adlim/adlim/client/WaiterQueue", name := "<init>", desc := "(Lcom/example/adlim/adlim/client/CeilingQueue;)V" } : Jvm.MethodName) prog_63_method_2_code (2 : Nat) (Option.none : Option Jvm.ClassFile.FieldType), Jvm.Cond.code ({ cls := "com/example/adlim/adlim/client/WaiterQueuePeekPinLaw", name := "first", desc := "(ZZZLcom/example/adlim/adlim/client/Waiter;Lcom/example/adlim/adlim/client/Waiter;Lcom/example/adlim/adlim/client/Waiter;)Lcom/example/adlim/adlim/client/Waiter;" } : Jvm.MethodName) method_3_code (6 : Nat) (Option.some (Jvm.ClassFile.FieldType.object "com/example/adlim/adlim/client/Waiter")), Jvm.Cond.code ({ cls := "com/example/adlim/adlim/client/WaiterQueue", name := "peek", desc := "()Lcom/example/adlim/adlim/client/Waiter;" } : Jvm.MethodName) prog_63_method_7_code (1 : Nat) (Option.some (Jvm.ClassFile.FieldType.object "com/example/adlim/adlim/client/Waiter")), Jvm.Cond.code ({ cls := "com/example/adlim/adlim/client/WaiterQueue", name := "size", desc := "()I" } : Jvm.MethodName) prog_63_method_6_code (1 : Nat) (Option.some Jvm.ClassFile.FieldType.int), Jvm.Cond.code ({ cls := "com/example/adlim/adlim/client/WaiterQueue", name := "add", desc := "(Lcom/example/adlim/adlim/client/Waiter;Z)V" } : Jvm.MethodName) prog_63_method_4_code (3 : Nat) (Option.none : Option Jvm.ClassFile.FieldType), Jvm.Cond.code ({ cls := "com/example/adlim/adlim/client/Waiter", name := "order", desc := "()J" } : Jvm.MethodName) prog_62_method_8_code (1 : Nat) (Option.some Jvm.ClassFile.FieldType.long), Jvm.Cond.code ({ cls := "com/example/adlim/adlim/client/WaiterQueue", name := "change", desc := "(II)V" } : Jvm.MethodName) prog_63_method_17_code (4 : Nat) (Option.none : Option Jvm.ClassFile.FieldType), Jvm.Cond.code ({ cls := "com/example/adlim/adlim/client/WaiterQueue", name := "withdraw", desc := "(Lcom/example/adlim/adlim/client/Waiter;)V" } : Jvm.MethodName) prog_63_method_9_code (3 : Nat) (Option.none : Option Jvm.ClassFile.FieldType), Jvm.Cond.code ({ cls := "com/example/adlim/adlim/client/WaiterQueue", name := "slotOf", desc := "(Lcom/example/adlim/adlim/client/Waiter;)I" } : Jvm.MethodName) prog_63_method_14_code (3 : Nat) (Option.some Jvm.ClassFile.FieldType.int), Jvm.Cond.code ({ cls := "com/example/adlim/adlim/client/WaiterQueue", name := "slotFrom", desc := "(J)I" } : Jvm.MethodName) prog_63_method_15_code (6 : Nat) (Option.some Jvm.ClassFile.FieldType.int), Jvm.Cond.code ({ cls := "com/example/adlim/adlim/client/WaiterQueue", name := "take", desc := "(I)V" } : Jvm.MethodName) prog_63_method_16_code (3 : Nat) (Option.none : Option Jvm.ClassFile.FieldType)]
set_option maxRecDepth 65536 in
theorem codes_eq : words1.filter isCode = codes1 := rfl
theorem w_codes : ∀ c ∈ words1.filter isCode, c.before args0 about1 = true := by
  rw [codes_eq]
  intro c hc
  simp only [codes1, List.mem_cons, List.not_mem_nil, or_false] at hc
  rcases hc with rfl | rfl | rfl | rfl | rfl | rfl | rfl | rfl | rfl | rfl | rfl | rfl | rfl | rfl | rfl
  · exact w_c0
  · exact w_c1
  · exact w_c2
  · exact w_c3
  · exact w_c4
  · exact w_c5
  · exact w_c6
  · exact w_c7
  · exact w_c8
  · exact w_c9
  · exact w_c10
  · exact w_c11
  · exact w_c12
  · exact w_c13
  · exact w_c14
set_option maxRecDepth 65536 in
theorem w_t1 : (words1.take 24).all (fun c => isCode c || c.before args0 about1) = true := by decide +kernel
set_option maxRecDepth 65536 in
theorem w_t2 : ((words1.drop 24).take 24).all (fun c => isCode c || c.before args0 about1) = true := by decide +kernel
set_option maxRecDepth 65536 in
theorem w_t3 : (((words1.drop 24).drop 24).take 24).all (fun c => isCode c || c.before args0 about1) = true := by decide +kernel
set_option maxRecDepth 65536 in
theorem w_t4 : ((((words1.drop 24).drop 24).drop 24).take 24).all (fun c => isCode c || c.before args0 about1) = true := by decide +kernel
set_option maxRecDepth 65536 in
theorem w_t5 : ((((words1.drop 24).drop 24).drop 24).drop 24).all (fun c => isCode c || c.before args0 about1) = true := by decide +kernel
theorem w_tables : (allAtoms (Jvm.Cond.code x code maxLocals ret :: tables_1)).before args0 about1 = true := by
  rw [allAtoms_all]
  show words1.all (fun c => c.before args0 about1) = true
  refine all_split ?_ w_codes
  rw [← List.take_append_drop 24 words1, List.all_append, w_t1, ← List.take_append_drop 24 (words1.drop 24), List.all_append, w_t2, ← List.take_append_drop 24 ((words1.drop 24).drop 24), List.all_append, w_t3, ← List.take_append_drop 24 (((words1.drop 24).drop 24).drop 24), List.all_append, w_t4, w_t5]
  rfl
set_option maxRecDepth 65536 in
theorem w_case : (Jvm.Cond.and given_1 narrow_1).before args0 about1 = true := by decide +kernel
theorem w_applies : (headSpec (Jvm.Cond.code x code maxLocals ret :: tables_1) room_1).applies x e0.platform about1 = true :=
  (Spec.applies_iff w_frames).mpr ⟨w_running, w_runnable, w_alone, w_named, w_hears, w_ripe, w_room, w_tables⟩
theorem atStart : AtStart classFile x code maxLocals ret World_1 tables_1 room_1 Calls_1 rest_1 Pre_1 launch0 p0 e0 about1 theMethod args0 below0 :=
  ⟨lists_1, trivial, launch0.admits_env _ _ _, launch0.least_env, fairChoices_fair.cas, fairChoices_fair.clock, w_frames, w_args, w_heap, w_applies, trivial, trivial, w_case⟩
end start1
theorem witness_1 : WitnessClaimed_1 := ⟨start1.p0, start1.e0, start1.about1, start1.theMethod, start1.args0, start1.below0, start1.atStart⟩
end Jvm.Pilot.@@N@@
