import JvmDerived
import JvmDerived.Pilot.@@N@@Statement
import JvmDerived.Pilot.@@N@@Code
set_option linter.unusedVariables false
set_option linter.unusedSimpArgs false
namespace Jvm.Pilot.@@N@@
open Jvm Jvm.ClassFile Sem Op Lib Jvm.Free Jvm.Stand Jvm.LawKit Jvm.RoadKit Bundle Jvm.Pilot.@@N@@.Jvm.D
/-- the run from S ends as G says -/
def own_Fin (p : Program) (e : Env) (below : List Frame) (G : Outcome → State → Prop) (S : State) : Prop :=
  ∃ t o, Steps p.tables e below S t ∧ t.status = .running ∧ Ended t below o ∧ G o t
theorem own_go {p : Program} {e : Env} {below : List Frame} {G : Outcome → State → Prop} {S S' : State} (h : Steps p.tables e below S S') (k : own_Fin p e below G S') : own_Fin p e below G S := by
  obtain ⟨t, o, h1, h2, h3, h4⟩ := k
  exact ⟨t, o, h.trans h1, h2, h3, h4⟩
theorem own_by {p : Program} {e : Env} {below : List Frame} {G : Outcome → State → Prop} {S S' : State} (h : ∀ t, Steps p.tables e below S' t → Steps p.tables e below S t) (k : own_Fin p e below G S') : own_Fin p e below G S := by
  obtain ⟨t, o, h1, h2, h3, h4⟩ := k
  exact ⟨t, o, h t h1, h2, h3, h4⟩
theorem own_done {p : Program} {e : Env} {below : List Frame} {G : Outcome → State → Prop} {S t : State} {o : Outcome} (h1 : Steps p.tables e below S t) (h2 : t.status = .running) (h3 : Ended t below o) (h4 : G o t) : own_Fin p e below G S := ⟨t, o, h1, h2, h3, h4⟩
def own_get (rs : List Int32) (j : Int32) : Int32 := rs.getD j.toNatClampNeg 0
theorem own_getD (rs : List Int32) (j : Int32) : (rs.map Value.int).getD j.toNatClampNeg (.int (0 : Int32)) = .int (own_get rs j) := by
  unfold own_get
  rw [List.getD_eq_getElem?_getD, List.getD_eq_getElem?_getD, List.getElem?_map]
  cases rs[j.toNatClampNeg]? <;> rfl
theorem own_retI {p : Program} {l : Launch} {e : Env} {R : Room} {s : State} {m : MethodId} {args : Array Value} {below : List Frame} {meth : Method} {c : Code} {T : State} {locs : List Loc} {cells slots : Nat} (X : Stand p l e R s m args below meth c T locs cells slots) (hx : p.tables.exec = Jvm.exec) {pc : Nat} {Ls : Array Slot} {z : Int32} {rest : List Value} (hret : meth.sig.returnType = some .int) (hd : decode c.code pc = .ok (.ireturn, 1)) {fs : List Frame}
    (hl : ∀ (f : JFrame) (acts : List Action), f.method = m → f.locked = none → f.entered = [] → (doReturn e (T.setTop f) acts (some (.int z))).1 = T.setFrames fs) : Steps p.tables e below (T.setTop (mkF m pc Ls (.int z :: rest))) (T.setFrames fs) :=
  retOut X hx hret rfl (Or.inl ⟨rfl, Or.inl rfl, z, rfl⟩) hd hl
def own_comb (op acc r : Int32) : Int32 := if op = (38 : Int32) then (if acc = 0 then 0 else if r = 0 then 0 else 1) else (if acc = 0 then (if r = 0 then 0 else 1) else 1)
def own_fold (op : Int32) (rs : List Int32) : Nat → Int32 → Int32 → Int32
  | 0, _, acc => acc
  | d + 1, i, acc => own_fold op rs d (i + (1 : Int32)) (own_comb op acc (own_get rs i))
def own_not (op acc : Int32) : Int32 := if op = (33 : Int32) then (if acc = 0 then 1 else 0) else acc
def own_val (op : Int32) (rs : List Int32) (d : Nat) (st : Int32) : Int32 := nar .boolean (own_not op (own_fold op rs d (st + (1 : Int32)) (own_get rs st)))
def own_bit (b m : Int32) : Int32 := if (b &&& m) = (0 : Int32) then (0 : Int32) else 1
def own_op (k : Int32) : Int32 := if k = (0 : Int32) then (38 : Int32) else if k = (1 : Int32) then (124 : Int32) else (33 : Int32)
def own_rs (b : Int32) : List Int32 := [own_bit b 1, own_bit b 2, own_bit b 4, own_bit b 8, own_bit b 16, own_bit b 32, own_bit b 64, own_bit b 128]
def own_exp (k ops mask : Int32) : Int32 := if k = (0 : Int32) then (if ops = mask then 1 else 0) else if k = (1 : Int32) then (if ops = 0 then 0 else 1) else (if ops = 0 then 1 else 0)
theorem own_nbit (b m : Int32) : nar .boolean (own_bit b m) = own_bit b m := by unfold own_bit; split <;> rfl
theorem own_inc {i top : Int32} {d : Nat} (h : top.toInt = i.toInt + (d + 1 : Nat)) : (i + (1 : Int32)).toInt = i.toInt + 1 := by
  have h1 := c_iadd i 1
  have h2 := rng32 top; have h3 := rng32 (i + (1 : Int32)); have h4 := rng32 i
  have h5 : (1 : Int32).toInt = 1 := rfl
  rw [h5] at h1; omega
theorem own_in {i n : Int32} (h0 : 0 ≤ i.toInt) (h1 : i.toInt < n.toInt) : ¬ i < 0 ∧ i < n := by
  rw [Int32.lt_iff_toInt_lt, Int32.lt_iff_toInt_lt]; refine ⟨?_, h1⟩
  have : (0 : Int32).toInt = 0 := rfl
  omega
theorem own_clamp {i : Int32} {k : Nat} (h0 : 0 ≤ i.toInt) (h1 : i.toInt < k) : i.toNatClampNeg < k := by unfold Int32.toNatClampNeg; omega
theorem d2_0 : decode jdk_30_method_1_code 0 = .ok (.aload_n 0, 1) := by decide +kernel
theorem d2_1 : decode jdk_30_method_1_code 1 = .ok (.invokespecial 1, 3) := by decide +kernel
theorem d2_4 : decode jdk_30_method_1_code 4 = .ok (.return_, 1) := by decide +kernel
theorem pn_java_lang_Record : plainName "java/lang/Record" = true := by first | (simp [plainName, overriddenIn]; done) | decide +kernel
theorem ef_2 (m : MethodId) (x0 : Addr) : entryFrame m #[(.ref x0)] 1 = mkF m 0 #[.val (.ref x0)] [] := by first | (simp [entryFrame, mkF, argsToLocals, Value.category]; done) | rfl
def Q2 (Z : State) (a1 : Addr) (h0 : Heap) (n0 : Nat) (v : Option Value) (h : Heap) (L : List Loc) : Prop := v = none ∧ Fr n0 L ∧ h = h0
abbrev G2 (Z : State) (a1 : Addr) (h0 : Heap) (n0 : Nat) (s : State) : Outcome → State → Prop := fun o U' => ∃ v L, o = .returned v ∧ Q2 Z a1 h0 n0 v U'.heap L ∧ FrameEnd s o U' L ({ frames := 1, cells := 0, slots := 0, locals := 12 } : Room).cells ({ frames := 1, cells := 0, slots := 0, locals := 12 } : Room).slots
set_option maxRecDepth 65536 in
set_option maxHeartbeats 40000000 in
theorem rm2 (l : Launch) (Z : State) (a0 : Array Value) (hw : ∀ d ∈ tables_1, d.before a0 Z = true) (ws : List Jvm.Cond) (a1 : Addr) (h0 : Heap) (n0 : Nat) (Z0 : n0 ≤ h0.size)  :
    MetFree l (⟨"java/lang/Record", "<init>", "()V"⟩ : MethodName) (head1 (Jvm.Cond.code (⟨"java/lang/Record", "<init>", "()V"⟩ : MethodName) jdk_30_method_1_code 1 none :: ws) ({ frames := 1, cells := 0, slots := 0, locals := 12 } : Room)) (fun a U => a = #[(.ref a1)] ∧ Z.Warmed39 U.vm ∧ U.heap = h0) (fun _ _ _ _ _ => True) (fun _ U o U' => ∃ v L, o = .returned v ∧ Q2 Z a1 h0 n0 v U'.heap L ∧ FrameEnd U o U' L ({ frames := 1, cells := 0, slots := 0, locals := 12 } : Room).cells ({ frames := 1, cells := 0, slots := 0, locals := 12 } : Room).slots) := by
  refine MetFree.of_bodySF (plainFor_of_name pn_java_lang_Record) hisR ?_
  intro p e s m args below meth c s₁ Bd hml0 hP hK
  obtain ⟨rfl, hZ, hh⟩ := hP
  have hx := Bd.exec
  have hby := Bd.bytes
  have hml : c.maxLocals = 1 := hml0
  have hown : s.vm.findClass "java/lang/Record" = some m.cls := findClass_of_methodNamed Bd.named
  have hnm := (name_of_methodNamed Bd.named Bd.method).1
  have X0 : Stand p l e ({ frames := 1, cells := 0, slots := 0, locals := 12 } : Room) s m #[(.ref a1)] below meth c s₁ [] 0 0 := Stand.of_body Bd
  have e0 : s₁.heap = h0 := by rw [← hh, Bd.state]; rfl
  have es0 : s.heap = h0 := hh
  have N0 := Fr.nil n0
  show own_Fin p e below (G2 Z a1 h0 n0 s) (s₁.setTop (entryFrame m #[(.ref a1)] 1))
  rw [ef_2 m a1]
  refine own_go (XS.aloadN X0.here hx rfl (hb hby d2_0) rfl rfl (Steps.refl _)) ?_
  show own_Fin _ _ _ _ (s₁.setTop (mkF m 1 #[.val (.ref a1)] [(.ref a1)]))
  obtain ⟨T1, X1, e1, st1⟩ := initO X0 hx hZ hown (hw _ (List.mem_of_getElem? (i := 13) rfl)) (hw _ (List.mem_of_getElem? (i := 14) rfl)) (hw _ (List.mem_of_getElem? (i := 15) rfl)) e0 (g := (mkF m 1 #[.val (.ref a1)] [(.ref a1)])) rfl (by rw [hml]; rfl) rfl (hb hby d2_1) (by decide) (W := 0) (by show 2 * 0 + _ ≤ _; exact Nat.le_of_eq rfl) (by decide)
  refine own_by st1 ?_
  show own_Fin _ _ _ _ (T1.setTop (mkF m 4 #[.val (.ref a1)] []))
  obtain ⟨fs2, hr2, hrun2, hended2, hW2, hsame2⟩ := X1.leave (v := none) (fun _ => rfl)
  refine own_done (X1.returnOut hx Bd.returns (hb hby d2_4) hr2) hrun2 hended2 ⟨_, _, rfl, ?_, ⟨_, rfl⟩, hW2, hsame2.mono (by decide) (by decide)⟩
  show Q2 Z a1 h0 n0 _ T1.heap _
  rw [e1]
  exact ⟨rfl, N0, rfl⟩
theorem d1_0 : decode prog_17_method_1_code 0 = .ok (.aload_n 0, 1) := by decide +kernel
theorem d1_1 : decode prog_17_method_1_code 1 = .ok (.invokespecial 1, 3) := by decide +kernel
theorem d1_4 : decode prog_17_method_1_code 4 = .ok (.aload_n 0, 1) := by decide +kernel
theorem d1_5 : decode prog_17_method_1_code 5 = .ok (.iload_n 1, 1) := by decide +kernel
theorem d1_6 : decode prog_17_method_1_code 6 = .ok (.putfield 7, 3) := by decide +kernel
theorem d1_9 : decode prog_17_method_1_code 9 = .ok (.aload_n 0, 1) := by decide +kernel
theorem d1_10 : decode prog_17_method_1_code 10 = .ok (.iload_n 2, 1) := by decide +kernel
theorem d1_11 : decode prog_17_method_1_code 11 = .ok (.putfield 13, 3) := by decide +kernel
theorem d1_14 : decode prog_17_method_1_code 14 = .ok (.return_, 1) := by decide +kernel
theorem pn_com_example_headwright_headwright_Filter_Composite : plainName "com/example/headwright/headwright/Filter$Composite" = true := by first | (simp [plainName, overriddenIn]; done) | decide +kernel
theorem ef_1 (m : MethodId) (x0 : Addr) (x1 : Int32) (x2 : Int32) : entryFrame m #[(.ref x0), (.int x1), (.int x2)] 3 = mkF m 0 #[.val (.ref x0), .val (.int x1), .val (.int x2)] [] := by first | (simp [entryFrame, mkF, argsToLocals, Value.category]; done) | rfl
def Q1 (Z : State) (a1 : Addr) (p2 : Int32) (p3 : Int32) (h0 : Heap) (n0 : Nat) (v : Option Value) (h : Heap) (L : List Loc) : Prop := v = none ∧ Fr n0 L ∧ Keep h0 h [a1] ∧ Exa Z h a1 "com/example/headwright/headwright/Filter$Composite" ∧ Fld Z h a1 "com/example/headwright/headwright/Filter$Composite" "operator" "C" (.int (nar .char p2)) ∧ Fld Z h a1 "com/example/headwright/headwright/Filter$Composite" "operands" "I" (.int p3)
abbrev G1 (Z : State) (a1 : Addr) (p2 : Int32) (p3 : Int32) (h0 : Heap) (n0 : Nat) (s : State) : Outcome → State → Prop := fun o U' => ∃ v L, o = .returned v ∧ Q1 Z a1 p2 p3 h0 n0 v U'.heap L ∧ FrameEnd s o U' L ({ frames := 2, cells := 0, slots := 0, locals := 24 } : Room).cells ({ frames := 2, cells := 0, slots := 0, locals := 24 } : Room).slots
theorem pd__28__29_V : parseMethodDescriptor "()V" = some ⟨[], none⟩ := by decide +kernel
set_option maxRecDepth 65536 in
set_option maxHeartbeats 40000000 in
theorem rm1 (l : Launch) (Z : State) (a0 : Array Value) (hw : ∀ d ∈ tables_1, d.before a0 Z = true) (ws : List Jvm.Cond) (a1 : Addr) (p2 : Int32) (p3 : Int32) (h0 : Heap) (n0 : Nat) (Z0 : n0 ≤ h0.size) (E_a1 : Exa Z h0 a1 "com/example/headwright/headwright/Filter$Composite") (F_operator_a1 : Fld Z h0 a1 "com/example/headwright/headwright/Filter$Composite" "operator" "C" (.int (0 : Int32))) (F_operands_a1 : Fld Z h0 a1 "com/example/headwright/headwright/Filter$Composite" "operands" "I" (.int (0 : Int32))) (g_a1 : n0 ≤ a1) :
    MetFree l (⟨"com/example/headwright/headwright/Filter$Composite", "<init>", "(CI)V"⟩ : MethodName) (head1 (Jvm.Cond.code (⟨"com/example/headwright/headwright/Filter$Composite", "<init>", "(CI)V"⟩ : MethodName) prog_17_method_1_code 3 none :: ws) ({ frames := 2, cells := 0, slots := 0, locals := 24 } : Room)) (fun a U => a = #[(.ref a1), (.int p2), (.int p3)] ∧ Z.Warmed39 U.vm ∧ U.heap = h0) (fun _ _ _ _ _ => True) (fun _ U o U' => ∃ v L, o = .returned v ∧ Q1 Z a1 p2 p3 h0 n0 v U'.heap L ∧ FrameEnd U o U' L ({ frames := 2, cells := 0, slots := 0, locals := 24 } : Room).cells ({ frames := 2, cells := 0, slots := 0, locals := 24 } : Room).slots) := by
  refine MetFree.of_bodySF (plainFor_of_name pn_com_example_headwright_headwright_Filter_Composite) hisR ?_
  intro p e s m args below meth c s₁ Bd hml0 hP hK
  obtain ⟨rfl, hZ, hh⟩ := hP
  have hx := Bd.exec
  have hby := Bd.bytes
  have hml : c.maxLocals = 3 := hml0
  have hown : s.vm.findClass "com/example/headwright/headwright/Filter$Composite" = some m.cls := findClass_of_methodNamed Bd.named
  have hnm := (name_of_methodNamed Bd.named Bd.method).1
  have X0 : Stand p l e ({ frames := 2, cells := 0, slots := 0, locals := 24 } : Room) s m #[(.ref a1), (.int p2), (.int p3)] below meth c s₁ [] 0 0 := Stand.of_body Bd
  have e0 : s₁.heap = h0 := by rw [← hh, Bd.state]; rfl
  have es0 : s.heap = h0 := hh
  have N0 := Fr.nil n0
  show own_Fin p e below (G1 Z a1 p2 p3 h0 n0 s) (s₁.setTop (entryFrame m #[(.ref a1), (.int p2), (.int p3)] 3))
  rw [ef_1 m a1 p2 p3]
  have Kz := Keep.refl h0 [a1]
  refine own_go (XS.aloadN X0.here hx rfl (hb hby d1_0) rfl rfl (Steps.refl _)) ?_
  show own_Fin _ _ _ _ (s₁.setTop (mkF m 1 #[.val (.ref a1), .val (.int p2), .val (.int p3)] [(.ref a1)]))
  obtain ⟨_, _, ⟨T3, L3, k3, n3⟩, -, X3, ⟨Lc3, hQ3, l3, y3, z3⟩, st3⟩ := X0.specialBack hx (y := (⟨"java/lang/Record", "<init>", "()V"⟩ : MethodName)) rfl hown (mvT hZ (hw _ (List.mem_of_getElem? (i := 8) rfl))) (mvT hZ (hw _ (List.mem_of_getElem? (i := 9) rfl))) (mvT hZ (hw _ (List.mem_of_getElem? (i := 12) rfl))) (by decide) (backOf (W := 0) (rm2 l Z a0 hw [] a1 h0 n0 Z0) hZ (hw _ (List.mem_of_getElem? (i := 12) rfl)) (hw _ (List.mem_of_getElem? (i := 11) rfl)) (by decide) (by decide)) (g := (mkF m 1 #[.val (.ref a1), .val (.int p2), .val (.int p3)] [(.ref a1)])) rfl (by rw [hml]; rfl) (Steps.refl _) (a := a1) (argsL := []) (rest := []) (lenOf pd__28__29_V rfl) rfl (by show 2 * 0 + _ ≤ _; exact Nat.le_of_eq rfl) (hb hby d1_1) (fun _ _ => ⟨rfl, e0, (by decide : 0 + 0 ≤ _), (by decide : 0 + 0 ≤ _)⟩)
  dsimp only [Pt.U, Pt.locs, Pt.cells, Pt.slots] at X3 l3 y3 z3 st3 hQ3
  subst l3 y3 z3
  obtain ⟨rfl, Nq3, e3⟩ := hQ3
  refine own_go st3 ?_
  have N3 := Fr.app N0 Nq3
  show own_Fin _ _ _ _ (T3.setTop (mkF m 4 #[.val (.ref a1), .val (.int p2), .val (.int p3)] []))
  refine own_go (XS.aloadN X3.here hx rfl (hb hby d1_4) rfl rfl (Steps.refl _)) ?_
  show own_Fin _ _ _ _ (T3.setTop (mkF m 5 #[.val (.ref a1), .val (.int p2), .val (.int p3)] [(.ref a1)]))
  refine own_go (XS.iloadN X3.here hx rfl (hb hby d1_5) rfl (Steps.refl _)) ?_
  show own_Fin _ _ _ _ (T3.setTop (mkF m 6 #[.val (.ref a1), .val (.int p2), .val (.int p3)] [(.int p2), (.ref a1)]))
  obtain ⟨T4, h4, X4, e4, W4, st4⟩ := putFN X3 hx hZ hown (hw _ (List.mem_of_getElem? (i := 16) rfl)) Via.refl e3 F_operator_a1 E_a1 (Or.inr ⟨(hw _ (List.mem_of_getElem? (i := 17) rfl)), rfl, hnm⟩) (hw _ (List.mem_of_getElem? (i := 3) rfl)) (ty := .char) (v' := (.int (nar .char p2))) (by decide) rfl (fits_nar_char _) (g := (mkF m 6 #[.val (.ref a1), .val (.int p2), .val (.int p3)] [(.int p2), (.ref a1)])) rfl rfl (hb hby d1_6)
  refine own_by st4 ?_
  have F_operator_a1_4 := F_operator_a1.same W4
  have E_a1_4 := E_a1.wr W4
  have F_operands_a1_4 := F_operands_a1.other W4 (Or.inr (slot_ne (Or.inr (hw _ (List.mem_of_getElem? (i := 19) rfl))) (Or.inr (hw _ (List.mem_of_getElem? (i := 17) rfl))) (by decide) (t := .int) (t' := .char) (by decide) (by decide)))
  have N4 := Fr.snoc X4 N3 g_a1
  have Z4 : n0 ≤ h4.size := Nat.le_trans Z0 (Keep.of_wr W4).1
  have K4 := Kz.wr W4 (Or.inl (List.mem_of_getElem? (i := 0) rfl))
  show own_Fin _ _ _ _ (T4.setTop (mkF m 9 #[.val (.ref a1), .val (.int p2), .val (.int p3)] []))
  refine own_go (XS.aloadN X4.here hx rfl (hb hby d1_9) rfl rfl (Steps.refl _)) ?_
  show own_Fin _ _ _ _ (T4.setTop (mkF m 10 #[.val (.ref a1), .val (.int p2), .val (.int p3)] [(.ref a1)]))
  refine own_go (XS.iloadN X4.here hx rfl (hb hby d1_10) rfl (Steps.refl _)) ?_
  show own_Fin _ _ _ _ (T4.setTop (mkF m 11 #[.val (.ref a1), .val (.int p2), .val (.int p3)] [(.int p3), (.ref a1)]))
  obtain ⟨T5, h5, X5, e5, W5, st5⟩ := putF X4 hx hZ hown (host := "") (Or.inl (hw _ (List.mem_of_getElem? (i := 18) rfl))) Via.refl e4 F_operands_a1_4 E_a1_4 (Or.inr ⟨(hw _ (List.mem_of_getElem? (i := 19) rfl)), rfl, hnm⟩) (hw _ (List.mem_of_getElem? (i := 3) rfl)) (ty := .int) (by decide) rfl rfl (g := (mkF m 11 #[.val (.ref a1), .val (.int p2), .val (.int p3)] [(.int p3), (.ref a1)])) rfl rfl (hb hby d1_11)
  refine own_by st5 ?_
  have F_operands_a1_5 := F_operands_a1_4.same W5
  have E_a1_5 := E_a1_4.wr W5
  have F_operator_a1_5 := F_operator_a1_4.other W5 (Or.inr (slot_ne (Or.inr (hw _ (List.mem_of_getElem? (i := 17) rfl))) (Or.inr (hw _ (List.mem_of_getElem? (i := 19) rfl))) (by decide) (t := .char) (t' := .int) (by decide) (by decide)))
  have N5 := Fr.snoc X5 N4 g_a1
  have Z5 : n0 ≤ h5.size := Nat.le_trans Z4 (Keep.of_wr W5).1
  have K5 := K4.wr W5 (Or.inl (List.mem_of_getElem? (i := 0) rfl))
  show own_Fin _ _ _ _ (T5.setTop (mkF m 14 #[.val (.ref a1), .val (.int p2), .val (.int p3)] []))
  obtain ⟨fs6, hr6, hrun6, hended6, hW6, hsame6⟩ := X5.leave (v := none) (fun _ => rfl)
  refine own_done (X5.returnOut hx Bd.returns (hb hby d1_14) hr6) hrun6 hended6 ⟨_, _, rfl, ?_, ⟨_, rfl⟩, hW6, hsame6.mono (by decide) (by decide)⟩
  show Q1 Z a1 p2 p3 h0 n0 _ T5.heap _
  rw [e5]
  exact ⟨rfl, N5, K5, E_a1_5, F_operator_a1_5, F_operands_a1_5⟩
theorem d4_0 : decode prog_17_method_2_code 0 = .ok (.iload_n 3, 1) := by decide +kernel
theorem d4_1 : decode prog_17_method_2_code 1 = .ok (.aload_n 0, 1) := by decide +kernel
theorem d4_2 : decode prog_17_method_2_code 2 = .ok (.getfield 13, 3) := by decide +kernel
theorem d4_5 : decode prog_17_method_2_code 5 = .ok (.isub, 1) := by decide +kernel
theorem d4_6 : decode prog_17_method_2_code 6 = .ok (.istore 4, 2) := by decide +kernel
theorem d4_8 : decode prog_17_method_2_code 8 = .ok (.aload_n 2, 1) := by decide +kernel
theorem d4_9 : decode prog_17_method_2_code 9 = .ok (.iload 4, 2) := by decide +kernel
theorem d4_11 : decode prog_17_method_2_code 11 = .ok (.baload, 1) := by decide +kernel
theorem d4_12 : decode prog_17_method_2_code 12 = .ok (.istore 5, 2) := by decide +kernel
theorem d4_14 : decode prog_17_method_2_code 14 = .ok (.iload 4, 2) := by decide +kernel
theorem d4_16 : decode prog_17_method_2_code 16 = .ok (.iconst 1, 1) := by decide +kernel
theorem d4_17 : decode prog_17_method_2_code 17 = .ok (.iadd, 1) := by decide +kernel
theorem d4_18 : decode prog_17_method_2_code 18 = .ok (.istore 6, 2) := by decide +kernel
theorem d4_20 : decode prog_17_method_2_code 20 = .ok (.iload 6, 2) := by decide +kernel
theorem d4_22 : decode prog_17_method_2_code 22 = .ok (.iload_n 3, 1) := by decide +kernel
theorem d4_23 : decode prog_17_method_2_code 23 = .ok (.if_icmp .ge 57, 3) := by decide +kernel
theorem d4_26 : decode prog_17_method_2_code 26 = .ok (.aload_n 0, 1) := by decide +kernel
theorem d4_27 : decode prog_17_method_2_code 27 = .ok (.getfield 7, 3) := by decide +kernel
theorem d4_30 : decode prog_17_method_2_code 30 = .ok (.bipush 38, 2) := by decide +kernel
theorem d4_32 : decode prog_17_method_2_code 32 = .ok (.if_icmp .ne 23, 3) := by decide +kernel
theorem d4_35 : decode prog_17_method_2_code 35 = .ok (.iload 5, 2) := by decide +kernel
theorem d4_37 : decode prog_17_method_2_code 37 = .ok (.ifCond .eq 14, 3) := by decide +kernel
theorem d4_40 : decode prog_17_method_2_code 40 = .ok (.aload_n 2, 1) := by decide +kernel
theorem d4_41 : decode prog_17_method_2_code 41 = .ok (.iload 6, 2) := by decide +kernel
theorem d4_43 : decode prog_17_method_2_code 43 = .ok (.baload, 1) := by decide +kernel
theorem d4_44 : decode prog_17_method_2_code 44 = .ok (.ifCond .eq 7, 3) := by decide +kernel
theorem d4_47 : decode prog_17_method_2_code 47 = .ok (.iconst 1, 1) := by decide +kernel
theorem d4_48 : decode prog_17_method_2_code 48 = .ok (.goto 24, 3) := by decide +kernel
theorem d4_51 : decode prog_17_method_2_code 51 = .ok (.iconst 0, 1) := by decide +kernel
theorem d4_52 : decode prog_17_method_2_code 52 = .ok (.goto 20, 3) := by decide +kernel
theorem d4_55 : decode prog_17_method_2_code 55 = .ok (.iload 5, 2) := by decide +kernel
theorem d4_57 : decode prog_17_method_2_code 57 = .ok (.ifCond .ne 10, 3) := by decide +kernel
theorem d4_60 : decode prog_17_method_2_code 60 = .ok (.aload_n 2, 1) := by decide +kernel
theorem d4_61 : decode prog_17_method_2_code 61 = .ok (.iload 6, 2) := by decide +kernel
theorem d4_63 : decode prog_17_method_2_code 63 = .ok (.baload, 1) := by decide +kernel
theorem d4_64 : decode prog_17_method_2_code 64 = .ok (.ifCond .eq 7, 3) := by decide +kernel
theorem d4_67 : decode prog_17_method_2_code 67 = .ok (.iconst 1, 1) := by decide +kernel
theorem d4_68 : decode prog_17_method_2_code 68 = .ok (.goto 4, 3) := by decide +kernel
theorem d4_71 : decode prog_17_method_2_code 71 = .ok (.iconst 0, 1) := by decide +kernel
theorem d4_72 : decode prog_17_method_2_code 72 = .ok (.istore 5, 2) := by decide +kernel
theorem d4_74 : decode prog_17_method_2_code 74 = .ok (.iinc 6 1, 3) := by decide +kernel
theorem d4_77 : decode prog_17_method_2_code 77 = .ok (.goto (-57), 3) := by decide +kernel
theorem d4_80 : decode prog_17_method_2_code 80 = .ok (.aload_n 2, 1) := by decide +kernel
theorem d4_81 : decode prog_17_method_2_code 81 = .ok (.iload 4, 2) := by decide +kernel
theorem d4_83 : decode prog_17_method_2_code 83 = .ok (.aload_n 0, 1) := by decide +kernel
theorem d4_84 : decode prog_17_method_2_code 84 = .ok (.getfield 7, 3) := by decide +kernel
theorem d4_87 : decode prog_17_method_2_code 87 = .ok (.bipush 33, 2) := by decide +kernel
theorem d4_89 : decode prog_17_method_2_code 89 = .ok (.if_icmp .ne 16, 3) := by decide +kernel
theorem d4_92 : decode prog_17_method_2_code 92 = .ok (.iload 5, 2) := by decide +kernel
theorem d4_94 : decode prog_17_method_2_code 94 = .ok (.ifCond .ne 7, 3) := by decide +kernel
theorem d4_97 : decode prog_17_method_2_code 97 = .ok (.iconst 1, 1) := by decide +kernel
theorem d4_98 : decode prog_17_method_2_code 98 = .ok (.goto 9, 3) := by decide +kernel
theorem d4_101 : decode prog_17_method_2_code 101 = .ok (.iconst 0, 1) := by decide +kernel
theorem d4_102 : decode prog_17_method_2_code 102 = .ok (.goto 5, 3) := by decide +kernel
theorem d4_105 : decode prog_17_method_2_code 105 = .ok (.iload 5, 2) := by decide +kernel
theorem d4_107 : decode prog_17_method_2_code 107 = .ok (.bastore, 1) := by decide +kernel
theorem d4_108 : decode prog_17_method_2_code 108 = .ok (.iload 4, 2) := by decide +kernel
theorem d4_110 : decode prog_17_method_2_code 110 = .ok (.iconst 1, 1) := by decide +kernel
theorem d4_111 : decode prog_17_method_2_code 111 = .ok (.iadd, 1) := by decide +kernel
theorem d4_112 : decode prog_17_method_2_code 112 = .ok (.ireturn, 1) := by decide +kernel
theorem ef_4 (m : MethodId) (x0 : Addr) (x2 : Addr) (x3 : Int32) : entryFrame m #[(.ref x0), .null, (.ref x2), (.int x3)] 7 = mkF m 0 #[.val (.ref x0), .val .null, .val (.ref x2), .val (.int x3), .unset, .unset, .unset] [] := by first | (simp [entryFrame, mkF, argsToLocals, Value.category]; done) | rfl
def Q4 (Z : State) (a1 : Addr) (a3 : Addr) (p4 : Int32) (op : Int32) (nn : Int32) (st : Int32) (dn : Nat) (k : ClassId) (rs : List Int32) (h0 : Heap) (n0 : Nat) (v : Option Value) (h : Heap) (L : List Loc) : Prop := v = some (.int (st + (1 : Int32))) ∧ Fr n0 L ∧ Keep h0 h [a3] ∧ Arv Z h a3 k .boolean (8 : Int32) (List.map Value.int (rs.set st.toNatClampNeg (own_val op rs dn st))) (.int (0 : Int32))
abbrev G4 (Z : State) (a1 : Addr) (a3 : Addr) (p4 : Int32) (op : Int32) (nn : Int32) (st : Int32) (dn : Nat) (k : ClassId) (rs : List Int32) (h0 : Heap) (n0 : Nat) (s : State) : Outcome → State → Prop := fun o U' => ∃ v L, o = .returned v ∧ Q4 Z a1 a3 p4 op nn st dn k rs h0 n0 v U'.heap L ∧ FrameEnd s o U' L ({ frames := 0, cells := 0, slots := 0, locals := 0 } : Room).cells ({ frames := 0, cells := 0, slots := 0, locals := 0 } : Room).slots
set_option maxRecDepth 65536 in
set_option maxHeartbeats 40000000 in
theorem rm4 (l : Launch) (Z : State) (a0 : Array Value) (hw : ∀ d ∈ tables_1, d.before a0 Z = true) (ws : List Jvm.Cond) (a1 : Addr) (a3 : Addr) (p4 : Int32) (op : Int32) (nn : Int32) (st : Int32) (dn : Nat) (k : ClassId) (rs : List Int32) (h0 : Heap) (n0 : Nat) (Z0 : n0 ≤ h0.size) (F_operator_a1 : Fld Z h0 a1 "com/example/headwright/headwright/Filter$Composite" "operator" "C" (.int op)) (F_operands_a1 : Fld Z h0 a1 "com/example/headwright/headwright/Filter$Composite" "operands" "I" (.int nn)) (V_a3 : Arv Z h0 a3 k .boolean (8 : Int32) (List.map Value.int rs) (.int (0 : Int32))) (ne_a1_a3 : a1 ≠ a3) (g_a3 : n0 ≤ a3) (hlen : rs.length = 8) (hsub : p4 - nn = st) (hs0 : 0 ≤ st.toInt) (hs1 : st.toInt < 8) (hd1 : p4.toInt = (st + (1 : Int32)).toInt + (dn : Nat)) (hd2 : 0 ≤ (st + (1 : Int32)).toInt) (hd3 : p4.toInt ≤ 8) :
    MetFree l (⟨"com/example/headwright/headwright/Filter$Composite", "apply", "(Ljava/util/Map;[ZI)I"⟩ : MethodName) (head1 (Jvm.Cond.code (⟨"com/example/headwright/headwright/Filter$Composite", "apply", "(Ljava/util/Map;[ZI)I"⟩ : MethodName) prog_17_method_2_code 7 (some .int) :: ws) ({ frames := 0, cells := 0, slots := 0, locals := 0 } : Room)) (fun a U => a = #[(.ref a1), .null, (.ref a3), (.int p4)] ∧ Z.Warmed39 U.vm ∧ U.heap = h0) (fun _ _ _ _ _ => True) (fun _ U o U' => ∃ v L, o = .returned v ∧ Q4 Z a1 a3 p4 op nn st dn k rs h0 n0 v U'.heap L ∧ FrameEnd U o U' L ({ frames := 0, cells := 0, slots := 0, locals := 0 } : Room).cells ({ frames := 0, cells := 0, slots := 0, locals := 0 } : Room).slots) := by
  refine MetFree.of_bodySF (plainFor_of_name pn_com_example_headwright_headwright_Filter_Composite) hisR ?_
  intro p e s m args below meth c s₁ Bd hml0 hP hK
  obtain ⟨rfl, hZ, hh⟩ := hP
  have hx := Bd.exec
  have hby := Bd.bytes
  have hml : c.maxLocals = 7 := hml0
  have hown : s.vm.findClass "com/example/headwright/headwright/Filter$Composite" = some m.cls := findClass_of_methodNamed Bd.named
  have hnm := (name_of_methodNamed Bd.named Bd.method).1
  have X0 : Stand p l e ({ frames := 0, cells := 0, slots := 0, locals := 0 } : Room) s m #[(.ref a1), .null, (.ref a3), (.int p4)] below meth c s₁ [] 0 0 := Stand.of_body Bd
  have e0 : s₁.heap = h0 := by rw [← hh, Bd.state]; rfl
  have es0 : s.heap = h0 := hh
  have N0 := Fr.nil n0
  show own_Fin p e below (G4 Z a1 a3 p4 op nn st dn k rs h0 n0 s) (s₁.setTop (entryFrame m #[(.ref a1), .null, (.ref a3), (.int p4)] 7))
  rw [ef_4 m a1 a3 p4]
  have Kz := Keep.refl h0 [a3]
  refine own_go (XS.iloadN X0.here hx rfl (hb hby d4_0) rfl (Steps.refl _)) ?_
  show own_Fin _ _ _ _ (s₁.setTop (mkF m 1 #[.val (.ref a1), .val .null, .val (.ref a3), .val (.int p4), .unset, .unset, .unset] [(.int p4)]))
  refine own_go (XS.aloadN X0.here hx rfl (hb hby d4_1) rfl rfl (Steps.refl _)) ?_
  show own_Fin _ _ _ _ (s₁.setTop (mkF m 2 #[.val (.ref a1), .val .null, .val (.ref a3), .val (.int p4), .unset, .unset, .unset] [(.ref a1), (.int p4)]))
  obtain ⟨T7, X7, e7, st7⟩ := getF X0 hx hZ hown (host := "") (Or.inl (hw _ (List.mem_of_getElem? (i := 18) rfl))) Via.refl e0 F_operands_a1 (g := (mkF m 2 #[.val (.ref a1), .val .null, .val (.ref a3), .val (.int p4), .unset, .unset, .unset] [(.ref a1), (.int p4)])) rfl rfl (hb hby d4_2)
  refine own_by st7 ?_
  show own_Fin _ _ _ _ (T7.setTop (mkF m 5 #[.val (.ref a1), .val .null, .val (.ref a3), .val (.int p4), .unset, .unset, .unset] [(.int nn), (.int p4)]))
  refine own_go (XS.isub X7.here hx rfl (hb hby d4_5) rfl (Steps.refl _)) ?_
  show own_Fin _ _ _ _ (T7.setTop (mkF m 6 #[.val (.ref a1), .val .null, .val (.ref a3), .val (.int p4), .unset, .unset, .unset] [(.int (p4 - nn))]))
  refine own_go (XS.istore X7.here hx rfl (hb hby d4_6) rfl (l' := #[.val (.ref a1), .val .null, .val (.ref a3), .val (.int p4), .val (.int (p4 - nn)), .unset, .unset]) rfl (Steps.refl _)) ?_
  show own_Fin _ _ _ _ (T7.setTop (mkF m 8 #[.val (.ref a1), .val .null, .val (.ref a3), .val (.int p4), .val (.int (p4 - nn)), .unset, .unset] []))
  generalize hz_v4_8 : (p4 - nn) = v4_8
  have hst : v4_8 = st := by rw [← hz_v4_8]; exact hsub
  rw [hst]
  show own_Fin _ _ _ _ (T7.setTop (mkF m 8 #[.val (.ref a1), .val .null, .val (.ref a3), .val (.int p4), .val (.int st), .unset, .unset] []))
  refine own_go (XS.aloadN X7.here hx rfl (hb hby d4_8) rfl rfl (Steps.refl _)) ?_
  show own_Fin _ _ _ _ (T7.setTop (mkF m 9 #[.val (.ref a1), .val .null, .val (.ref a3), .val (.int p4), .val (.int st), .unset, .unset] [(.ref a3)]))
  refine own_go (XS.iload X7.here hx rfl (hb hby d4_9) rfl (Steps.refl _)) ?_
  show own_Fin _ _ _ _ (T7.setTop (mkF m 11 #[.val (.ref a1), .val .null, .val (.ref a3), .val (.int p4), .val (.int st), .unset, .unset] [(.int st), (.ref a3)]))
  obtain ⟨cl9, Ar9, qa9, Sa9, Na9, Ha9, Ga9⟩ := id V_a3
  have hin9 : ¬ (st < 0 ∨ cl9.slots.size ≤ (st).toNatClampNeg) := inb_of Sa9 (own_in hs0 hs1)
  have hat9 : cl9.slots[(st).toNatClampNeg]? = some (.int (own_get rs st)) := Has.at Ha9 hin9 (own_getD _ _)
  refine own_by (X7.baloadBooleans hx (j := st) (v := (.int (own_get rs st))) (by rw [e7]; exact Ar9.1) (State.isArrayOf_alike hZ.alike Ar9.2.1) Ar9.2.2 hin9 hat9 (g := (mkF m 11 #[.val (.ref a1), .val .null, .val (.ref a3), .val (.int p4), .val (.int st), .unset, .unset] [(.int st), (.ref a3)])) rfl rfl (hb hby d4_11)) ?_
  show own_Fin _ _ _ _ (T7.setTop (mkF m 12 #[.val (.ref a1), .val .null, .val (.ref a3), .val (.int p4), .val (.int st), .unset, .unset] [(.int (own_get rs st))]))
  refine own_go (XS.istore X7.here hx rfl (hb hby d4_12) rfl (l' := #[.val (.ref a1), .val .null, .val (.ref a3), .val (.int p4), .val (.int st), .val (.int (own_get rs st)), .unset]) rfl (Steps.refl _)) ?_
  show own_Fin _ _ _ _ (T7.setTop (mkF m 14 #[.val (.ref a1), .val .null, .val (.ref a3), .val (.int p4), .val (.int st), .val (.int (own_get rs st)), .unset] []))
  generalize hz_v5_10 : (own_get rs st) = v5_10
  refine own_go (XS.iload X7.here hx rfl (hb hby d4_14) rfl (Steps.refl _)) ?_
  show own_Fin _ _ _ _ (T7.setTop (mkF m 16 #[.val (.ref a1), .val .null, .val (.ref a3), .val (.int p4), .val (.int st), .val (.int v5_10), .unset] [(.int st)]))
  refine own_go (XS.iconst X7.here hx rfl (hb hby d4_16) (Steps.refl _)) ?_
  show own_Fin _ _ _ _ (T7.setTop (mkF m 17 #[.val (.ref a1), .val .null, .val (.ref a3), .val (.int p4), .val (.int st), .val (.int v5_10), .unset] [(.int (1 : Int32)), (.int st)]))
  refine own_go (XS.iadd X7.here hx rfl (hb hby d4_17) rfl (Steps.refl _)) ?_
  show own_Fin _ _ _ _ (T7.setTop (mkF m 18 #[.val (.ref a1), .val .null, .val (.ref a3), .val (.int p4), .val (.int st), .val (.int v5_10), .unset] [(.int (st + (1 : Int32)))]))
  refine own_go (XS.istore X7.here hx rfl (hb hby d4_18) rfl (l' := #[.val (.ref a1), .val .null, .val (.ref a3), .val (.int p4), .val (.int st), .val (.int v5_10), .val (.int (st + (1 : Int32)))]) rfl (Steps.refl _)) ?_
  show own_Fin _ _ _ _ (T7.setTop (mkF m 20 #[.val (.ref a1), .val .null, .val (.ref a3), .val (.int p4), .val (.int st), .val (.int v5_10), .val (.int (st + (1 : Int32)))] []))
  generalize hz_v6_11 : (st + (1 : Int32)) = v6_11
  have lp12 : ∀ (d : Nat) (Tj12 : State) (Lj12 : List Loc) (acc : Int32) (ii : Int32), Stand p l e ({ frames := 0, cells := 0, slots := 0, locals := 0 } : Room) s m #[(.ref a1), .null, (.ref a3), (.int p4)] below meth c Tj12 Lj12 0 0 → Tj12.heap = h0 → Fr n0 Lj12 → (p4.toInt = ii.toInt + (d : Nat) ∧ 0 ≤ ii.toInt ∧ p4.toInt ≤ 8 ∧ own_fold op rs d ii acc = own_fold op rs dn (st + (1 : Int32)) (own_get rs st)) → own_Fin p e below (G4 Z a1 a3 p4 op nn st dn k rs h0 n0 s) (Tj12.setTop (mkF m 20 #[.val (.ref a1), .val .null, .val (.ref a3), .val (.int p4), .val (.int st), .val (.int acc), .val (.int ii)] [])) := by
    intro d
    induction d with
    | zero =>
      intro Tj12 Lj12 acc ii Xj12 ej12 Nj12 hv12
      refine own_go (XS.iload Xj12.here hx rfl (hb hby d4_20) rfl (Steps.refl _)) ?_
      show own_Fin _ _ _ _ (Tj12.setTop (mkF m 22 #[.val (.ref a1), .val .null, .val (.ref a3), .val (.int p4), .val (.int st), .val (.int acc), .val (.int ii)] [(.int ii)]))
      refine own_go (XS.iloadN Xj12.here hx rfl (hb hby d4_22) rfl (Steps.refl _)) ?_
      show own_Fin _ _ _ _ (Tj12.setTop (mkF m 23 #[.val (.ref a1), .val .null, .val (.ref a3), .val (.int p4), .val (.int st), .val (.int acc), .val (.int ii)] [(.int p4), (.int ii)]))
      refine own_go (XS.icmpYes Xj12.here hx rfl (pc0 := 23) (pc' := 80) rfl (hb hby d4_23) rfl (flt (show ¬ (ii < p4) from by rw [Int32.lt_iff_toInt_lt]; have := hv12.1; omega)).2.1 (by decide) (by decide) (Steps.refl _)) ?_
      show own_Fin _ _ _ _ (Tj12.setTop (mkF m 80 #[.val (.ref a1), .val .null, .val (.ref a3), .val (.int p4), .val (.int st), .val (.int acc), .val (.int ii)] []))
      refine own_go (XS.aloadN Xj12.here hx rfl (hb hby d4_80) rfl rfl (Steps.refl _)) ?_
      show own_Fin _ _ _ _ (Tj12.setTop (mkF m 81 #[.val (.ref a1), .val .null, .val (.ref a3), .val (.int p4), .val (.int st), .val (.int acc), .val (.int ii)] [(.ref a3)]))
      refine own_go (XS.iload Xj12.here hx rfl (hb hby d4_81) rfl (Steps.refl _)) ?_
      show own_Fin _ _ _ _ (Tj12.setTop (mkF m 83 #[.val (.ref a1), .val .null, .val (.ref a3), .val (.int p4), .val (.int st), .val (.int acc), .val (.int ii)] [(.int st), (.ref a3)]))
      refine own_go (XS.aloadN Xj12.here hx rfl (hb hby d4_83) rfl rfl (Steps.refl _)) ?_
      show own_Fin _ _ _ _ (Tj12.setTop (mkF m 84 #[.val (.ref a1), .val .null, .val (.ref a3), .val (.int p4), .val (.int st), .val (.int acc), .val (.int ii)] [(.ref a1), (.int st), (.ref a3)]))
      obtain ⟨T13, X13, e13, st13⟩ := getF Xj12 hx hZ hown (host := "") (Or.inl (hw _ (List.mem_of_getElem? (i := 16) rfl))) Via.refl ej12 F_operator_a1 (g := (mkF m 84 #[.val (.ref a1), .val .null, .val (.ref a3), .val (.int p4), .val (.int st), .val (.int acc), .val (.int ii)] [(.ref a1), (.int st), (.ref a3)])) rfl rfl (hb hby d4_84)
      refine own_by st13 ?_
      show own_Fin _ _ _ _ (T13.setTop (mkF m 87 #[.val (.ref a1), .val .null, .val (.ref a3), .val (.int p4), .val (.int st), .val (.int acc), .val (.int ii)] [(.int op), (.int st), (.ref a3)]))
      have di14 : Steps p.tables e below (T13.setTop (mkF m 87 #[.val (.ref a1), .val .null, .val (.ref a3), .val (.int p4), .val (.int st), .val (.int acc), .val (.int ii)] [(.int op), (.int st), (.ref a3)])) (T13.setTop (mkF m 107 #[.val (.ref a1), .val .null, .val (.ref a3), .val (.int p4), .val (.int st), .val (.int acc), .val (.int ii)] [(.int (own_not op acc)), (.int st), (.ref a3)])) := by
        refine XS.bipush X13.here hx rfl (hb hby d4_87) ?_
        show Steps _ _ _ (T13.setTop (mkF m 89 #[.val (.ref a1), .val .null, .val (.ref a3), .val (.int p4), .val (.int st), .val (.int acc), .val (.int ii)] [(.int (33 : Int32)), (.int op), (.int st), (.ref a3)])) _
        by_cases c89_15 : op = (33 : Int32)
        · refine XS.icmpNo X13.here hx rfl (hb hby d4_89) rfl (teq c89_15).2 ?_
          show Steps _ _ _ (T13.setTop (mkF m 92 #[.val (.ref a1), .val .null, .val (.ref a3), .val (.int p4), .val (.int st), .val (.int acc), .val (.int ii)] [(.int st), (.ref a3)])) _
          refine XS.iload X13.here hx rfl (hb hby d4_92) rfl ?_
          show Steps _ _ _ (T13.setTop (mkF m 94 #[.val (.ref a1), .val .null, .val (.ref a3), .val (.int p4), .val (.int st), .val (.int acc), .val (.int ii)] [(.int acc), (.int st), (.ref a3)])) _
          by_cases c94_16 : acc = (0 : Int32)
          · refine XS.ifNo X13.here hx rfl (hb hby d4_94) rfl ((if0 _ _).trans (teq c94_16).2) ?_
            show Steps _ _ _ (T13.setTop (mkF m 97 #[.val (.ref a1), .val .null, .val (.ref a3), .val (.int p4), .val (.int st), .val (.int acc), .val (.int ii)] [(.int st), (.ref a3)])) _
            refine XS.iconst X13.here hx rfl (hb hby d4_97) ?_
            show Steps _ _ _ (T13.setTop (mkF m 98 #[.val (.ref a1), .val .null, .val (.ref a3), .val (.int p4), .val (.int st), .val (.int acc), .val (.int ii)] [(.int (1 : Int32)), (.int st), (.ref a3)])) _
            refine XS.goto X13.here hx rfl (pc0 := 98) (pc' := 107) rfl (hb hby d4_98) (by decide) (by decide) ?_
            show Steps _ _ _ (T13.setTop (mkF m 107 #[.val (.ref a1), .val .null, .val (.ref a3), .val (.int p4), .val (.int st), .val (.int acc), .val (.int ii)] [(.int (1 : Int32)), (.int st), (.ref a3)])) _
            rw [show (own_not op acc) = (1 : Int32) from by simp [own_not, c89_15, c94_16]]; exact Steps.refl _
          · refine XS.ifYes X13.here hx rfl (pc0 := 94) (pc' := 101) rfl (hb hby d4_94) rfl ((if0 _ _).trans (feq c94_16).2) (by decide) (by decide) ?_
            show Steps _ _ _ (T13.setTop (mkF m 101 #[.val (.ref a1), .val .null, .val (.ref a3), .val (.int p4), .val (.int st), .val (.int acc), .val (.int ii)] [(.int st), (.ref a3)])) _
            refine XS.iconst X13.here hx rfl (hb hby d4_101) ?_
            show Steps _ _ _ (T13.setTop (mkF m 102 #[.val (.ref a1), .val .null, .val (.ref a3), .val (.int p4), .val (.int st), .val (.int acc), .val (.int ii)] [(.int (0 : Int32)), (.int st), (.ref a3)])) _
            refine XS.goto X13.here hx rfl (pc0 := 102) (pc' := 107) rfl (hb hby d4_102) (by decide) (by decide) ?_
            show Steps _ _ _ (T13.setTop (mkF m 107 #[.val (.ref a1), .val .null, .val (.ref a3), .val (.int p4), .val (.int st), .val (.int acc), .val (.int ii)] [(.int (0 : Int32)), (.int st), (.ref a3)])) _
            rw [show (own_not op acc) = (0 : Int32) from by simp [own_not, c89_15, c94_16]]; exact Steps.refl _
        · refine XS.icmpYes X13.here hx rfl (pc0 := 89) (pc' := 105) rfl (hb hby d4_89) rfl (feq c89_15).2 (by decide) (by decide) ?_
          show Steps _ _ _ (T13.setTop (mkF m 105 #[.val (.ref a1), .val .null, .val (.ref a3), .val (.int p4), .val (.int st), .val (.int acc), .val (.int ii)] [(.int st), (.ref a3)])) _
          refine XS.iload X13.here hx rfl (hb hby d4_105) rfl ?_
          show Steps _ _ _ (T13.setTop (mkF m 107 #[.val (.ref a1), .val .null, .val (.ref a3), .val (.int p4), .val (.int st), .val (.int acc), .val (.int ii)] [(.int acc), (.int st), (.ref a3)])) _
          rw [show (own_not op acc) = acc from by simp [own_not, c89_15]]; exact Steps.refl _
      refine own_go di14 ?_
      show own_Fin _ _ _ _ (T13.setTop (mkF m 107 #[.val (.ref a1), .val .null, .val (.ref a3), .val (.int p4), .val (.int st), .val (.int acc), .val (.int ii)] [(.int (own_not op acc)), (.int st), (.ref a3)]))
      obtain ⟨cl17, Ar17, qa17, Sa17, Na17, Ha17, Ga17⟩ := id V_a3
      have hin17 : ¬ (st < 0 ∨ cl17.slots.size ≤ (st).toNatClampNeg) := inb_of Sa17 (own_in hs0 hs1)
      obtain ⟨T18, h18, X18, e18, W18, st18⟩ := stZ X13 hx hZ e13 Ar17 (j := st) hin17 (g := (mkF m 107 #[.val (.ref a1), .val .null, .val (.ref a3), .val (.int p4), .val (.int st), .val (.int acc), .val (.int ii)] [(.int (own_not op acc)), (.int st), (.ref a3)])) rfl rfl (hb hby d4_107)
      refine own_by st18 ?_
      have hnr18 : nar .boolean (own_not op acc) = (own_val op rs dn st) := by unfold own_val; rw [← hv12.2.2.2]; rfl
      rw [hnr18] at W18
      have V_a3_18 : Arv Z h18 a3 k .boolean (8 : Int32) (List.map Value.int (rs.set (st).toNatClampNeg (own_val op rs dn st))) (.int (0 : Int32)) := by
        rw [List.map_set]; exact Arv.set Ar17 qa17 Sa17 Na17 Ha17 Ga17 (hnr18 ▸ fits_nar_bool (own_not op acc)) W18 _ rfl (by rw [List.length_map, hlen]; exact own_clamp hs0 hs1)
      have F_operator_a1_18 := F_operator_a1.other W18 (Or.inl ne_a1_a3)
      have F_operands_a1_18 := F_operands_a1.other W18 (Or.inl ne_a1_a3)
      have N18 := Fr.snoc X18 Nj12 g_a3
      have Z18 : n0 ≤ h18.size := Nat.le_trans Z0 (Keep.of_wr W18).1
      have K18 := Kz.wr W18 (Or.inl (List.mem_of_getElem? (i := 0) rfl))
      show own_Fin _ _ _ _ (T18.setTop (mkF m 108 #[.val (.ref a1), .val .null, .val (.ref a3), .val (.int p4), .val (.int st), .val (.int acc), .val (.int ii)] []))
      refine own_go (XS.iload X18.here hx rfl (hb hby d4_108) rfl (Steps.refl _)) ?_
      show own_Fin _ _ _ _ (T18.setTop (mkF m 110 #[.val (.ref a1), .val .null, .val (.ref a3), .val (.int p4), .val (.int st), .val (.int acc), .val (.int ii)] [(.int st)]))
      refine own_go (XS.iconst X18.here hx rfl (hb hby d4_110) (Steps.refl _)) ?_
      show own_Fin _ _ _ _ (T18.setTop (mkF m 111 #[.val (.ref a1), .val .null, .val (.ref a3), .val (.int p4), .val (.int st), .val (.int acc), .val (.int ii)] [(.int (1 : Int32)), (.int st)]))
      refine own_go (XS.iadd X18.here hx rfl (hb hby d4_111) rfl (Steps.refl _)) ?_
      show own_Fin _ _ _ _ (T18.setTop (mkF m 112 #[.val (.ref a1), .val .null, .val (.ref a3), .val (.int p4), .val (.int st), .val (.int acc), .val (.int ii)] [(.int (st + (1 : Int32)))]))
      obtain ⟨fs19, hr19, hrun19, hended19, hW19, hsame19⟩ := X18.leave (v := some (.int (st + (1 : Int32)))) (fun h => by rw [Bd.returns] at h; cases h)
      refine own_done (own_retI X18 hx Bd.returns (hb hby d4_112) hr19) hrun19 hended19 ⟨_, _, rfl, ?_, ⟨_, rfl⟩, hW19, hsame19.mono (by decide) (by decide)⟩
      show Q4 Z a1 a3 p4 op nn st dn k rs h0 n0 _ T18.heap _
      rw [e18]
      exact ⟨rfl, N18, K18, V_a3_18⟩
    | succ d ih12 =>
      intro Tj12 Lj12 acc ii Xj12 ej12 Nj12 hv12
      refine own_go (XS.iload Xj12.here hx rfl (hb hby d4_20) rfl (Steps.refl _)) ?_
      show own_Fin _ _ _ _ (Tj12.setTop (mkF m 22 #[.val (.ref a1), .val .null, .val (.ref a3), .val (.int p4), .val (.int st), .val (.int acc), .val (.int ii)] [(.int ii)]))
      refine own_go (XS.iloadN Xj12.here hx rfl (hb hby d4_22) rfl (Steps.refl _)) ?_
      show own_Fin _ _ _ _ (Tj12.setTop (mkF m 23 #[.val (.ref a1), .val .null, .val (.ref a3), .val (.int p4), .val (.int st), .val (.int acc), .val (.int ii)] [(.int p4), (.int ii)]))
      refine own_go (XS.icmpNo Xj12.here hx rfl (hb hby d4_23) rfl (tlt (show ii < p4 from by rw [Int32.lt_iff_toInt_lt]; have := hv12.1; omega)).2.1 (Steps.refl _)) ?_
      show own_Fin _ _ _ _ (Tj12.setTop (mkF m 26 #[.val (.ref a1), .val .null, .val (.ref a3), .val (.int p4), .val (.int st), .val (.int acc), .val (.int ii)] []))
      refine own_go (XS.aloadN Xj12.here hx rfl (hb hby d4_26) rfl rfl (Steps.refl _)) ?_
      show own_Fin _ _ _ _ (Tj12.setTop (mkF m 27 #[.val (.ref a1), .val .null, .val (.ref a3), .val (.int p4), .val (.int st), .val (.int acc), .val (.int ii)] [(.ref a1)]))
      obtain ⟨T20, X20, e20, st20⟩ := getF Xj12 hx hZ hown (host := "") (Or.inl (hw _ (List.mem_of_getElem? (i := 16) rfl))) Via.refl ej12 F_operator_a1 (g := (mkF m 27 #[.val (.ref a1), .val .null, .val (.ref a3), .val (.int p4), .val (.int st), .val (.int acc), .val (.int ii)] [(.ref a1)])) rfl rfl (hb hby d4_27)
      refine own_by st20 ?_
      show own_Fin _ _ _ _ (T20.setTop (mkF m 30 #[.val (.ref a1), .val .null, .val (.ref a3), .val (.int p4), .val (.int st), .val (.int acc), .val (.int ii)] [(.int op)]))
      have di21 : Steps p.tables e below (T20.setTop (mkF m 30 #[.val (.ref a1), .val .null, .val (.ref a3), .val (.int p4), .val (.int st), .val (.int acc), .val (.int ii)] [(.int op)])) (T20.setTop (mkF m 72 #[.val (.ref a1), .val .null, .val (.ref a3), .val (.int p4), .val (.int st), .val (.int acc), .val (.int ii)] [(.int (own_comb op acc (own_get rs ii)))])) := by
        refine XS.bipush X20.here hx rfl (hb hby d4_30) ?_
        show Steps _ _ _ (T20.setTop (mkF m 32 #[.val (.ref a1), .val .null, .val (.ref a3), .val (.int p4), .val (.int st), .val (.int acc), .val (.int ii)] [(.int (38 : Int32)), (.int op)])) _
        by_cases c32_22 : op = (38 : Int32)
        · refine XS.icmpNo X20.here hx rfl (hb hby d4_32) rfl (teq c32_22).2 ?_
          show Steps _ _ _ (T20.setTop (mkF m 35 #[.val (.ref a1), .val .null, .val (.ref a3), .val (.int p4), .val (.int st), .val (.int acc), .val (.int ii)] [])) _
          refine XS.iload X20.here hx rfl (hb hby d4_35) rfl ?_
          show Steps _ _ _ (T20.setTop (mkF m 37 #[.val (.ref a1), .val .null, .val (.ref a3), .val (.int p4), .val (.int st), .val (.int acc), .val (.int ii)] [(.int acc)])) _
          by_cases c37_23 : acc = (0 : Int32)
          · refine XS.ifYes X20.here hx rfl (pc0 := 37) (pc' := 51) rfl (hb hby d4_37) rfl ((if0 _ _).trans (teq c37_23).1) (by decide) (by decide) ?_
            show Steps _ _ _ (T20.setTop (mkF m 51 #[.val (.ref a1), .val .null, .val (.ref a3), .val (.int p4), .val (.int st), .val (.int acc), .val (.int ii)] [])) _
            refine XS.iconst X20.here hx rfl (hb hby d4_51) ?_
            show Steps _ _ _ (T20.setTop (mkF m 52 #[.val (.ref a1), .val .null, .val (.ref a3), .val (.int p4), .val (.int st), .val (.int acc), .val (.int ii)] [(.int (0 : Int32))])) _
            refine XS.goto X20.here hx rfl (pc0 := 52) (pc' := 72) rfl (hb hby d4_52) (by decide) (by decide) ?_
            show Steps _ _ _ (T20.setTop (mkF m 72 #[.val (.ref a1), .val .null, .val (.ref a3), .val (.int p4), .val (.int st), .val (.int acc), .val (.int ii)] [(.int (0 : Int32))])) _
            rw [show (own_comb op acc (own_get rs ii)) = (0 : Int32) from by simp [own_comb, c32_22, c37_23]]; exact Steps.refl _
          · refine XS.ifNo X20.here hx rfl (hb hby d4_37) rfl ((if0 _ _).trans (feq c37_23).1) ?_
            show Steps _ _ _ (T20.setTop (mkF m 40 #[.val (.ref a1), .val .null, .val (.ref a3), .val (.int p4), .val (.int st), .val (.int acc), .val (.int ii)] [])) _
            refine XS.aloadN X20.here hx rfl (hb hby d4_40) rfl rfl ?_
            show Steps _ _ _ (T20.setTop (mkF m 41 #[.val (.ref a1), .val .null, .val (.ref a3), .val (.int p4), .val (.int st), .val (.int acc), .val (.int ii)] [(.ref a3)])) _
            refine XS.iload X20.here hx rfl (hb hby d4_41) rfl ?_
            show Steps _ _ _ (T20.setTop (mkF m 43 #[.val (.ref a1), .val .null, .val (.ref a3), .val (.int p4), .val (.int st), .val (.int acc), .val (.int ii)] [(.int ii), (.ref a3)])) _
            obtain ⟨cl24, Ar24, qa24, Sa24, Na24, Ha24, Ga24⟩ := id V_a3
            have hin24 : ¬ (ii < 0 ∨ cl24.slots.size ≤ (ii).toNatClampNeg) := inb_of Sa24 (own_in hv12.2.1 (show _ < (8 : Int) by have := hv12.1; have := hv12.2.2.1; omega))
            have hat24 : cl24.slots[(ii).toNatClampNeg]? = some (.int (own_get rs ii)) := Has.at Ha24 hin24 (own_getD _ _)
            refine X20.baloadBooleans hx (j := ii) (v := (.int (own_get rs ii))) (by rw [e20]; exact Ar24.1) (State.isArrayOf_alike hZ.alike Ar24.2.1) Ar24.2.2 hin24 hat24 (g := (mkF m 43 #[.val (.ref a1), .val .null, .val (.ref a3), .val (.int p4), .val (.int st), .val (.int acc), .val (.int ii)] [(.int ii), (.ref a3)])) rfl rfl (hb hby d4_43) _ ?_
            show Steps _ _ _ (T20.setTop (mkF m 44 #[.val (.ref a1), .val .null, .val (.ref a3), .val (.int p4), .val (.int st), .val (.int acc), .val (.int ii)] [(.int (own_get rs ii))])) _
            by_cases c44_25 : (own_get rs ii) = (0 : Int32)
            · refine XS.ifYes X20.here hx rfl (pc0 := 44) (pc' := 51) rfl (hb hby d4_44) rfl ((if0 _ _).trans (teq c44_25).1) (by decide) (by decide) ?_
              show Steps _ _ _ (T20.setTop (mkF m 51 #[.val (.ref a1), .val .null, .val (.ref a3), .val (.int p4), .val (.int st), .val (.int acc), .val (.int ii)] [])) _
              refine XS.iconst X20.here hx rfl (hb hby d4_51) ?_
              show Steps _ _ _ (T20.setTop (mkF m 52 #[.val (.ref a1), .val .null, .val (.ref a3), .val (.int p4), .val (.int st), .val (.int acc), .val (.int ii)] [(.int (0 : Int32))])) _
              refine XS.goto X20.here hx rfl (pc0 := 52) (pc' := 72) rfl (hb hby d4_52) (by decide) (by decide) ?_
              show Steps _ _ _ (T20.setTop (mkF m 72 #[.val (.ref a1), .val .null, .val (.ref a3), .val (.int p4), .val (.int st), .val (.int acc), .val (.int ii)] [(.int (0 : Int32))])) _
              rw [show (own_comb op acc (own_get rs ii)) = (0 : Int32) from by simp [own_comb, c32_22, c37_23, c44_25]]; exact Steps.refl _
            · refine XS.ifNo X20.here hx rfl (hb hby d4_44) rfl ((if0 _ _).trans (feq c44_25).1) ?_
              show Steps _ _ _ (T20.setTop (mkF m 47 #[.val (.ref a1), .val .null, .val (.ref a3), .val (.int p4), .val (.int st), .val (.int acc), .val (.int ii)] [])) _
              refine XS.iconst X20.here hx rfl (hb hby d4_47) ?_
              show Steps _ _ _ (T20.setTop (mkF m 48 #[.val (.ref a1), .val .null, .val (.ref a3), .val (.int p4), .val (.int st), .val (.int acc), .val (.int ii)] [(.int (1 : Int32))])) _
              refine XS.goto X20.here hx rfl (pc0 := 48) (pc' := 72) rfl (hb hby d4_48) (by decide) (by decide) ?_
              show Steps _ _ _ (T20.setTop (mkF m 72 #[.val (.ref a1), .val .null, .val (.ref a3), .val (.int p4), .val (.int st), .val (.int acc), .val (.int ii)] [(.int (1 : Int32))])) _
              rw [show (own_comb op acc (own_get rs ii)) = (1 : Int32) from by simp [own_comb, c32_22, c37_23, c44_25]]; exact Steps.refl _
        · refine XS.icmpYes X20.here hx rfl (pc0 := 32) (pc' := 55) rfl (hb hby d4_32) rfl (feq c32_22).2 (by decide) (by decide) ?_
          show Steps _ _ _ (T20.setTop (mkF m 55 #[.val (.ref a1), .val .null, .val (.ref a3), .val (.int p4), .val (.int st), .val (.int acc), .val (.int ii)] [])) _
          refine XS.iload X20.here hx rfl (hb hby d4_55) rfl ?_
          show Steps _ _ _ (T20.setTop (mkF m 57 #[.val (.ref a1), .val .null, .val (.ref a3), .val (.int p4), .val (.int st), .val (.int acc), .val (.int ii)] [(.int acc)])) _
          by_cases c57_26 : acc = (0 : Int32)
          · refine XS.ifNo X20.here hx rfl (hb hby d4_57) rfl ((if0 _ _).trans (teq c57_26).2) ?_
            show Steps _ _ _ (T20.setTop (mkF m 60 #[.val (.ref a1), .val .null, .val (.ref a3), .val (.int p4), .val (.int st), .val (.int acc), .val (.int ii)] [])) _
            refine XS.aloadN X20.here hx rfl (hb hby d4_60) rfl rfl ?_
            show Steps _ _ _ (T20.setTop (mkF m 61 #[.val (.ref a1), .val .null, .val (.ref a3), .val (.int p4), .val (.int st), .val (.int acc), .val (.int ii)] [(.ref a3)])) _
            refine XS.iload X20.here hx rfl (hb hby d4_61) rfl ?_
            show Steps _ _ _ (T20.setTop (mkF m 63 #[.val (.ref a1), .val .null, .val (.ref a3), .val (.int p4), .val (.int st), .val (.int acc), .val (.int ii)] [(.int ii), (.ref a3)])) _
            obtain ⟨cl27, Ar27, qa27, Sa27, Na27, Ha27, Ga27⟩ := id V_a3
            have hin27 : ¬ (ii < 0 ∨ cl27.slots.size ≤ (ii).toNatClampNeg) := inb_of Sa27 (own_in hv12.2.1 (show _ < (8 : Int) by have := hv12.1; have := hv12.2.2.1; omega))
            have hat27 : cl27.slots[(ii).toNatClampNeg]? = some (.int (own_get rs ii)) := Has.at Ha27 hin27 (own_getD _ _)
            refine X20.baloadBooleans hx (j := ii) (v := (.int (own_get rs ii))) (by rw [e20]; exact Ar27.1) (State.isArrayOf_alike hZ.alike Ar27.2.1) Ar27.2.2 hin27 hat27 (g := (mkF m 63 #[.val (.ref a1), .val .null, .val (.ref a3), .val (.int p4), .val (.int st), .val (.int acc), .val (.int ii)] [(.int ii), (.ref a3)])) rfl rfl (hb hby d4_63) _ ?_
            show Steps _ _ _ (T20.setTop (mkF m 64 #[.val (.ref a1), .val .null, .val (.ref a3), .val (.int p4), .val (.int st), .val (.int acc), .val (.int ii)] [(.int (own_get rs ii))])) _
            by_cases c64_28 : (own_get rs ii) = (0 : Int32)
            · refine XS.ifYes X20.here hx rfl (pc0 := 64) (pc' := 71) rfl (hb hby d4_64) rfl ((if0 _ _).trans (teq c64_28).1) (by decide) (by decide) ?_
              show Steps _ _ _ (T20.setTop (mkF m 71 #[.val (.ref a1), .val .null, .val (.ref a3), .val (.int p4), .val (.int st), .val (.int acc), .val (.int ii)] [])) _
              refine XS.iconst X20.here hx rfl (hb hby d4_71) ?_
              show Steps _ _ _ (T20.setTop (mkF m 72 #[.val (.ref a1), .val .null, .val (.ref a3), .val (.int p4), .val (.int st), .val (.int acc), .val (.int ii)] [(.int (0 : Int32))])) _
              rw [show (own_comb op acc (own_get rs ii)) = (0 : Int32) from by simp [own_comb, c32_22, c57_26, c64_28]]; exact Steps.refl _
            · refine XS.ifNo X20.here hx rfl (hb hby d4_64) rfl ((if0 _ _).trans (feq c64_28).1) ?_
              show Steps _ _ _ (T20.setTop (mkF m 67 #[.val (.ref a1), .val .null, .val (.ref a3), .val (.int p4), .val (.int st), .val (.int acc), .val (.int ii)] [])) _
              refine XS.iconst X20.here hx rfl (hb hby d4_67) ?_
              show Steps _ _ _ (T20.setTop (mkF m 68 #[.val (.ref a1), .val .null, .val (.ref a3), .val (.int p4), .val (.int st), .val (.int acc), .val (.int ii)] [(.int (1 : Int32))])) _
              refine XS.goto X20.here hx rfl (pc0 := 68) (pc' := 72) rfl (hb hby d4_68) (by decide) (by decide) ?_
              show Steps _ _ _ (T20.setTop (mkF m 72 #[.val (.ref a1), .val .null, .val (.ref a3), .val (.int p4), .val (.int st), .val (.int acc), .val (.int ii)] [(.int (1 : Int32))])) _
              rw [show (own_comb op acc (own_get rs ii)) = (1 : Int32) from by simp [own_comb, c32_22, c57_26, c64_28]]; exact Steps.refl _
          · refine XS.ifYes X20.here hx rfl (pc0 := 57) (pc' := 67) rfl (hb hby d4_57) rfl ((if0 _ _).trans (feq c57_26).2) (by decide) (by decide) ?_
            show Steps _ _ _ (T20.setTop (mkF m 67 #[.val (.ref a1), .val .null, .val (.ref a3), .val (.int p4), .val (.int st), .val (.int acc), .val (.int ii)] [])) _
            refine XS.iconst X20.here hx rfl (hb hby d4_67) ?_
            show Steps _ _ _ (T20.setTop (mkF m 68 #[.val (.ref a1), .val .null, .val (.ref a3), .val (.int p4), .val (.int st), .val (.int acc), .val (.int ii)] [(.int (1 : Int32))])) _
            refine XS.goto X20.here hx rfl (pc0 := 68) (pc' := 72) rfl (hb hby d4_68) (by decide) (by decide) ?_
            show Steps _ _ _ (T20.setTop (mkF m 72 #[.val (.ref a1), .val .null, .val (.ref a3), .val (.int p4), .val (.int st), .val (.int acc), .val (.int ii)] [(.int (1 : Int32))])) _
            rw [show (own_comb op acc (own_get rs ii)) = (1 : Int32) from by simp [own_comb, c32_22, c57_26]]; exact Steps.refl _
      refine own_go di21 ?_
      show own_Fin _ _ _ _ (T20.setTop (mkF m 72 #[.val (.ref a1), .val .null, .val (.ref a3), .val (.int p4), .val (.int st), .val (.int acc), .val (.int ii)] [(.int (own_comb op acc (own_get rs ii)))]))
      refine own_go (XS.istore X20.here hx rfl (hb hby d4_72) rfl (l' := #[.val (.ref a1), .val .null, .val (.ref a3), .val (.int p4), .val (.int st), .val (.int (own_comb op acc (own_get rs ii))), .val (.int ii)]) rfl (Steps.refl _)) ?_
      show own_Fin _ _ _ _ (T20.setTop (mkF m 74 #[.val (.ref a1), .val .null, .val (.ref a3), .val (.int p4), .val (.int st), .val (.int (own_comb op acc (own_get rs ii))), .val (.int ii)] []))
      generalize hz_v5_29 : (own_comb op acc (own_get rs ii)) = v5_29
      refine own_go (XS.iinc X20.here hx rfl (hb hby d4_74) rfl (l' := #[.val (.ref a1), .val .null, .val (.ref a3), .val (.int p4), .val (.int st), .val (.int v5_29), .val (.int (ii + (1 : Int32)))]) rfl (Steps.refl _)) ?_
      show own_Fin _ _ _ _ (T20.setTop (mkF m 77 #[.val (.ref a1), .val .null, .val (.ref a3), .val (.int p4), .val (.int st), .val (.int v5_29), .val (.int (ii + (1 : Int32)))] []))
      refine own_go (XS.goto X20.here hx rfl (pc0 := 77) (pc' := 20) rfl (hb hby d4_77) (by decide) (by decide) (Steps.refl _)) ?_
      show own_Fin _ _ _ _ (T20.setTop (mkF m 20 #[.val (.ref a1), .val .null, .val (.ref a3), .val (.int p4), .val (.int st), .val (.int v5_29), .val (.int (ii + (1 : Int32)))] []))
      exact ih12 T20 _ v5_29 (ii + (1 : Int32)) X20 e20 Nj12 (⟨by rw [own_inc hv12.1]; have := hv12.1; omega, by rw [own_inc hv12.1]; have := hv12.2.1; omega, hv12.2.2.1, by rw [← hz_v5_29]; exact hv12.2.2.2⟩)
  exact lp12 dn T7 _ v5_10 v6_11 X7 e7 N0 (by rw [← hz_v6_11, ← hz_v5_10]; exact ⟨hd1, hd2, hd3, rfl⟩)
def own_n (k x : Int32) : Int32 := if k = (2 : Int32) then (1 : Int32) else (1 : Int32) + (x &&& (3 : Int32))
theorem own_ofFin (y : Int32) (N : Nat) (h0 : 0 ≤ y.toInt) (h1 : y.toInt < N) : ∃ i : Fin N, y = Int32.ofNat i.val := by
  refine ⟨⟨y.toNatClampNeg, own_clamp h0 h1⟩, ?_⟩
  apply Int32.toInt_inj.mp
  have h2 := rng32 y
  have h3 : y.toNatClampNeg < 2 ^ 31 := own_clamp h0 (by omega)
  rw [Int32.toInt_ofNat_of_lt h3]
  unfold Int32.toNatClampNeg; omega
theorem own_k3 (x : Int32) : ∃ i : Fin 3, (x &&& (2147483647 : Int32)) % (3 : Int32) = Int32.ofNat i.val := by
  have h1 : (x &&& (2147483647 : Int32)).toInt = x.toInt % (2 ^ 31 : Nat) := c_mask x 2147483647 31 (by decide) (by decide)
  have h2 := (c_irem (x &&& (2147483647 : Int32)) 3 3 rfl).1 (by omega)
  exact own_ofFin _ 3 (by omega) (by omega)
theorem own_s4 (x : Int32) : ∃ i : Fin 4, x &&& (3 : Int32) = Int32.ofNat i.val := by
  have h1 : (x &&& (3 : Int32)).toInt = x.toInt % (2 ^ 2 : Nat) := c_mask x 3 2 (by decide) (by decide)
  exact own_ofFin _ 4 (by omega) (by omega)
theorem own_b256 (x : Int32) : ∃ i : Fin 256, x &&& (255 : Int32) = Int32.ofNat i.val := by
  have h1 : (x &&& (255 : Int32)).toInt = x.toInt % (2 ^ 8 : Nat) := c_mask x 255 8 (by decide) (by decide)
  exact own_ofFin _ 256 (by omega) (by omega)
theorem own_n4 (k x : Int32) : ∃ i : Fin 4, own_n k x = Int32.ofNat (i.val + 1) := by
  unfold own_n
  by_cases h : k = (2 : Int32)
  · rw [if_pos h]; exact ⟨0, rfl⟩
  · rw [if_neg h]
    obtain ⟨i, hi⟩ := own_s4 x
    rw [hi]
    exact ⟨i, (show ∀ i : Fin 4, (1 : Int32) + Int32.ofNat i.val = Int32.ofNat (i.val + 1) by decide +kernel) i⟩
def own_P (k n s b : Int32) : Bool := decide (own_get ((own_rs b).set s.toNatClampNeg (own_val (nar .char (own_op k)) (own_rs b) (n.toNatClampNeg - 1) s)) s = own_exp k ((b >>> (s &&& 31)) &&& (((1 : Int32) <<< (n &&& 31)) - (1 : Int32))) (((1 : Int32) <<< (n &&& 31)) - (1 : Int32)))
set_option maxRecDepth 100000 in
theorem own_all : ∀ (k : Fin 3) (n s : Fin 4) (b : Fin 256), own_P (Int32.ofNat k.val) (Int32.ofNat (n.val + 1)) (Int32.ofNat s.val) (Int32.ofNat b.val) = true := by decide +kernel
theorem own_fin {k n s b : Int32} (hk : ∃ i : Fin 3, k = Int32.ofNat i.val) (hn : ∃ i : Fin 4, n = Int32.ofNat (i.val + 1)) (hs : ∃ i : Fin 4, s = Int32.ofNat i.val) (hb : ∃ i : Fin 256, b = Int32.ofNat i.val) :
    own_get ((own_rs b).set s.toNatClampNeg (own_val (nar .char (own_op k)) (own_rs b) (n.toNatClampNeg - 1) s)) s = own_exp k ((b >>> (s &&& 31)) &&& (((1 : Int32) <<< (n &&& 31)) - (1 : Int32))) (((1 : Int32) <<< (n &&& 31)) - (1 : Int32)) := by
  obtain ⟨k, rfl⟩ := hk; obtain ⟨n, rfl⟩ := hn; obtain ⟨s, rfl⟩ := hs; obtain ⟨b, rfl⟩ := hb
  exact of_decide_eq_true (own_all k n s b)
def own_R (n s : Int32) : Bool := decide ((s + n) - n = s) && decide (0 ≤ s.toInt) && decide (s.toInt < 8) && decide ((s + n).toInt = (s + (1 : Int32)).toInt + ((n.toNatClampNeg - 1 : Nat) : Int)) && decide (0 ≤ (s + (1 : Int32)).toInt) && decide ((s + n).toInt ≤ 8)
theorem own_rall : ∀ (n s : Fin 4), own_R (Int32.ofNat (n.val + 1)) (Int32.ofNat s.val) = true := by decide +kernel
theorem own_rng {n s : Int32} (hn : ∃ i : Fin 4, n = Int32.ofNat (i.val + 1)) (hs : ∃ i : Fin 4, s = Int32.ofNat i.val) :
    ((s + n) - n = s) ∧ (0 ≤ s.toInt) ∧ (s.toInt < 8) ∧ ((s + n).toInt = (s + (1 : Int32)).toInt + ((n.toNatClampNeg - 1 : Nat) : Int)) ∧ (0 ≤ (s + (1 : Int32)).toInt) ∧ ((s + n).toInt ≤ 8) := by
  obtain ⟨n, rfl⟩ := hn; obtain ⟨s, rfl⟩ := hs
  have h := own_rall n s
  unfold own_R at h
  simp only [Bool.and_eq_true, decide_eq_true_eq, and_assoc] at h
  exact h
theorem own_miss (rs : List Int32) (j i v : Int32) (h0 : ¬ i < 0) (h : i < j) : own_get (rs.set j.toNatClampNeg v) i = own_get rs i := by
  have hne : j.toNatClampNeg ≠ i.toNatClampNeg := by
    rw [Int32.lt_iff_toInt_lt] at h0 h
    have : (0 : Int32).toInt = 0 := rfl
    unfold Int32.toNatClampNeg; omega
  unfold own_get
  rw [List.getD_eq_getElem?_getD, List.getD_eq_getElem?_getD, List.getElem?_set_ne hne]
theorem pn_com_example_headwright_headwright_CompositeApplyPinLaw : plainName "com/example/headwright/headwright/CompositeApplyPinLaw" = true := by first | (simp [plainName, overriddenIn]; done) | decide +kernel
theorem ef_0 (m : MethodId) (x0 : Int32) (x1 : Int32) (x2 : Int32) (x3 : Int32) : entryFrame m #[(.int x0), (.int x1), (.int x2), (.int x3)] maxLocals = mkF m 0 #[.val (.int x0), .val (.int x1), .val (.int x2), .val (.int x3), .unset, .unset, .unset, .unset, .unset, .unset, .unset, .unset, .unset, .unset, .unset, .unset, .unset] [] := by first | (simp [entryFrame, mkF, argsToLocals, Value.category, maxLocals]; done) | rfl
def Q0 (Z : State) (p1 : Int32) (p2 : Int32) (p3 : Int32) (p4 : Int32) (h0 : Heap) (n0 : Nat) (v : Option Value) (h : Heap) (L : List Loc) : Prop := v = some (.int 1) ∧ Fr n0 L
abbrev G0 (Z : State) (p1 : Int32) (p2 : Int32) (p3 : Int32) (p4 : Int32) (h0 : Heap) (n0 : Nat) (s : State) : Outcome → State → Prop := fun o U' => ∃ v L, o = .returned v ∧ Q0 Z p1 p2 p3 p4 h0 n0 v U'.heap L ∧ FrameEnd s o U' L 16 128
theorem pd__28_CI_29_V : parseMethodDescriptor "(CI)V" = some ⟨[.char, .int], none⟩ := by decide +kernel
theorem pd__28_Ljava_2f_util_2f_Map_3b__5b_ZI_29_I : parseMethodDescriptor "(Ljava/util/Map;[ZI)I" = some ⟨[(.object "java/util/Map"), (.array .boolean), .int], some .int⟩ := by decide +kernel
set_option maxRecDepth 65536 in
set_option maxHeartbeats 40000000 in
theorem rm0 (l : Launch) (Z : State) (a0 : Array Value) (hw : ∀ d ∈ tables_1, d.before a0 Z = true) (ws : List Jvm.Cond) (p1 : Int32) (p2 : Int32) (p3 : Int32) (p4 : Int32) (h0 : Heap) (n0 : Nat) (Z0 : n0 ≤ h0.size)  :
    MetFree l x (head1 (Jvm.Cond.code x code maxLocals ret :: ws) room_1) (fun a U => a = #[(.int p1), (.int p2), (.int p3), (.int p4)] ∧ Z.Warmed39 U.vm ∧ U.heap = h0) (fun _ _ _ _ _ => True) (fun _ U o U' => ∃ v L, o = .returned v ∧ Q0 Z p1 p2 p3 p4 h0 n0 v U'.heap L ∧ FrameEnd U o U' L 16 128) := by
  refine MetFree.of_bodySF (plainFor_of_name pn_com_example_headwright_headwright_CompositeApplyPinLaw) hisR ?_
  intro p e s m args below meth c s₁ Bd hml0 hP hK
  obtain ⟨rfl, hZ, hh⟩ := hP
  have hx := Bd.exec
  have hby := Bd.bytes
  have hml : c.maxLocals = 17 := hml0
  have hown : s.vm.findClass "com/example/headwright/headwright/CompositeApplyPinLaw" = some m.cls := findClass_of_methodNamed Bd.named
  have hnm := (name_of_methodNamed Bd.named Bd.method).1
  have X0 : Stand p l e room_1 s m #[(.int p1), (.int p2), (.int p3), (.int p4)] below meth c s₁ [] 0 0 := Stand.of_body Bd
  have e0 : s₁.heap = h0 := by rw [← hh, Bd.state]; rfl
  have es0 : s.heap = h0 := hh
  have N0 := Fr.nil n0
  show own_Fin p e below (G0 Z p1 p2 p3 p4 h0 n0 s) (s₁.setTop (entryFrame m #[(.int p1), (.int p2), (.int p3), (.int p4)] maxLocals))
  rw [ef_0 m p1 p2 p3 p4]
  refine own_go (XS.iloadN X0.here hx rfl (hb hby at_0) rfl (Steps.refl _)) ?_
  show own_Fin _ _ _ _ (s₁.setTop (mkF m 1 #[.val (.int p1), .val (.int p2), .val (.int p3), .val (.int p4), .unset, .unset, .unset, .unset, .unset, .unset, .unset, .unset, .unset, .unset, .unset, .unset, .unset] [(.int p1)]))
  refine own_by (X0.ldcInt hx hown (mvT hZ (hw _ (List.mem_of_getElem? (i := 0) rfl))) (g := (mkF m 1 #[.val (.int p1), .val (.int p2), .val (.int p3), .val (.int p4), .unset, .unset, .unset, .unset, .unset, .unset, .unset, .unset, .unset, .unset, .unset, .unset, .unset] [(.int p1)])) rfl (hb hby at_1)) ?_
  show own_Fin _ _ _ _ (s₁.setTop (mkF m 3 #[.val (.int p1), .val (.int p2), .val (.int p3), .val (.int p4), .unset, .unset, .unset, .unset, .unset, .unset, .unset, .unset, .unset, .unset, .unset, .unset, .unset] [(.int (2147483647 : Int32)), (.int p1)]))
  refine own_go (XS.iand X0.here hx rfl (hb hby at_3) rfl (Steps.refl _)) ?_
  show own_Fin _ _ _ _ (s₁.setTop (mkF m 4 #[.val (.int p1), .val (.int p2), .val (.int p3), .val (.int p4), .unset, .unset, .unset, .unset, .unset, .unset, .unset, .unset, .unset, .unset, .unset, .unset, .unset] [(.int (p1 &&& (2147483647 : Int32)))]))
  refine own_go (XS.iconst X0.here hx rfl (hb hby at_4) (Steps.refl _)) ?_
  show own_Fin _ _ _ _ (s₁.setTop (mkF m 5 #[.val (.int p1), .val (.int p2), .val (.int p3), .val (.int p4), .unset, .unset, .unset, .unset, .unset, .unset, .unset, .unset, .unset, .unset, .unset, .unset, .unset] [(.int (3 : Int32)), (.int (p1 &&& (2147483647 : Int32)))]))
  refine own_go (iremM X0 hx rfl (hb hby at_5) rfl (by decide) (Steps.refl _)) ?_
  show own_Fin _ _ _ _ (s₁.setTop (mkF m 6 #[.val (.int p1), .val (.int p2), .val (.int p3), .val (.int p4), .unset, .unset, .unset, .unset, .unset, .unset, .unset, .unset, .unset, .unset, .unset, .unset, .unset] [(.int ((p1 &&& (2147483647 : Int32)) % (3 : Int32)))]))
  refine own_go (XS.istore X0.here hx rfl (hb hby at_6) rfl (l' := #[.val (.int p1), .val (.int p2), .val (.int p3), .val (.int p4), .val (.int ((p1 &&& (2147483647 : Int32)) % (3 : Int32))), .unset, .unset, .unset, .unset, .unset, .unset, .unset, .unset, .unset, .unset, .unset, .unset]) rfl (Steps.refl _)) ?_
  show own_Fin _ _ _ _ (s₁.setTop (mkF m 8 #[.val (.int p1), .val (.int p2), .val (.int p3), .val (.int p4), .val (.int ((p1 &&& (2147483647 : Int32)) % (3 : Int32))), .unset, .unset, .unset, .unset, .unset, .unset, .unset, .unset, .unset, .unset, .unset, .unset] []))
  generalize hz_v4_30 : ((p1 &&& (2147483647 : Int32)) % (3 : Int32)) = v4_30
  have di31 : Steps p.tables e below (s₁.setTop (mkF m 8 #[.val (.int p1), .val (.int p2), .val (.int p3), .val (.int p4), .val (.int v4_30), .unset, .unset, .unset, .unset, .unset, .unset, .unset, .unset, .unset, .unset, .unset, .unset] [])) (s₁.setTop (mkF m 31 #[.val (.int p1), .val (.int p2), .val (.int p3), .val (.int p4), .val (.int v4_30), .unset, .unset, .unset, .unset, .unset, .unset, .unset, .unset, .unset, .unset, .unset, .unset] [(.int (own_op v4_30))])) := by
    refine XS.iload X0.here hx rfl (hb hby at_8) rfl ?_
    show Steps _ _ _ (s₁.setTop (mkF m 10 #[.val (.int p1), .val (.int p2), .val (.int p3), .val (.int p4), .val (.int v4_30), .unset, .unset, .unset, .unset, .unset, .unset, .unset, .unset, .unset, .unset, .unset, .unset] [(.int v4_30)])) _
    by_cases c10_32 : v4_30 = (0 : Int32)
    · refine XS.ifNo X0.here hx rfl (hb hby at_10) rfl ((if0 _ _).trans (teq c10_32).2) ?_
      show Steps _ _ _ (s₁.setTop (mkF m 13 #[.val (.int p1), .val (.int p2), .val (.int p3), .val (.int p4), .val (.int v4_30), .unset, .unset, .unset, .unset, .unset, .unset, .unset, .unset, .unset, .unset, .unset, .unset] [])) _
      refine XS.bipush X0.here hx rfl (hb hby at_13) ?_
      show Steps _ _ _ (s₁.setTop (mkF m 15 #[.val (.int p1), .val (.int p2), .val (.int p3), .val (.int p4), .val (.int v4_30), .unset, .unset, .unset, .unset, .unset, .unset, .unset, .unset, .unset, .unset, .unset, .unset] [(.int (38 : Int32))])) _
      refine XS.goto X0.here hx rfl (pc0 := 15) (pc' := 31) rfl (hb hby at_15) (by decide) (by decide) ?_
      show Steps _ _ _ (s₁.setTop (mkF m 31 #[.val (.int p1), .val (.int p2), .val (.int p3), .val (.int p4), .val (.int v4_30), .unset, .unset, .unset, .unset, .unset, .unset, .unset, .unset, .unset, .unset, .unset, .unset] [(.int (38 : Int32))])) _
      rw [show (own_op v4_30) = (38 : Int32) from by simp [own_op, c10_32]]; exact Steps.refl _
    · refine XS.ifYes X0.here hx rfl (pc0 := 10) (pc' := 18) rfl (hb hby at_10) rfl ((if0 _ _).trans (feq c10_32).2) (by decide) (by decide) ?_
      show Steps _ _ _ (s₁.setTop (mkF m 18 #[.val (.int p1), .val (.int p2), .val (.int p3), .val (.int p4), .val (.int v4_30), .unset, .unset, .unset, .unset, .unset, .unset, .unset, .unset, .unset, .unset, .unset, .unset] [])) _
      refine XS.iload X0.here hx rfl (hb hby at_18) rfl ?_
      show Steps _ _ _ (s₁.setTop (mkF m 20 #[.val (.int p1), .val (.int p2), .val (.int p3), .val (.int p4), .val (.int v4_30), .unset, .unset, .unset, .unset, .unset, .unset, .unset, .unset, .unset, .unset, .unset, .unset] [(.int v4_30)])) _
      refine XS.iconst X0.here hx rfl (hb hby at_20) ?_
      show Steps _ _ _ (s₁.setTop (mkF m 21 #[.val (.int p1), .val (.int p2), .val (.int p3), .val (.int p4), .val (.int v4_30), .unset, .unset, .unset, .unset, .unset, .unset, .unset, .unset, .unset, .unset, .unset, .unset] [(.int (1 : Int32)), (.int v4_30)])) _
      by_cases c21_33 : v4_30 = (1 : Int32)
      · refine XS.icmpNo X0.here hx rfl (hb hby at_21) rfl (teq c21_33).2 ?_
        show Steps _ _ _ (s₁.setTop (mkF m 24 #[.val (.int p1), .val (.int p2), .val (.int p3), .val (.int p4), .val (.int v4_30), .unset, .unset, .unset, .unset, .unset, .unset, .unset, .unset, .unset, .unset, .unset, .unset] [])) _
        refine XS.bipush X0.here hx rfl (hb hby at_24) ?_
        show Steps _ _ _ (s₁.setTop (mkF m 26 #[.val (.int p1), .val (.int p2), .val (.int p3), .val (.int p4), .val (.int v4_30), .unset, .unset, .unset, .unset, .unset, .unset, .unset, .unset, .unset, .unset, .unset, .unset] [(.int (124 : Int32))])) _
        refine XS.goto X0.here hx rfl (pc0 := 26) (pc' := 31) rfl (hb hby at_26) (by decide) (by decide) ?_
        show Steps _ _ _ (s₁.setTop (mkF m 31 #[.val (.int p1), .val (.int p2), .val (.int p3), .val (.int p4), .val (.int v4_30), .unset, .unset, .unset, .unset, .unset, .unset, .unset, .unset, .unset, .unset, .unset, .unset] [(.int (124 : Int32))])) _
        rw [show (own_op v4_30) = (124 : Int32) from by simp [own_op, c10_32, c21_33]]; exact Steps.refl _
      · refine XS.icmpYes X0.here hx rfl (pc0 := 21) (pc' := 29) rfl (hb hby at_21) rfl (feq c21_33).2 (by decide) (by decide) ?_
        show Steps _ _ _ (s₁.setTop (mkF m 29 #[.val (.int p1), .val (.int p2), .val (.int p3), .val (.int p4), .val (.int v4_30), .unset, .unset, .unset, .unset, .unset, .unset, .unset, .unset, .unset, .unset, .unset, .unset] [])) _
        refine XS.bipush X0.here hx rfl (hb hby at_29) ?_
        show Steps _ _ _ (s₁.setTop (mkF m 31 #[.val (.int p1), .val (.int p2), .val (.int p3), .val (.int p4), .val (.int v4_30), .unset, .unset, .unset, .unset, .unset, .unset, .unset, .unset, .unset, .unset, .unset, .unset] [(.int (33 : Int32))])) _
        rw [show (own_op v4_30) = (33 : Int32) from by simp [own_op, c10_32, c21_33]]; exact Steps.refl _
  refine own_go di31 ?_
  show own_Fin _ _ _ _ (s₁.setTop (mkF m 31 #[.val (.int p1), .val (.int p2), .val (.int p3), .val (.int p4), .val (.int v4_30), .unset, .unset, .unset, .unset, .unset, .unset, .unset, .unset, .unset, .unset, .unset, .unset] [(.int (own_op v4_30))]))
  refine own_go (XS.istore X0.here hx rfl (hb hby at_31) rfl (l' := #[.val (.int p1), .val (.int p2), .val (.int p3), .val (.int p4), .val (.int v4_30), .val (.int (own_op v4_30)), .unset, .unset, .unset, .unset, .unset, .unset, .unset, .unset, .unset, .unset, .unset]) rfl (Steps.refl _)) ?_
  show own_Fin _ _ _ _ (s₁.setTop (mkF m 33 #[.val (.int p1), .val (.int p2), .val (.int p3), .val (.int p4), .val (.int v4_30), .val (.int (own_op v4_30)), .unset, .unset, .unset, .unset, .unset, .unset, .unset, .unset, .unset, .unset, .unset] []))
  generalize hz_v5_34 : (own_op v4_30) = v5_34
  have di35 : Steps p.tables e below (s₁.setTop (mkF m 33 #[.val (.int p1), .val (.int p2), .val (.int p3), .val (.int p4), .val (.int v4_30), .val (.int v5_34), .unset, .unset, .unset, .unset, .unset, .unset, .unset, .unset, .unset, .unset, .unset] [])) (s₁.setTop (mkF m 48 #[.val (.int p1), .val (.int p2), .val (.int p3), .val (.int p4), .val (.int v4_30), .val (.int v5_34), .unset, .unset, .unset, .unset, .unset, .unset, .unset, .unset, .unset, .unset, .unset] [(.int (own_n v4_30 p2))])) := by
    refine XS.iload X0.here hx rfl (hb hby at_33) rfl ?_
    show Steps _ _ _ (s₁.setTop (mkF m 35 #[.val (.int p1), .val (.int p2), .val (.int p3), .val (.int p4), .val (.int v4_30), .val (.int v5_34), .unset, .unset, .unset, .unset, .unset, .unset, .unset, .unset, .unset, .unset, .unset] [(.int v4_30)])) _
    refine XS.iconst X0.here hx rfl (hb hby at_35) ?_
    show Steps _ _ _ (s₁.setTop (mkF m 36 #[.val (.int p1), .val (.int p2), .val (.int p3), .val (.int p4), .val (.int v4_30), .val (.int v5_34), .unset, .unset, .unset, .unset, .unset, .unset, .unset, .unset, .unset, .unset, .unset] [(.int (2 : Int32)), (.int v4_30)])) _
    by_cases c36_36 : v4_30 = (2 : Int32)
    · refine XS.icmpNo X0.here hx rfl (hb hby at_36) rfl (teq c36_36).2 ?_
      show Steps _ _ _ (s₁.setTop (mkF m 39 #[.val (.int p1), .val (.int p2), .val (.int p3), .val (.int p4), .val (.int v4_30), .val (.int v5_34), .unset, .unset, .unset, .unset, .unset, .unset, .unset, .unset, .unset, .unset, .unset] [])) _
      refine XS.iconst X0.here hx rfl (hb hby at_39) ?_
      show Steps _ _ _ (s₁.setTop (mkF m 40 #[.val (.int p1), .val (.int p2), .val (.int p3), .val (.int p4), .val (.int v4_30), .val (.int v5_34), .unset, .unset, .unset, .unset, .unset, .unset, .unset, .unset, .unset, .unset, .unset] [(.int (1 : Int32))])) _
      refine XS.goto X0.here hx rfl (pc0 := 40) (pc' := 48) rfl (hb hby at_40) (by decide) (by decide) ?_
      show Steps _ _ _ (s₁.setTop (mkF m 48 #[.val (.int p1), .val (.int p2), .val (.int p3), .val (.int p4), .val (.int v4_30), .val (.int v5_34), .unset, .unset, .unset, .unset, .unset, .unset, .unset, .unset, .unset, .unset, .unset] [(.int (1 : Int32))])) _
      rw [show (own_n v4_30 p2) = (1 : Int32) from by simp [own_n, c36_36]]; exact Steps.refl _
    · refine XS.icmpYes X0.here hx rfl (pc0 := 36) (pc' := 43) rfl (hb hby at_36) rfl (feq c36_36).2 (by decide) (by decide) ?_
      show Steps _ _ _ (s₁.setTop (mkF m 43 #[.val (.int p1), .val (.int p2), .val (.int p3), .val (.int p4), .val (.int v4_30), .val (.int v5_34), .unset, .unset, .unset, .unset, .unset, .unset, .unset, .unset, .unset, .unset, .unset] [])) _
      refine XS.iconst X0.here hx rfl (hb hby at_43) ?_
      show Steps _ _ _ (s₁.setTop (mkF m 44 #[.val (.int p1), .val (.int p2), .val (.int p3), .val (.int p4), .val (.int v4_30), .val (.int v5_34), .unset, .unset, .unset, .unset, .unset, .unset, .unset, .unset, .unset, .unset, .unset] [(.int (1 : Int32))])) _
      refine XS.iloadN X0.here hx rfl (hb hby at_44) rfl ?_
      show Steps _ _ _ (s₁.setTop (mkF m 45 #[.val (.int p1), .val (.int p2), .val (.int p3), .val (.int p4), .val (.int v4_30), .val (.int v5_34), .unset, .unset, .unset, .unset, .unset, .unset, .unset, .unset, .unset, .unset, .unset] [(.int p2), (.int (1 : Int32))])) _
      refine XS.iconst X0.here hx rfl (hb hby at_45) ?_
      show Steps _ _ _ (s₁.setTop (mkF m 46 #[.val (.int p1), .val (.int p2), .val (.int p3), .val (.int p4), .val (.int v4_30), .val (.int v5_34), .unset, .unset, .unset, .unset, .unset, .unset, .unset, .unset, .unset, .unset, .unset] [(.int (3 : Int32)), (.int p2), (.int (1 : Int32))])) _
      refine XS.iand X0.here hx rfl (hb hby at_46) rfl ?_
      show Steps _ _ _ (s₁.setTop (mkF m 47 #[.val (.int p1), .val (.int p2), .val (.int p3), .val (.int p4), .val (.int v4_30), .val (.int v5_34), .unset, .unset, .unset, .unset, .unset, .unset, .unset, .unset, .unset, .unset, .unset] [(.int (p2 &&& (3 : Int32))), (.int (1 : Int32))])) _
      refine XS.iadd X0.here hx rfl (hb hby at_47) rfl ?_
      show Steps _ _ _ (s₁.setTop (mkF m 48 #[.val (.int p1), .val (.int p2), .val (.int p3), .val (.int p4), .val (.int v4_30), .val (.int v5_34), .unset, .unset, .unset, .unset, .unset, .unset, .unset, .unset, .unset, .unset, .unset] [(.int ((1 : Int32) + (p2 &&& (3 : Int32))))])) _
      rw [show (own_n v4_30 p2) = ((1 : Int32) + (p2 &&& (3 : Int32))) from by simp [own_n, c36_36]]; exact Steps.refl _
  refine own_go di35 ?_
  show own_Fin _ _ _ _ (s₁.setTop (mkF m 48 #[.val (.int p1), .val (.int p2), .val (.int p3), .val (.int p4), .val (.int v4_30), .val (.int v5_34), .unset, .unset, .unset, .unset, .unset, .unset, .unset, .unset, .unset, .unset, .unset] [(.int (own_n v4_30 p2))]))
  refine own_go (XS.istore X0.here hx rfl (hb hby at_48) rfl (l' := #[.val (.int p1), .val (.int p2), .val (.int p3), .val (.int p4), .val (.int v4_30), .val (.int v5_34), .val (.int (own_n v4_30 p2)), .unset, .unset, .unset, .unset, .unset, .unset, .unset, .unset, .unset, .unset]) rfl (Steps.refl _)) ?_
  show own_Fin _ _ _ _ (s₁.setTop (mkF m 50 #[.val (.int p1), .val (.int p2), .val (.int p3), .val (.int p4), .val (.int v4_30), .val (.int v5_34), .val (.int (own_n v4_30 p2)), .unset, .unset, .unset, .unset, .unset, .unset, .unset, .unset, .unset, .unset] []))
  generalize hz_v6_37 : (own_n v4_30 p2) = v6_37
  refine own_go (XS.iloadN X0.here hx rfl (hb hby at_50) rfl (Steps.refl _)) ?_
  show own_Fin _ _ _ _ (s₁.setTop (mkF m 51 #[.val (.int p1), .val (.int p2), .val (.int p3), .val (.int p4), .val (.int v4_30), .val (.int v5_34), .val (.int v6_37), .unset, .unset, .unset, .unset, .unset, .unset, .unset, .unset, .unset, .unset] [(.int p3)]))
  refine own_go (XS.iconst X0.here hx rfl (hb hby at_51) (Steps.refl _)) ?_
  show own_Fin _ _ _ _ (s₁.setTop (mkF m 52 #[.val (.int p1), .val (.int p2), .val (.int p3), .val (.int p4), .val (.int v4_30), .val (.int v5_34), .val (.int v6_37), .unset, .unset, .unset, .unset, .unset, .unset, .unset, .unset, .unset, .unset] [(.int (3 : Int32)), (.int p3)]))
  refine own_go (XS.iand X0.here hx rfl (hb hby at_52) rfl (Steps.refl _)) ?_
  show own_Fin _ _ _ _ (s₁.setTop (mkF m 53 #[.val (.int p1), .val (.int p2), .val (.int p3), .val (.int p4), .val (.int v4_30), .val (.int v5_34), .val (.int v6_37), .unset, .unset, .unset, .unset, .unset, .unset, .unset, .unset, .unset, .unset] [(.int (p3 &&& (3 : Int32)))]))
  refine own_go (XS.istore X0.here hx rfl (hb hby at_53) rfl (l' := #[.val (.int p1), .val (.int p2), .val (.int p3), .val (.int p4), .val (.int v4_30), .val (.int v5_34), .val (.int v6_37), .val (.int (p3 &&& (3 : Int32))), .unset, .unset, .unset, .unset, .unset, .unset, .unset, .unset, .unset]) rfl (Steps.refl _)) ?_
  show own_Fin _ _ _ _ (s₁.setTop (mkF m 55 #[.val (.int p1), .val (.int p2), .val (.int p3), .val (.int p4), .val (.int v4_30), .val (.int v5_34), .val (.int v6_37), .val (.int (p3 &&& (3 : Int32))), .unset, .unset, .unset, .unset, .unset, .unset, .unset, .unset, .unset] []))
  generalize hz_v7_38 : (p3 &&& (3 : Int32)) = v7_38
  refine own_go (XS.iloadN X0.here hx rfl (hb hby at_55) rfl (Steps.refl _)) ?_
  show own_Fin _ _ _ _ (s₁.setTop (mkF m 56 #[.val (.int p1), .val (.int p2), .val (.int p3), .val (.int p4), .val (.int v4_30), .val (.int v5_34), .val (.int v6_37), .val (.int v7_38), .unset, .unset, .unset, .unset, .unset, .unset, .unset, .unset, .unset] [(.int p4)]))
  refine own_go (XS.sipush X0.here hx rfl (hb hby at_56) (Steps.refl _)) ?_
  show own_Fin _ _ _ _ (s₁.setTop (mkF m 59 #[.val (.int p1), .val (.int p2), .val (.int p3), .val (.int p4), .val (.int v4_30), .val (.int v5_34), .val (.int v6_37), .val (.int v7_38), .unset, .unset, .unset, .unset, .unset, .unset, .unset, .unset, .unset] [(.int (255 : Int32)), (.int p4)]))
  refine own_go (XS.iand X0.here hx rfl (hb hby at_59) rfl (Steps.refl _)) ?_
  show own_Fin _ _ _ _ (s₁.setTop (mkF m 60 #[.val (.int p1), .val (.int p2), .val (.int p3), .val (.int p4), .val (.int v4_30), .val (.int v5_34), .val (.int v6_37), .val (.int v7_38), .unset, .unset, .unset, .unset, .unset, .unset, .unset, .unset, .unset] [(.int (p4 &&& (255 : Int32)))]))
  refine own_go (XS.istore X0.here hx rfl (hb hby at_60) rfl (l' := #[.val (.int p1), .val (.int p2), .val (.int p3), .val (.int p4), .val (.int v4_30), .val (.int v5_34), .val (.int v6_37), .val (.int v7_38), .val (.int (p4 &&& (255 : Int32))), .unset, .unset, .unset, .unset, .unset, .unset, .unset, .unset]) rfl (Steps.refl _)) ?_
  show own_Fin _ _ _ _ (s₁.setTop (mkF m 62 #[.val (.int p1), .val (.int p2), .val (.int p3), .val (.int p4), .val (.int v4_30), .val (.int v5_34), .val (.int v6_37), .val (.int v7_38), .val (.int (p4 &&& (255 : Int32))), .unset, .unset, .unset, .unset, .unset, .unset, .unset, .unset] []))
  generalize hz_v8_39 : (p4 &&& (255 : Int32)) = v8_39
  refine own_go (XS.bipush X0.here hx rfl (hb hby at_62) (Steps.refl _)) ?_
  show own_Fin _ _ _ _ (s₁.setTop (mkF m 64 #[.val (.int p1), .val (.int p2), .val (.int p3), .val (.int p4), .val (.int v4_30), .val (.int v5_34), .val (.int v6_37), .val (.int v7_38), .val (.int v8_39), .unset, .unset, .unset, .unset, .unset, .unset, .unset, .unset] [(.int (8 : Int32))]))
  obtain ⟨T40, h40, k40, X40, e40, E40, A40, st40⟩ := newP X0 hx hZ (hw _ (List.mem_of_getElem? (i := 1) rfl)) e0 (g := (mkF m 64 #[.val (.int p1), .val (.int p2), .val (.int p3), .val (.int p4), .val (.int v4_30), .val (.int v5_34), .val (.int v6_37), .val (.int v7_38), .val (.int v8_39), .unset, .unset, .unset, .unset, .unset, .unset, .unset, .unset] [(.int (8 : Int32))])) rfl (hb hby at_64) rfl (by decide) (cap := 8) (by decide) (by decide) (by decide) (by decide)
  obtain ⟨b40, g40⟩ : ∃ z, z = h0.size := ⟨_, rfl⟩
  rw [← g40] at A40 st40
  refine own_by st40 ?_
  have g_b40 : n0 ≤ b40 := Nat.le_trans Z0 (Nat.le_of_eq g40.symm)
  have Z40 : n0 ≤ h40.size := Nat.le_trans Z0 E40.1
  have V_b40 : Arv Z h40 b40 k40 .boolean (8 : Int32) [(.int (0 : Int32)), (.int (0 : Int32)), (.int (0 : Int32)), (.int (0 : Int32)), (.int (0 : Int32)), (.int (0 : Int32)), (.int (0 : Int32)), (.int (0 : Int32))] (.int (0 : Int32)) := (Arv.new A40 (by decide)).pad (pad_rep [] (.int (0 : Int32)) 8)
  show own_Fin _ _ _ _ (T40.setTop (mkF m 66 #[.val (.int p1), .val (.int p2), .val (.int p3), .val (.int p4), .val (.int v4_30), .val (.int v5_34), .val (.int v6_37), .val (.int v7_38), .val (.int v8_39), .unset, .unset, .unset, .unset, .unset, .unset, .unset, .unset] [(.ref b40)]))
  refine own_go (XS.astore X40.here hx rfl (hb hby at_66) rfl rfl (l' := #[.val (.int p1), .val (.int p2), .val (.int p3), .val (.int p4), .val (.int v4_30), .val (.int v5_34), .val (.int v6_37), .val (.int v7_38), .val (.int v8_39), .val (.ref b40), .unset, .unset, .unset, .unset, .unset, .unset, .unset]) rfl (Steps.refl _)) ?_
  show own_Fin _ _ _ _ (T40.setTop (mkF m 68 #[.val (.int p1), .val (.int p2), .val (.int p3), .val (.int p4), .val (.int v4_30), .val (.int v5_34), .val (.int v6_37), .val (.int v7_38), .val (.int v8_39), .val (.ref b40), .unset, .unset, .unset, .unset, .unset, .unset, .unset] []))
  refine own_go (XS.aload X40.here hx rfl (hb hby at_68) rfl rfl (Steps.refl _)) ?_
  show own_Fin _ _ _ _ (T40.setTop (mkF m 70 #[.val (.int p1), .val (.int p2), .val (.int p3), .val (.int p4), .val (.int v4_30), .val (.int v5_34), .val (.int v6_37), .val (.int v7_38), .val (.int v8_39), .val (.ref b40), .unset, .unset, .unset, .unset, .unset, .unset, .unset] [(.ref b40)]))
  refine own_go (XS.iconst X40.here hx rfl (hb hby at_70) (Steps.refl _)) ?_
  show own_Fin _ _ _ _ (T40.setTop (mkF m 71 #[.val (.int p1), .val (.int p2), .val (.int p3), .val (.int p4), .val (.int v4_30), .val (.int v5_34), .val (.int v6_37), .val (.int v7_38), .val (.int v8_39), .val (.ref b40), .unset, .unset, .unset, .unset, .unset, .unset, .unset] [(.int (0 : Int32)), (.ref b40)]))
  refine own_go (XS.iload X40.here hx rfl (hb hby at_71) rfl (Steps.refl _)) ?_
  show own_Fin _ _ _ _ (T40.setTop (mkF m 73 #[.val (.int p1), .val (.int p2), .val (.int p3), .val (.int p4), .val (.int v4_30), .val (.int v5_34), .val (.int v6_37), .val (.int v7_38), .val (.int v8_39), .val (.ref b40), .unset, .unset, .unset, .unset, .unset, .unset, .unset] [(.int v8_39), (.int (0 : Int32)), (.ref b40)]))
  refine own_go (XS.iconst X40.here hx rfl (hb hby at_73) (Steps.refl _)) ?_
  show own_Fin _ _ _ _ (T40.setTop (mkF m 74 #[.val (.int p1), .val (.int p2), .val (.int p3), .val (.int p4), .val (.int v4_30), .val (.int v5_34), .val (.int v6_37), .val (.int v7_38), .val (.int v8_39), .val (.ref b40), .unset, .unset, .unset, .unset, .unset, .unset, .unset] [(.int (1 : Int32)), (.int v8_39), (.int (0 : Int32)), (.ref b40)]))
  refine own_go (XS.iand X40.here hx rfl (hb hby at_74) rfl (Steps.refl _)) ?_
  show own_Fin _ _ _ _ (T40.setTop (mkF m 75 #[.val (.int p1), .val (.int p2), .val (.int p3), .val (.int p4), .val (.int v4_30), .val (.int v5_34), .val (.int v6_37), .val (.int v7_38), .val (.int v8_39), .val (.ref b40), .unset, .unset, .unset, .unset, .unset, .unset, .unset] [(.int (v8_39 &&& (1 : Int32))), (.int (0 : Int32)), (.ref b40)]))
  have di41 : Steps p.tables e below (T40.setTop (mkF m 75 #[.val (.int p1), .val (.int p2), .val (.int p3), .val (.int p4), .val (.int v4_30), .val (.int v5_34), .val (.int v6_37), .val (.int v7_38), .val (.int v8_39), .val (.ref b40), .unset, .unset, .unset, .unset, .unset, .unset, .unset] [(.int (v8_39 &&& (1 : Int32))), (.int (0 : Int32)), (.ref b40)])) (T40.setTop (mkF m 83 #[.val (.int p1), .val (.int p2), .val (.int p3), .val (.int p4), .val (.int v4_30), .val (.int v5_34), .val (.int v6_37), .val (.int v7_38), .val (.int v8_39), .val (.ref b40), .unset, .unset, .unset, .unset, .unset, .unset, .unset] [(.int (own_bit v8_39 (1 : Int32))), (.int (0 : Int32)), (.ref b40)])) := by
    by_cases c75_42 : (v8_39 &&& (1 : Int32)) = (0 : Int32)
    · refine XS.ifYes X40.here hx rfl (pc0 := 75) (pc' := 82) rfl (hb hby at_75) rfl ((if0 _ _).trans (teq c75_42).1) (by decide) (by decide) ?_
      show Steps _ _ _ (T40.setTop (mkF m 82 #[.val (.int p1), .val (.int p2), .val (.int p3), .val (.int p4), .val (.int v4_30), .val (.int v5_34), .val (.int v6_37), .val (.int v7_38), .val (.int v8_39), .val (.ref b40), .unset, .unset, .unset, .unset, .unset, .unset, .unset] [(.int (0 : Int32)), (.ref b40)])) _
      refine XS.iconst X40.here hx rfl (hb hby at_82) ?_
      show Steps _ _ _ (T40.setTop (mkF m 83 #[.val (.int p1), .val (.int p2), .val (.int p3), .val (.int p4), .val (.int v4_30), .val (.int v5_34), .val (.int v6_37), .val (.int v7_38), .val (.int v8_39), .val (.ref b40), .unset, .unset, .unset, .unset, .unset, .unset, .unset] [(.int (0 : Int32)), (.int (0 : Int32)), (.ref b40)])) _
      rw [show (own_bit v8_39 (1 : Int32)) = (0 : Int32) from by simp [own_bit, c75_42]]; exact Steps.refl _
    · refine XS.ifNo X40.here hx rfl (hb hby at_75) rfl ((if0 _ _).trans (feq c75_42).1) ?_
      show Steps _ _ _ (T40.setTop (mkF m 78 #[.val (.int p1), .val (.int p2), .val (.int p3), .val (.int p4), .val (.int v4_30), .val (.int v5_34), .val (.int v6_37), .val (.int v7_38), .val (.int v8_39), .val (.ref b40), .unset, .unset, .unset, .unset, .unset, .unset, .unset] [(.int (0 : Int32)), (.ref b40)])) _
      refine XS.iconst X40.here hx rfl (hb hby at_78) ?_
      show Steps _ _ _ (T40.setTop (mkF m 79 #[.val (.int p1), .val (.int p2), .val (.int p3), .val (.int p4), .val (.int v4_30), .val (.int v5_34), .val (.int v6_37), .val (.int v7_38), .val (.int v8_39), .val (.ref b40), .unset, .unset, .unset, .unset, .unset, .unset, .unset] [(.int (1 : Int32)), (.int (0 : Int32)), (.ref b40)])) _
      refine XS.goto X40.here hx rfl (pc0 := 79) (pc' := 83) rfl (hb hby at_79) (by decide) (by decide) ?_
      show Steps _ _ _ (T40.setTop (mkF m 83 #[.val (.int p1), .val (.int p2), .val (.int p3), .val (.int p4), .val (.int v4_30), .val (.int v5_34), .val (.int v6_37), .val (.int v7_38), .val (.int v8_39), .val (.ref b40), .unset, .unset, .unset, .unset, .unset, .unset, .unset] [(.int (1 : Int32)), (.int (0 : Int32)), (.ref b40)])) _
      rw [show (own_bit v8_39 (1 : Int32)) = (1 : Int32) from by simp [own_bit, c75_42]]; exact Steps.refl _
  refine own_go di41 ?_
  show own_Fin _ _ _ _ (T40.setTop (mkF m 83 #[.val (.int p1), .val (.int p2), .val (.int p3), .val (.int p4), .val (.int v4_30), .val (.int v5_34), .val (.int v6_37), .val (.int v7_38), .val (.int v8_39), .val (.ref b40), .unset, .unset, .unset, .unset, .unset, .unset, .unset] [(.int (own_bit v8_39 (1 : Int32))), (.int (0 : Int32)), (.ref b40)]))
  obtain ⟨cl43, Ar43, qa43, Sa43, Na43, Ha43, Ga43⟩ := id V_b40
  have hin43 : ¬ ((0 : Int32) < 0 ∨ cl43.slots.size ≤ ((0 : Int32)).toNatClampNeg) := inb_of Sa43 ⟨by decide, by decide⟩
  obtain ⟨T44, h44, X44, e44, W44, st44⟩ := stZ X40 hx hZ e40 Ar43 (j := (0 : Int32)) hin43 (g := (mkF m 83 #[.val (.int p1), .val (.int p2), .val (.int p3), .val (.int p4), .val (.int v4_30), .val (.int v5_34), .val (.int v6_37), .val (.int v7_38), .val (.int v8_39), .val (.ref b40), .unset, .unset, .unset, .unset, .unset, .unset, .unset] [(.int (own_bit v8_39 (1 : Int32))), (.int (0 : Int32)), (.ref b40)])) rfl rfl (hb hby at_83)
  refine own_by st44 ?_
  have hnr44 : nar .boolean (own_bit v8_39 (1 : Int32)) = (own_bit v8_39 (1 : Int32)) := own_nbit _ _
  rw [hnr44] at W44
  have V_b40_44 : Arv Z h44 b40 k40 .boolean (8 : Int32) [(.int (own_bit v8_39 (1 : Int32))), (.int (0 : Int32)), (.int (0 : Int32)), (.int (0 : Int32)), (.int (0 : Int32)), (.int (0 : Int32)), (.int (0 : Int32)), (.int (0 : Int32))] (.int (0 : Int32)) := Arv.set Ar43 qa43 Sa43 Na43 Ha43 Ga43 (hnr44 ▸ fits_nar_bool (own_bit v8_39 (1 : Int32))) W44 0 rfl (Nat.le_of_ble_eq_true rfl)
  have N44 := Fr.snoc X44 N0 g_b40
  have Z44 : n0 ≤ h44.size := Nat.le_trans Z40 (Keep.of_wr W44).1
  show own_Fin _ _ _ _ (T44.setTop (mkF m 84 #[.val (.int p1), .val (.int p2), .val (.int p3), .val (.int p4), .val (.int v4_30), .val (.int v5_34), .val (.int v6_37), .val (.int v7_38), .val (.int v8_39), .val (.ref b40), .unset, .unset, .unset, .unset, .unset, .unset, .unset] []))
  refine own_go (XS.aload X44.here hx rfl (hb hby at_84) rfl rfl (Steps.refl _)) ?_
  show own_Fin _ _ _ _ (T44.setTop (mkF m 86 #[.val (.int p1), .val (.int p2), .val (.int p3), .val (.int p4), .val (.int v4_30), .val (.int v5_34), .val (.int v6_37), .val (.int v7_38), .val (.int v8_39), .val (.ref b40), .unset, .unset, .unset, .unset, .unset, .unset, .unset] [(.ref b40)]))
  refine own_go (XS.iconst X44.here hx rfl (hb hby at_86) (Steps.refl _)) ?_
  show own_Fin _ _ _ _ (T44.setTop (mkF m 87 #[.val (.int p1), .val (.int p2), .val (.int p3), .val (.int p4), .val (.int v4_30), .val (.int v5_34), .val (.int v6_37), .val (.int v7_38), .val (.int v8_39), .val (.ref b40), .unset, .unset, .unset, .unset, .unset, .unset, .unset] [(.int (1 : Int32)), (.ref b40)]))
  refine own_go (XS.iload X44.here hx rfl (hb hby at_87) rfl (Steps.refl _)) ?_
  show own_Fin _ _ _ _ (T44.setTop (mkF m 89 #[.val (.int p1), .val (.int p2), .val (.int p3), .val (.int p4), .val (.int v4_30), .val (.int v5_34), .val (.int v6_37), .val (.int v7_38), .val (.int v8_39), .val (.ref b40), .unset, .unset, .unset, .unset, .unset, .unset, .unset] [(.int v8_39), (.int (1 : Int32)), (.ref b40)]))
  refine own_go (XS.iconst X44.here hx rfl (hb hby at_89) (Steps.refl _)) ?_
  show own_Fin _ _ _ _ (T44.setTop (mkF m 90 #[.val (.int p1), .val (.int p2), .val (.int p3), .val (.int p4), .val (.int v4_30), .val (.int v5_34), .val (.int v6_37), .val (.int v7_38), .val (.int v8_39), .val (.ref b40), .unset, .unset, .unset, .unset, .unset, .unset, .unset] [(.int (2 : Int32)), (.int v8_39), (.int (1 : Int32)), (.ref b40)]))
  refine own_go (XS.iand X44.here hx rfl (hb hby at_90) rfl (Steps.refl _)) ?_
  show own_Fin _ _ _ _ (T44.setTop (mkF m 91 #[.val (.int p1), .val (.int p2), .val (.int p3), .val (.int p4), .val (.int v4_30), .val (.int v5_34), .val (.int v6_37), .val (.int v7_38), .val (.int v8_39), .val (.ref b40), .unset, .unset, .unset, .unset, .unset, .unset, .unset] [(.int (v8_39 &&& (2 : Int32))), (.int (1 : Int32)), (.ref b40)]))
  have di45 : Steps p.tables e below (T44.setTop (mkF m 91 #[.val (.int p1), .val (.int p2), .val (.int p3), .val (.int p4), .val (.int v4_30), .val (.int v5_34), .val (.int v6_37), .val (.int v7_38), .val (.int v8_39), .val (.ref b40), .unset, .unset, .unset, .unset, .unset, .unset, .unset] [(.int (v8_39 &&& (2 : Int32))), (.int (1 : Int32)), (.ref b40)])) (T44.setTop (mkF m 99 #[.val (.int p1), .val (.int p2), .val (.int p3), .val (.int p4), .val (.int v4_30), .val (.int v5_34), .val (.int v6_37), .val (.int v7_38), .val (.int v8_39), .val (.ref b40), .unset, .unset, .unset, .unset, .unset, .unset, .unset] [(.int (own_bit v8_39 (2 : Int32))), (.int (1 : Int32)), (.ref b40)])) := by
    by_cases c91_46 : (v8_39 &&& (2 : Int32)) = (0 : Int32)
    · refine XS.ifYes X44.here hx rfl (pc0 := 91) (pc' := 98) rfl (hb hby at_91) rfl ((if0 _ _).trans (teq c91_46).1) (by decide) (by decide) ?_
      show Steps _ _ _ (T44.setTop (mkF m 98 #[.val (.int p1), .val (.int p2), .val (.int p3), .val (.int p4), .val (.int v4_30), .val (.int v5_34), .val (.int v6_37), .val (.int v7_38), .val (.int v8_39), .val (.ref b40), .unset, .unset, .unset, .unset, .unset, .unset, .unset] [(.int (1 : Int32)), (.ref b40)])) _
      refine XS.iconst X44.here hx rfl (hb hby at_98) ?_
      show Steps _ _ _ (T44.setTop (mkF m 99 #[.val (.int p1), .val (.int p2), .val (.int p3), .val (.int p4), .val (.int v4_30), .val (.int v5_34), .val (.int v6_37), .val (.int v7_38), .val (.int v8_39), .val (.ref b40), .unset, .unset, .unset, .unset, .unset, .unset, .unset] [(.int (0 : Int32)), (.int (1 : Int32)), (.ref b40)])) _
      rw [show (own_bit v8_39 (2 : Int32)) = (0 : Int32) from by simp [own_bit, c91_46]]; exact Steps.refl _
    · refine XS.ifNo X44.here hx rfl (hb hby at_91) rfl ((if0 _ _).trans (feq c91_46).1) ?_
      show Steps _ _ _ (T44.setTop (mkF m 94 #[.val (.int p1), .val (.int p2), .val (.int p3), .val (.int p4), .val (.int v4_30), .val (.int v5_34), .val (.int v6_37), .val (.int v7_38), .val (.int v8_39), .val (.ref b40), .unset, .unset, .unset, .unset, .unset, .unset, .unset] [(.int (1 : Int32)), (.ref b40)])) _
      refine XS.iconst X44.here hx rfl (hb hby at_94) ?_
      show Steps _ _ _ (T44.setTop (mkF m 95 #[.val (.int p1), .val (.int p2), .val (.int p3), .val (.int p4), .val (.int v4_30), .val (.int v5_34), .val (.int v6_37), .val (.int v7_38), .val (.int v8_39), .val (.ref b40), .unset, .unset, .unset, .unset, .unset, .unset, .unset] [(.int (1 : Int32)), (.int (1 : Int32)), (.ref b40)])) _
      refine XS.goto X44.here hx rfl (pc0 := 95) (pc' := 99) rfl (hb hby at_95) (by decide) (by decide) ?_
      show Steps _ _ _ (T44.setTop (mkF m 99 #[.val (.int p1), .val (.int p2), .val (.int p3), .val (.int p4), .val (.int v4_30), .val (.int v5_34), .val (.int v6_37), .val (.int v7_38), .val (.int v8_39), .val (.ref b40), .unset, .unset, .unset, .unset, .unset, .unset, .unset] [(.int (1 : Int32)), (.int (1 : Int32)), (.ref b40)])) _
      rw [show (own_bit v8_39 (2 : Int32)) = (1 : Int32) from by simp [own_bit, c91_46]]; exact Steps.refl _
  refine own_go di45 ?_
  show own_Fin _ _ _ _ (T44.setTop (mkF m 99 #[.val (.int p1), .val (.int p2), .val (.int p3), .val (.int p4), .val (.int v4_30), .val (.int v5_34), .val (.int v6_37), .val (.int v7_38), .val (.int v8_39), .val (.ref b40), .unset, .unset, .unset, .unset, .unset, .unset, .unset] [(.int (own_bit v8_39 (2 : Int32))), (.int (1 : Int32)), (.ref b40)]))
  obtain ⟨cl47, Ar47, qa47, Sa47, Na47, Ha47, Ga47⟩ := id V_b40_44
  have hin47 : ¬ ((1 : Int32) < 0 ∨ cl47.slots.size ≤ ((1 : Int32)).toNatClampNeg) := inb_of Sa47 ⟨by decide, by decide⟩
  obtain ⟨T48, h48, X48, e48, W48, st48⟩ := stZ X44 hx hZ e44 Ar47 (j := (1 : Int32)) hin47 (g := (mkF m 99 #[.val (.int p1), .val (.int p2), .val (.int p3), .val (.int p4), .val (.int v4_30), .val (.int v5_34), .val (.int v6_37), .val (.int v7_38), .val (.int v8_39), .val (.ref b40), .unset, .unset, .unset, .unset, .unset, .unset, .unset] [(.int (own_bit v8_39 (2 : Int32))), (.int (1 : Int32)), (.ref b40)])) rfl rfl (hb hby at_99)
  refine own_by st48 ?_
  have hnr48 : nar .boolean (own_bit v8_39 (2 : Int32)) = (own_bit v8_39 (2 : Int32)) := own_nbit _ _
  rw [hnr48] at W48
  have V_b40_48 : Arv Z h48 b40 k40 .boolean (8 : Int32) [(.int (own_bit v8_39 (1 : Int32))), (.int (own_bit v8_39 (2 : Int32))), (.int (0 : Int32)), (.int (0 : Int32)), (.int (0 : Int32)), (.int (0 : Int32)), (.int (0 : Int32)), (.int (0 : Int32))] (.int (0 : Int32)) := Arv.set Ar47 qa47 Sa47 Na47 Ha47 Ga47 (hnr48 ▸ fits_nar_bool (own_bit v8_39 (2 : Int32))) W48 1 rfl (Nat.le_of_ble_eq_true rfl)
  have N48 := Fr.snoc X48 N44 g_b40
  have Z48 : n0 ≤ h48.size := Nat.le_trans Z44 (Keep.of_wr W48).1
  show own_Fin _ _ _ _ (T48.setTop (mkF m 100 #[.val (.int p1), .val (.int p2), .val (.int p3), .val (.int p4), .val (.int v4_30), .val (.int v5_34), .val (.int v6_37), .val (.int v7_38), .val (.int v8_39), .val (.ref b40), .unset, .unset, .unset, .unset, .unset, .unset, .unset] []))
  refine own_go (XS.aload X48.here hx rfl (hb hby at_100) rfl rfl (Steps.refl _)) ?_
  show own_Fin _ _ _ _ (T48.setTop (mkF m 102 #[.val (.int p1), .val (.int p2), .val (.int p3), .val (.int p4), .val (.int v4_30), .val (.int v5_34), .val (.int v6_37), .val (.int v7_38), .val (.int v8_39), .val (.ref b40), .unset, .unset, .unset, .unset, .unset, .unset, .unset] [(.ref b40)]))
  refine own_go (XS.iconst X48.here hx rfl (hb hby at_102) (Steps.refl _)) ?_
  show own_Fin _ _ _ _ (T48.setTop (mkF m 103 #[.val (.int p1), .val (.int p2), .val (.int p3), .val (.int p4), .val (.int v4_30), .val (.int v5_34), .val (.int v6_37), .val (.int v7_38), .val (.int v8_39), .val (.ref b40), .unset, .unset, .unset, .unset, .unset, .unset, .unset] [(.int (2 : Int32)), (.ref b40)]))
  refine own_go (XS.iload X48.here hx rfl (hb hby at_103) rfl (Steps.refl _)) ?_
  show own_Fin _ _ _ _ (T48.setTop (mkF m 105 #[.val (.int p1), .val (.int p2), .val (.int p3), .val (.int p4), .val (.int v4_30), .val (.int v5_34), .val (.int v6_37), .val (.int v7_38), .val (.int v8_39), .val (.ref b40), .unset, .unset, .unset, .unset, .unset, .unset, .unset] [(.int v8_39), (.int (2 : Int32)), (.ref b40)]))
  refine own_go (XS.iconst X48.here hx rfl (hb hby at_105) (Steps.refl _)) ?_
  show own_Fin _ _ _ _ (T48.setTop (mkF m 106 #[.val (.int p1), .val (.int p2), .val (.int p3), .val (.int p4), .val (.int v4_30), .val (.int v5_34), .val (.int v6_37), .val (.int v7_38), .val (.int v8_39), .val (.ref b40), .unset, .unset, .unset, .unset, .unset, .unset, .unset] [(.int (4 : Int32)), (.int v8_39), (.int (2 : Int32)), (.ref b40)]))
  refine own_go (XS.iand X48.here hx rfl (hb hby at_106) rfl (Steps.refl _)) ?_
  show own_Fin _ _ _ _ (T48.setTop (mkF m 107 #[.val (.int p1), .val (.int p2), .val (.int p3), .val (.int p4), .val (.int v4_30), .val (.int v5_34), .val (.int v6_37), .val (.int v7_38), .val (.int v8_39), .val (.ref b40), .unset, .unset, .unset, .unset, .unset, .unset, .unset] [(.int (v8_39 &&& (4 : Int32))), (.int (2 : Int32)), (.ref b40)]))
  have di49 : Steps p.tables e below (T48.setTop (mkF m 107 #[.val (.int p1), .val (.int p2), .val (.int p3), .val (.int p4), .val (.int v4_30), .val (.int v5_34), .val (.int v6_37), .val (.int v7_38), .val (.int v8_39), .val (.ref b40), .unset, .unset, .unset, .unset, .unset, .unset, .unset] [(.int (v8_39 &&& (4 : Int32))), (.int (2 : Int32)), (.ref b40)])) (T48.setTop (mkF m 115 #[.val (.int p1), .val (.int p2), .val (.int p3), .val (.int p4), .val (.int v4_30), .val (.int v5_34), .val (.int v6_37), .val (.int v7_38), .val (.int v8_39), .val (.ref b40), .unset, .unset, .unset, .unset, .unset, .unset, .unset] [(.int (own_bit v8_39 (4 : Int32))), (.int (2 : Int32)), (.ref b40)])) := by
    by_cases c107_50 : (v8_39 &&& (4 : Int32)) = (0 : Int32)
    · refine XS.ifYes X48.here hx rfl (pc0 := 107) (pc' := 114) rfl (hb hby at_107) rfl ((if0 _ _).trans (teq c107_50).1) (by decide) (by decide) ?_
      show Steps _ _ _ (T48.setTop (mkF m 114 #[.val (.int p1), .val (.int p2), .val (.int p3), .val (.int p4), .val (.int v4_30), .val (.int v5_34), .val (.int v6_37), .val (.int v7_38), .val (.int v8_39), .val (.ref b40), .unset, .unset, .unset, .unset, .unset, .unset, .unset] [(.int (2 : Int32)), (.ref b40)])) _
      refine XS.iconst X48.here hx rfl (hb hby at_114) ?_
      show Steps _ _ _ (T48.setTop (mkF m 115 #[.val (.int p1), .val (.int p2), .val (.int p3), .val (.int p4), .val (.int v4_30), .val (.int v5_34), .val (.int v6_37), .val (.int v7_38), .val (.int v8_39), .val (.ref b40), .unset, .unset, .unset, .unset, .unset, .unset, .unset] [(.int (0 : Int32)), (.int (2 : Int32)), (.ref b40)])) _
      rw [show (own_bit v8_39 (4 : Int32)) = (0 : Int32) from by simp [own_bit, c107_50]]; exact Steps.refl _
    · refine XS.ifNo X48.here hx rfl (hb hby at_107) rfl ((if0 _ _).trans (feq c107_50).1) ?_
      show Steps _ _ _ (T48.setTop (mkF m 110 #[.val (.int p1), .val (.int p2), .val (.int p3), .val (.int p4), .val (.int v4_30), .val (.int v5_34), .val (.int v6_37), .val (.int v7_38), .val (.int v8_39), .val (.ref b40), .unset, .unset, .unset, .unset, .unset, .unset, .unset] [(.int (2 : Int32)), (.ref b40)])) _
      refine XS.iconst X48.here hx rfl (hb hby at_110) ?_
      show Steps _ _ _ (T48.setTop (mkF m 111 #[.val (.int p1), .val (.int p2), .val (.int p3), .val (.int p4), .val (.int v4_30), .val (.int v5_34), .val (.int v6_37), .val (.int v7_38), .val (.int v8_39), .val (.ref b40), .unset, .unset, .unset, .unset, .unset, .unset, .unset] [(.int (1 : Int32)), (.int (2 : Int32)), (.ref b40)])) _
      refine XS.goto X48.here hx rfl (pc0 := 111) (pc' := 115) rfl (hb hby at_111) (by decide) (by decide) ?_
      show Steps _ _ _ (T48.setTop (mkF m 115 #[.val (.int p1), .val (.int p2), .val (.int p3), .val (.int p4), .val (.int v4_30), .val (.int v5_34), .val (.int v6_37), .val (.int v7_38), .val (.int v8_39), .val (.ref b40), .unset, .unset, .unset, .unset, .unset, .unset, .unset] [(.int (1 : Int32)), (.int (2 : Int32)), (.ref b40)])) _
      rw [show (own_bit v8_39 (4 : Int32)) = (1 : Int32) from by simp [own_bit, c107_50]]; exact Steps.refl _
  refine own_go di49 ?_
  show own_Fin _ _ _ _ (T48.setTop (mkF m 115 #[.val (.int p1), .val (.int p2), .val (.int p3), .val (.int p4), .val (.int v4_30), .val (.int v5_34), .val (.int v6_37), .val (.int v7_38), .val (.int v8_39), .val (.ref b40), .unset, .unset, .unset, .unset, .unset, .unset, .unset] [(.int (own_bit v8_39 (4 : Int32))), (.int (2 : Int32)), (.ref b40)]))
  obtain ⟨cl51, Ar51, qa51, Sa51, Na51, Ha51, Ga51⟩ := id V_b40_48
  have hin51 : ¬ ((2 : Int32) < 0 ∨ cl51.slots.size ≤ ((2 : Int32)).toNatClampNeg) := inb_of Sa51 ⟨by decide, by decide⟩
  obtain ⟨T52, h52, X52, e52, W52, st52⟩ := stZ X48 hx hZ e48 Ar51 (j := (2 : Int32)) hin51 (g := (mkF m 115 #[.val (.int p1), .val (.int p2), .val (.int p3), .val (.int p4), .val (.int v4_30), .val (.int v5_34), .val (.int v6_37), .val (.int v7_38), .val (.int v8_39), .val (.ref b40), .unset, .unset, .unset, .unset, .unset, .unset, .unset] [(.int (own_bit v8_39 (4 : Int32))), (.int (2 : Int32)), (.ref b40)])) rfl rfl (hb hby at_115)
  refine own_by st52 ?_
  have hnr52 : nar .boolean (own_bit v8_39 (4 : Int32)) = (own_bit v8_39 (4 : Int32)) := own_nbit _ _
  rw [hnr52] at W52
  have V_b40_52 : Arv Z h52 b40 k40 .boolean (8 : Int32) [(.int (own_bit v8_39 (1 : Int32))), (.int (own_bit v8_39 (2 : Int32))), (.int (own_bit v8_39 (4 : Int32))), (.int (0 : Int32)), (.int (0 : Int32)), (.int (0 : Int32)), (.int (0 : Int32)), (.int (0 : Int32))] (.int (0 : Int32)) := Arv.set Ar51 qa51 Sa51 Na51 Ha51 Ga51 (hnr52 ▸ fits_nar_bool (own_bit v8_39 (4 : Int32))) W52 2 rfl (Nat.le_of_ble_eq_true rfl)
  have N52 := Fr.snoc X52 N48 g_b40
  have Z52 : n0 ≤ h52.size := Nat.le_trans Z48 (Keep.of_wr W52).1
  show own_Fin _ _ _ _ (T52.setTop (mkF m 116 #[.val (.int p1), .val (.int p2), .val (.int p3), .val (.int p4), .val (.int v4_30), .val (.int v5_34), .val (.int v6_37), .val (.int v7_38), .val (.int v8_39), .val (.ref b40), .unset, .unset, .unset, .unset, .unset, .unset, .unset] []))
  refine own_go (XS.aload X52.here hx rfl (hb hby at_116) rfl rfl (Steps.refl _)) ?_
  show own_Fin _ _ _ _ (T52.setTop (mkF m 118 #[.val (.int p1), .val (.int p2), .val (.int p3), .val (.int p4), .val (.int v4_30), .val (.int v5_34), .val (.int v6_37), .val (.int v7_38), .val (.int v8_39), .val (.ref b40), .unset, .unset, .unset, .unset, .unset, .unset, .unset] [(.ref b40)]))
  refine own_go (XS.iconst X52.here hx rfl (hb hby at_118) (Steps.refl _)) ?_
  show own_Fin _ _ _ _ (T52.setTop (mkF m 119 #[.val (.int p1), .val (.int p2), .val (.int p3), .val (.int p4), .val (.int v4_30), .val (.int v5_34), .val (.int v6_37), .val (.int v7_38), .val (.int v8_39), .val (.ref b40), .unset, .unset, .unset, .unset, .unset, .unset, .unset] [(.int (3 : Int32)), (.ref b40)]))
  refine own_go (XS.iload X52.here hx rfl (hb hby at_119) rfl (Steps.refl _)) ?_
  show own_Fin _ _ _ _ (T52.setTop (mkF m 121 #[.val (.int p1), .val (.int p2), .val (.int p3), .val (.int p4), .val (.int v4_30), .val (.int v5_34), .val (.int v6_37), .val (.int v7_38), .val (.int v8_39), .val (.ref b40), .unset, .unset, .unset, .unset, .unset, .unset, .unset] [(.int v8_39), (.int (3 : Int32)), (.ref b40)]))
  refine own_go (XS.bipush X52.here hx rfl (hb hby at_121) (Steps.refl _)) ?_
  show own_Fin _ _ _ _ (T52.setTop (mkF m 123 #[.val (.int p1), .val (.int p2), .val (.int p3), .val (.int p4), .val (.int v4_30), .val (.int v5_34), .val (.int v6_37), .val (.int v7_38), .val (.int v8_39), .val (.ref b40), .unset, .unset, .unset, .unset, .unset, .unset, .unset] [(.int (8 : Int32)), (.int v8_39), (.int (3 : Int32)), (.ref b40)]))
  refine own_go (XS.iand X52.here hx rfl (hb hby at_123) rfl (Steps.refl _)) ?_
  show own_Fin _ _ _ _ (T52.setTop (mkF m 124 #[.val (.int p1), .val (.int p2), .val (.int p3), .val (.int p4), .val (.int v4_30), .val (.int v5_34), .val (.int v6_37), .val (.int v7_38), .val (.int v8_39), .val (.ref b40), .unset, .unset, .unset, .unset, .unset, .unset, .unset] [(.int (v8_39 &&& (8 : Int32))), (.int (3 : Int32)), (.ref b40)]))
  have di53 : Steps p.tables e below (T52.setTop (mkF m 124 #[.val (.int p1), .val (.int p2), .val (.int p3), .val (.int p4), .val (.int v4_30), .val (.int v5_34), .val (.int v6_37), .val (.int v7_38), .val (.int v8_39), .val (.ref b40), .unset, .unset, .unset, .unset, .unset, .unset, .unset] [(.int (v8_39 &&& (8 : Int32))), (.int (3 : Int32)), (.ref b40)])) (T52.setTop (mkF m 132 #[.val (.int p1), .val (.int p2), .val (.int p3), .val (.int p4), .val (.int v4_30), .val (.int v5_34), .val (.int v6_37), .val (.int v7_38), .val (.int v8_39), .val (.ref b40), .unset, .unset, .unset, .unset, .unset, .unset, .unset] [(.int (own_bit v8_39 (8 : Int32))), (.int (3 : Int32)), (.ref b40)])) := by
    by_cases c124_54 : (v8_39 &&& (8 : Int32)) = (0 : Int32)
    · refine XS.ifYes X52.here hx rfl (pc0 := 124) (pc' := 131) rfl (hb hby at_124) rfl ((if0 _ _).trans (teq c124_54).1) (by decide) (by decide) ?_
      show Steps _ _ _ (T52.setTop (mkF m 131 #[.val (.int p1), .val (.int p2), .val (.int p3), .val (.int p4), .val (.int v4_30), .val (.int v5_34), .val (.int v6_37), .val (.int v7_38), .val (.int v8_39), .val (.ref b40), .unset, .unset, .unset, .unset, .unset, .unset, .unset] [(.int (3 : Int32)), (.ref b40)])) _
      refine XS.iconst X52.here hx rfl (hb hby at_131) ?_
      show Steps _ _ _ (T52.setTop (mkF m 132 #[.val (.int p1), .val (.int p2), .val (.int p3), .val (.int p4), .val (.int v4_30), .val (.int v5_34), .val (.int v6_37), .val (.int v7_38), .val (.int v8_39), .val (.ref b40), .unset, .unset, .unset, .unset, .unset, .unset, .unset] [(.int (0 : Int32)), (.int (3 : Int32)), (.ref b40)])) _
      rw [show (own_bit v8_39 (8 : Int32)) = (0 : Int32) from by simp [own_bit, c124_54]]; exact Steps.refl _
    · refine XS.ifNo X52.here hx rfl (hb hby at_124) rfl ((if0 _ _).trans (feq c124_54).1) ?_
      show Steps _ _ _ (T52.setTop (mkF m 127 #[.val (.int p1), .val (.int p2), .val (.int p3), .val (.int p4), .val (.int v4_30), .val (.int v5_34), .val (.int v6_37), .val (.int v7_38), .val (.int v8_39), .val (.ref b40), .unset, .unset, .unset, .unset, .unset, .unset, .unset] [(.int (3 : Int32)), (.ref b40)])) _
      refine XS.iconst X52.here hx rfl (hb hby at_127) ?_
      show Steps _ _ _ (T52.setTop (mkF m 128 #[.val (.int p1), .val (.int p2), .val (.int p3), .val (.int p4), .val (.int v4_30), .val (.int v5_34), .val (.int v6_37), .val (.int v7_38), .val (.int v8_39), .val (.ref b40), .unset, .unset, .unset, .unset, .unset, .unset, .unset] [(.int (1 : Int32)), (.int (3 : Int32)), (.ref b40)])) _
      refine XS.goto X52.here hx rfl (pc0 := 128) (pc' := 132) rfl (hb hby at_128) (by decide) (by decide) ?_
      show Steps _ _ _ (T52.setTop (mkF m 132 #[.val (.int p1), .val (.int p2), .val (.int p3), .val (.int p4), .val (.int v4_30), .val (.int v5_34), .val (.int v6_37), .val (.int v7_38), .val (.int v8_39), .val (.ref b40), .unset, .unset, .unset, .unset, .unset, .unset, .unset] [(.int (1 : Int32)), (.int (3 : Int32)), (.ref b40)])) _
      rw [show (own_bit v8_39 (8 : Int32)) = (1 : Int32) from by simp [own_bit, c124_54]]; exact Steps.refl _
  refine own_go di53 ?_
  show own_Fin _ _ _ _ (T52.setTop (mkF m 132 #[.val (.int p1), .val (.int p2), .val (.int p3), .val (.int p4), .val (.int v4_30), .val (.int v5_34), .val (.int v6_37), .val (.int v7_38), .val (.int v8_39), .val (.ref b40), .unset, .unset, .unset, .unset, .unset, .unset, .unset] [(.int (own_bit v8_39 (8 : Int32))), (.int (3 : Int32)), (.ref b40)]))
  obtain ⟨cl55, Ar55, qa55, Sa55, Na55, Ha55, Ga55⟩ := id V_b40_52
  have hin55 : ¬ ((3 : Int32) < 0 ∨ cl55.slots.size ≤ ((3 : Int32)).toNatClampNeg) := inb_of Sa55 ⟨by decide, by decide⟩
  obtain ⟨T56, h56, X56, e56, W56, st56⟩ := stZ X52 hx hZ e52 Ar55 (j := (3 : Int32)) hin55 (g := (mkF m 132 #[.val (.int p1), .val (.int p2), .val (.int p3), .val (.int p4), .val (.int v4_30), .val (.int v5_34), .val (.int v6_37), .val (.int v7_38), .val (.int v8_39), .val (.ref b40), .unset, .unset, .unset, .unset, .unset, .unset, .unset] [(.int (own_bit v8_39 (8 : Int32))), (.int (3 : Int32)), (.ref b40)])) rfl rfl (hb hby at_132)
  refine own_by st56 ?_
  have hnr56 : nar .boolean (own_bit v8_39 (8 : Int32)) = (own_bit v8_39 (8 : Int32)) := own_nbit _ _
  rw [hnr56] at W56
  have V_b40_56 : Arv Z h56 b40 k40 .boolean (8 : Int32) [(.int (own_bit v8_39 (1 : Int32))), (.int (own_bit v8_39 (2 : Int32))), (.int (own_bit v8_39 (4 : Int32))), (.int (own_bit v8_39 (8 : Int32))), (.int (0 : Int32)), (.int (0 : Int32)), (.int (0 : Int32)), (.int (0 : Int32))] (.int (0 : Int32)) := Arv.set Ar55 qa55 Sa55 Na55 Ha55 Ga55 (hnr56 ▸ fits_nar_bool (own_bit v8_39 (8 : Int32))) W56 3 rfl (Nat.le_of_ble_eq_true rfl)
  have N56 := Fr.snoc X56 N52 g_b40
  have Z56 : n0 ≤ h56.size := Nat.le_trans Z52 (Keep.of_wr W56).1
  show own_Fin _ _ _ _ (T56.setTop (mkF m 133 #[.val (.int p1), .val (.int p2), .val (.int p3), .val (.int p4), .val (.int v4_30), .val (.int v5_34), .val (.int v6_37), .val (.int v7_38), .val (.int v8_39), .val (.ref b40), .unset, .unset, .unset, .unset, .unset, .unset, .unset] []))
  refine own_go (XS.aload X56.here hx rfl (hb hby at_133) rfl rfl (Steps.refl _)) ?_
  show own_Fin _ _ _ _ (T56.setTop (mkF m 135 #[.val (.int p1), .val (.int p2), .val (.int p3), .val (.int p4), .val (.int v4_30), .val (.int v5_34), .val (.int v6_37), .val (.int v7_38), .val (.int v8_39), .val (.ref b40), .unset, .unset, .unset, .unset, .unset, .unset, .unset] [(.ref b40)]))
  refine own_go (XS.iconst X56.here hx rfl (hb hby at_135) (Steps.refl _)) ?_
  show own_Fin _ _ _ _ (T56.setTop (mkF m 136 #[.val (.int p1), .val (.int p2), .val (.int p3), .val (.int p4), .val (.int v4_30), .val (.int v5_34), .val (.int v6_37), .val (.int v7_38), .val (.int v8_39), .val (.ref b40), .unset, .unset, .unset, .unset, .unset, .unset, .unset] [(.int (4 : Int32)), (.ref b40)]))
  refine own_go (XS.iload X56.here hx rfl (hb hby at_136) rfl (Steps.refl _)) ?_
  show own_Fin _ _ _ _ (T56.setTop (mkF m 138 #[.val (.int p1), .val (.int p2), .val (.int p3), .val (.int p4), .val (.int v4_30), .val (.int v5_34), .val (.int v6_37), .val (.int v7_38), .val (.int v8_39), .val (.ref b40), .unset, .unset, .unset, .unset, .unset, .unset, .unset] [(.int v8_39), (.int (4 : Int32)), (.ref b40)]))
  refine own_go (XS.bipush X56.here hx rfl (hb hby at_138) (Steps.refl _)) ?_
  show own_Fin _ _ _ _ (T56.setTop (mkF m 140 #[.val (.int p1), .val (.int p2), .val (.int p3), .val (.int p4), .val (.int v4_30), .val (.int v5_34), .val (.int v6_37), .val (.int v7_38), .val (.int v8_39), .val (.ref b40), .unset, .unset, .unset, .unset, .unset, .unset, .unset] [(.int (16 : Int32)), (.int v8_39), (.int (4 : Int32)), (.ref b40)]))
  refine own_go (XS.iand X56.here hx rfl (hb hby at_140) rfl (Steps.refl _)) ?_
  show own_Fin _ _ _ _ (T56.setTop (mkF m 141 #[.val (.int p1), .val (.int p2), .val (.int p3), .val (.int p4), .val (.int v4_30), .val (.int v5_34), .val (.int v6_37), .val (.int v7_38), .val (.int v8_39), .val (.ref b40), .unset, .unset, .unset, .unset, .unset, .unset, .unset] [(.int (v8_39 &&& (16 : Int32))), (.int (4 : Int32)), (.ref b40)]))
  have di57 : Steps p.tables e below (T56.setTop (mkF m 141 #[.val (.int p1), .val (.int p2), .val (.int p3), .val (.int p4), .val (.int v4_30), .val (.int v5_34), .val (.int v6_37), .val (.int v7_38), .val (.int v8_39), .val (.ref b40), .unset, .unset, .unset, .unset, .unset, .unset, .unset] [(.int (v8_39 &&& (16 : Int32))), (.int (4 : Int32)), (.ref b40)])) (T56.setTop (mkF m 149 #[.val (.int p1), .val (.int p2), .val (.int p3), .val (.int p4), .val (.int v4_30), .val (.int v5_34), .val (.int v6_37), .val (.int v7_38), .val (.int v8_39), .val (.ref b40), .unset, .unset, .unset, .unset, .unset, .unset, .unset] [(.int (own_bit v8_39 (16 : Int32))), (.int (4 : Int32)), (.ref b40)])) := by
    by_cases c141_58 : (v8_39 &&& (16 : Int32)) = (0 : Int32)
    · refine XS.ifYes X56.here hx rfl (pc0 := 141) (pc' := 148) rfl (hb hby at_141) rfl ((if0 _ _).trans (teq c141_58).1) (by decide) (by decide) ?_
      show Steps _ _ _ (T56.setTop (mkF m 148 #[.val (.int p1), .val (.int p2), .val (.int p3), .val (.int p4), .val (.int v4_30), .val (.int v5_34), .val (.int v6_37), .val (.int v7_38), .val (.int v8_39), .val (.ref b40), .unset, .unset, .unset, .unset, .unset, .unset, .unset] [(.int (4 : Int32)), (.ref b40)])) _
      refine XS.iconst X56.here hx rfl (hb hby at_148) ?_
      show Steps _ _ _ (T56.setTop (mkF m 149 #[.val (.int p1), .val (.int p2), .val (.int p3), .val (.int p4), .val (.int v4_30), .val (.int v5_34), .val (.int v6_37), .val (.int v7_38), .val (.int v8_39), .val (.ref b40), .unset, .unset, .unset, .unset, .unset, .unset, .unset] [(.int (0 : Int32)), (.int (4 : Int32)), (.ref b40)])) _
      rw [show (own_bit v8_39 (16 : Int32)) = (0 : Int32) from by simp [own_bit, c141_58]]; exact Steps.refl _
    · refine XS.ifNo X56.here hx rfl (hb hby at_141) rfl ((if0 _ _).trans (feq c141_58).1) ?_
      show Steps _ _ _ (T56.setTop (mkF m 144 #[.val (.int p1), .val (.int p2), .val (.int p3), .val (.int p4), .val (.int v4_30), .val (.int v5_34), .val (.int v6_37), .val (.int v7_38), .val (.int v8_39), .val (.ref b40), .unset, .unset, .unset, .unset, .unset, .unset, .unset] [(.int (4 : Int32)), (.ref b40)])) _
      refine XS.iconst X56.here hx rfl (hb hby at_144) ?_
      show Steps _ _ _ (T56.setTop (mkF m 145 #[.val (.int p1), .val (.int p2), .val (.int p3), .val (.int p4), .val (.int v4_30), .val (.int v5_34), .val (.int v6_37), .val (.int v7_38), .val (.int v8_39), .val (.ref b40), .unset, .unset, .unset, .unset, .unset, .unset, .unset] [(.int (1 : Int32)), (.int (4 : Int32)), (.ref b40)])) _
      refine XS.goto X56.here hx rfl (pc0 := 145) (pc' := 149) rfl (hb hby at_145) (by decide) (by decide) ?_
      show Steps _ _ _ (T56.setTop (mkF m 149 #[.val (.int p1), .val (.int p2), .val (.int p3), .val (.int p4), .val (.int v4_30), .val (.int v5_34), .val (.int v6_37), .val (.int v7_38), .val (.int v8_39), .val (.ref b40), .unset, .unset, .unset, .unset, .unset, .unset, .unset] [(.int (1 : Int32)), (.int (4 : Int32)), (.ref b40)])) _
      rw [show (own_bit v8_39 (16 : Int32)) = (1 : Int32) from by simp [own_bit, c141_58]]; exact Steps.refl _
  refine own_go di57 ?_
  show own_Fin _ _ _ _ (T56.setTop (mkF m 149 #[.val (.int p1), .val (.int p2), .val (.int p3), .val (.int p4), .val (.int v4_30), .val (.int v5_34), .val (.int v6_37), .val (.int v7_38), .val (.int v8_39), .val (.ref b40), .unset, .unset, .unset, .unset, .unset, .unset, .unset] [(.int (own_bit v8_39 (16 : Int32))), (.int (4 : Int32)), (.ref b40)]))
  obtain ⟨cl59, Ar59, qa59, Sa59, Na59, Ha59, Ga59⟩ := id V_b40_56
  have hin59 : ¬ ((4 : Int32) < 0 ∨ cl59.slots.size ≤ ((4 : Int32)).toNatClampNeg) := inb_of Sa59 ⟨by decide, by decide⟩
  obtain ⟨T60, h60, X60, e60, W60, st60⟩ := stZ X56 hx hZ e56 Ar59 (j := (4 : Int32)) hin59 (g := (mkF m 149 #[.val (.int p1), .val (.int p2), .val (.int p3), .val (.int p4), .val (.int v4_30), .val (.int v5_34), .val (.int v6_37), .val (.int v7_38), .val (.int v8_39), .val (.ref b40), .unset, .unset, .unset, .unset, .unset, .unset, .unset] [(.int (own_bit v8_39 (16 : Int32))), (.int (4 : Int32)), (.ref b40)])) rfl rfl (hb hby at_149)
  refine own_by st60 ?_
  have hnr60 : nar .boolean (own_bit v8_39 (16 : Int32)) = (own_bit v8_39 (16 : Int32)) := own_nbit _ _
  rw [hnr60] at W60
  have V_b40_60 : Arv Z h60 b40 k40 .boolean (8 : Int32) [(.int (own_bit v8_39 (1 : Int32))), (.int (own_bit v8_39 (2 : Int32))), (.int (own_bit v8_39 (4 : Int32))), (.int (own_bit v8_39 (8 : Int32))), (.int (own_bit v8_39 (16 : Int32))), (.int (0 : Int32)), (.int (0 : Int32)), (.int (0 : Int32))] (.int (0 : Int32)) := Arv.set Ar59 qa59 Sa59 Na59 Ha59 Ga59 (hnr60 ▸ fits_nar_bool (own_bit v8_39 (16 : Int32))) W60 4 rfl (Nat.le_of_ble_eq_true rfl)
  have N60 := Fr.snoc X60 N56 g_b40
  have Z60 : n0 ≤ h60.size := Nat.le_trans Z56 (Keep.of_wr W60).1
  show own_Fin _ _ _ _ (T60.setTop (mkF m 150 #[.val (.int p1), .val (.int p2), .val (.int p3), .val (.int p4), .val (.int v4_30), .val (.int v5_34), .val (.int v6_37), .val (.int v7_38), .val (.int v8_39), .val (.ref b40), .unset, .unset, .unset, .unset, .unset, .unset, .unset] []))
  refine own_go (XS.aload X60.here hx rfl (hb hby at_150) rfl rfl (Steps.refl _)) ?_
  show own_Fin _ _ _ _ (T60.setTop (mkF m 152 #[.val (.int p1), .val (.int p2), .val (.int p3), .val (.int p4), .val (.int v4_30), .val (.int v5_34), .val (.int v6_37), .val (.int v7_38), .val (.int v8_39), .val (.ref b40), .unset, .unset, .unset, .unset, .unset, .unset, .unset] [(.ref b40)]))
  refine own_go (XS.iconst X60.here hx rfl (hb hby at_152) (Steps.refl _)) ?_
  show own_Fin _ _ _ _ (T60.setTop (mkF m 153 #[.val (.int p1), .val (.int p2), .val (.int p3), .val (.int p4), .val (.int v4_30), .val (.int v5_34), .val (.int v6_37), .val (.int v7_38), .val (.int v8_39), .val (.ref b40), .unset, .unset, .unset, .unset, .unset, .unset, .unset] [(.int (5 : Int32)), (.ref b40)]))
  refine own_go (XS.iload X60.here hx rfl (hb hby at_153) rfl (Steps.refl _)) ?_
  show own_Fin _ _ _ _ (T60.setTop (mkF m 155 #[.val (.int p1), .val (.int p2), .val (.int p3), .val (.int p4), .val (.int v4_30), .val (.int v5_34), .val (.int v6_37), .val (.int v7_38), .val (.int v8_39), .val (.ref b40), .unset, .unset, .unset, .unset, .unset, .unset, .unset] [(.int v8_39), (.int (5 : Int32)), (.ref b40)]))
  refine own_go (XS.bipush X60.here hx rfl (hb hby at_155) (Steps.refl _)) ?_
  show own_Fin _ _ _ _ (T60.setTop (mkF m 157 #[.val (.int p1), .val (.int p2), .val (.int p3), .val (.int p4), .val (.int v4_30), .val (.int v5_34), .val (.int v6_37), .val (.int v7_38), .val (.int v8_39), .val (.ref b40), .unset, .unset, .unset, .unset, .unset, .unset, .unset] [(.int (32 : Int32)), (.int v8_39), (.int (5 : Int32)), (.ref b40)]))
  refine own_go (XS.iand X60.here hx rfl (hb hby at_157) rfl (Steps.refl _)) ?_
  show own_Fin _ _ _ _ (T60.setTop (mkF m 158 #[.val (.int p1), .val (.int p2), .val (.int p3), .val (.int p4), .val (.int v4_30), .val (.int v5_34), .val (.int v6_37), .val (.int v7_38), .val (.int v8_39), .val (.ref b40), .unset, .unset, .unset, .unset, .unset, .unset, .unset] [(.int (v8_39 &&& (32 : Int32))), (.int (5 : Int32)), (.ref b40)]))
  have di61 : Steps p.tables e below (T60.setTop (mkF m 158 #[.val (.int p1), .val (.int p2), .val (.int p3), .val (.int p4), .val (.int v4_30), .val (.int v5_34), .val (.int v6_37), .val (.int v7_38), .val (.int v8_39), .val (.ref b40), .unset, .unset, .unset, .unset, .unset, .unset, .unset] [(.int (v8_39 &&& (32 : Int32))), (.int (5 : Int32)), (.ref b40)])) (T60.setTop (mkF m 166 #[.val (.int p1), .val (.int p2), .val (.int p3), .val (.int p4), .val (.int v4_30), .val (.int v5_34), .val (.int v6_37), .val (.int v7_38), .val (.int v8_39), .val (.ref b40), .unset, .unset, .unset, .unset, .unset, .unset, .unset] [(.int (own_bit v8_39 (32 : Int32))), (.int (5 : Int32)), (.ref b40)])) := by
    by_cases c158_62 : (v8_39 &&& (32 : Int32)) = (0 : Int32)
    · refine XS.ifYes X60.here hx rfl (pc0 := 158) (pc' := 165) rfl (hb hby at_158) rfl ((if0 _ _).trans (teq c158_62).1) (by decide) (by decide) ?_
      show Steps _ _ _ (T60.setTop (mkF m 165 #[.val (.int p1), .val (.int p2), .val (.int p3), .val (.int p4), .val (.int v4_30), .val (.int v5_34), .val (.int v6_37), .val (.int v7_38), .val (.int v8_39), .val (.ref b40), .unset, .unset, .unset, .unset, .unset, .unset, .unset] [(.int (5 : Int32)), (.ref b40)])) _
      refine XS.iconst X60.here hx rfl (hb hby at_165) ?_
      show Steps _ _ _ (T60.setTop (mkF m 166 #[.val (.int p1), .val (.int p2), .val (.int p3), .val (.int p4), .val (.int v4_30), .val (.int v5_34), .val (.int v6_37), .val (.int v7_38), .val (.int v8_39), .val (.ref b40), .unset, .unset, .unset, .unset, .unset, .unset, .unset] [(.int (0 : Int32)), (.int (5 : Int32)), (.ref b40)])) _
      rw [show (own_bit v8_39 (32 : Int32)) = (0 : Int32) from by simp [own_bit, c158_62]]; exact Steps.refl _
    · refine XS.ifNo X60.here hx rfl (hb hby at_158) rfl ((if0 _ _).trans (feq c158_62).1) ?_
      show Steps _ _ _ (T60.setTop (mkF m 161 #[.val (.int p1), .val (.int p2), .val (.int p3), .val (.int p4), .val (.int v4_30), .val (.int v5_34), .val (.int v6_37), .val (.int v7_38), .val (.int v8_39), .val (.ref b40), .unset, .unset, .unset, .unset, .unset, .unset, .unset] [(.int (5 : Int32)), (.ref b40)])) _
      refine XS.iconst X60.here hx rfl (hb hby at_161) ?_
      show Steps _ _ _ (T60.setTop (mkF m 162 #[.val (.int p1), .val (.int p2), .val (.int p3), .val (.int p4), .val (.int v4_30), .val (.int v5_34), .val (.int v6_37), .val (.int v7_38), .val (.int v8_39), .val (.ref b40), .unset, .unset, .unset, .unset, .unset, .unset, .unset] [(.int (1 : Int32)), (.int (5 : Int32)), (.ref b40)])) _
      refine XS.goto X60.here hx rfl (pc0 := 162) (pc' := 166) rfl (hb hby at_162) (by decide) (by decide) ?_
      show Steps _ _ _ (T60.setTop (mkF m 166 #[.val (.int p1), .val (.int p2), .val (.int p3), .val (.int p4), .val (.int v4_30), .val (.int v5_34), .val (.int v6_37), .val (.int v7_38), .val (.int v8_39), .val (.ref b40), .unset, .unset, .unset, .unset, .unset, .unset, .unset] [(.int (1 : Int32)), (.int (5 : Int32)), (.ref b40)])) _
      rw [show (own_bit v8_39 (32 : Int32)) = (1 : Int32) from by simp [own_bit, c158_62]]; exact Steps.refl _
  refine own_go di61 ?_
  show own_Fin _ _ _ _ (T60.setTop (mkF m 166 #[.val (.int p1), .val (.int p2), .val (.int p3), .val (.int p4), .val (.int v4_30), .val (.int v5_34), .val (.int v6_37), .val (.int v7_38), .val (.int v8_39), .val (.ref b40), .unset, .unset, .unset, .unset, .unset, .unset, .unset] [(.int (own_bit v8_39 (32 : Int32))), (.int (5 : Int32)), (.ref b40)]))
  obtain ⟨cl63, Ar63, qa63, Sa63, Na63, Ha63, Ga63⟩ := id V_b40_60
  have hin63 : ¬ ((5 : Int32) < 0 ∨ cl63.slots.size ≤ ((5 : Int32)).toNatClampNeg) := inb_of Sa63 ⟨by decide, by decide⟩
  obtain ⟨T64, h64, X64, e64, W64, st64⟩ := stZ X60 hx hZ e60 Ar63 (j := (5 : Int32)) hin63 (g := (mkF m 166 #[.val (.int p1), .val (.int p2), .val (.int p3), .val (.int p4), .val (.int v4_30), .val (.int v5_34), .val (.int v6_37), .val (.int v7_38), .val (.int v8_39), .val (.ref b40), .unset, .unset, .unset, .unset, .unset, .unset, .unset] [(.int (own_bit v8_39 (32 : Int32))), (.int (5 : Int32)), (.ref b40)])) rfl rfl (hb hby at_166)
  refine own_by st64 ?_
  have hnr64 : nar .boolean (own_bit v8_39 (32 : Int32)) = (own_bit v8_39 (32 : Int32)) := own_nbit _ _
  rw [hnr64] at W64
  have V_b40_64 : Arv Z h64 b40 k40 .boolean (8 : Int32) [(.int (own_bit v8_39 (1 : Int32))), (.int (own_bit v8_39 (2 : Int32))), (.int (own_bit v8_39 (4 : Int32))), (.int (own_bit v8_39 (8 : Int32))), (.int (own_bit v8_39 (16 : Int32))), (.int (own_bit v8_39 (32 : Int32))), (.int (0 : Int32)), (.int (0 : Int32))] (.int (0 : Int32)) := Arv.set Ar63 qa63 Sa63 Na63 Ha63 Ga63 (hnr64 ▸ fits_nar_bool (own_bit v8_39 (32 : Int32))) W64 5 rfl (Nat.le_of_ble_eq_true rfl)
  have N64 := Fr.snoc X64 N60 g_b40
  have Z64 : n0 ≤ h64.size := Nat.le_trans Z60 (Keep.of_wr W64).1
  show own_Fin _ _ _ _ (T64.setTop (mkF m 167 #[.val (.int p1), .val (.int p2), .val (.int p3), .val (.int p4), .val (.int v4_30), .val (.int v5_34), .val (.int v6_37), .val (.int v7_38), .val (.int v8_39), .val (.ref b40), .unset, .unset, .unset, .unset, .unset, .unset, .unset] []))
  refine own_go (XS.aload X64.here hx rfl (hb hby at_167) rfl rfl (Steps.refl _)) ?_
  show own_Fin _ _ _ _ (T64.setTop (mkF m 169 #[.val (.int p1), .val (.int p2), .val (.int p3), .val (.int p4), .val (.int v4_30), .val (.int v5_34), .val (.int v6_37), .val (.int v7_38), .val (.int v8_39), .val (.ref b40), .unset, .unset, .unset, .unset, .unset, .unset, .unset] [(.ref b40)]))
  refine own_go (XS.bipush X64.here hx rfl (hb hby at_169) (Steps.refl _)) ?_
  show own_Fin _ _ _ _ (T64.setTop (mkF m 171 #[.val (.int p1), .val (.int p2), .val (.int p3), .val (.int p4), .val (.int v4_30), .val (.int v5_34), .val (.int v6_37), .val (.int v7_38), .val (.int v8_39), .val (.ref b40), .unset, .unset, .unset, .unset, .unset, .unset, .unset] [(.int (6 : Int32)), (.ref b40)]))
  refine own_go (XS.iload X64.here hx rfl (hb hby at_171) rfl (Steps.refl _)) ?_
  show own_Fin _ _ _ _ (T64.setTop (mkF m 173 #[.val (.int p1), .val (.int p2), .val (.int p3), .val (.int p4), .val (.int v4_30), .val (.int v5_34), .val (.int v6_37), .val (.int v7_38), .val (.int v8_39), .val (.ref b40), .unset, .unset, .unset, .unset, .unset, .unset, .unset] [(.int v8_39), (.int (6 : Int32)), (.ref b40)]))
  refine own_go (XS.bipush X64.here hx rfl (hb hby at_173) (Steps.refl _)) ?_
  show own_Fin _ _ _ _ (T64.setTop (mkF m 175 #[.val (.int p1), .val (.int p2), .val (.int p3), .val (.int p4), .val (.int v4_30), .val (.int v5_34), .val (.int v6_37), .val (.int v7_38), .val (.int v8_39), .val (.ref b40), .unset, .unset, .unset, .unset, .unset, .unset, .unset] [(.int (64 : Int32)), (.int v8_39), (.int (6 : Int32)), (.ref b40)]))
  refine own_go (XS.iand X64.here hx rfl (hb hby at_175) rfl (Steps.refl _)) ?_
  show own_Fin _ _ _ _ (T64.setTop (mkF m 176 #[.val (.int p1), .val (.int p2), .val (.int p3), .val (.int p4), .val (.int v4_30), .val (.int v5_34), .val (.int v6_37), .val (.int v7_38), .val (.int v8_39), .val (.ref b40), .unset, .unset, .unset, .unset, .unset, .unset, .unset] [(.int (v8_39 &&& (64 : Int32))), (.int (6 : Int32)), (.ref b40)]))
  have di65 : Steps p.tables e below (T64.setTop (mkF m 176 #[.val (.int p1), .val (.int p2), .val (.int p3), .val (.int p4), .val (.int v4_30), .val (.int v5_34), .val (.int v6_37), .val (.int v7_38), .val (.int v8_39), .val (.ref b40), .unset, .unset, .unset, .unset, .unset, .unset, .unset] [(.int (v8_39 &&& (64 : Int32))), (.int (6 : Int32)), (.ref b40)])) (T64.setTop (mkF m 184 #[.val (.int p1), .val (.int p2), .val (.int p3), .val (.int p4), .val (.int v4_30), .val (.int v5_34), .val (.int v6_37), .val (.int v7_38), .val (.int v8_39), .val (.ref b40), .unset, .unset, .unset, .unset, .unset, .unset, .unset] [(.int (own_bit v8_39 (64 : Int32))), (.int (6 : Int32)), (.ref b40)])) := by
    by_cases c176_66 : (v8_39 &&& (64 : Int32)) = (0 : Int32)
    · refine XS.ifYes X64.here hx rfl (pc0 := 176) (pc' := 183) rfl (hb hby at_176) rfl ((if0 _ _).trans (teq c176_66).1) (by decide) (by decide) ?_
      show Steps _ _ _ (T64.setTop (mkF m 183 #[.val (.int p1), .val (.int p2), .val (.int p3), .val (.int p4), .val (.int v4_30), .val (.int v5_34), .val (.int v6_37), .val (.int v7_38), .val (.int v8_39), .val (.ref b40), .unset, .unset, .unset, .unset, .unset, .unset, .unset] [(.int (6 : Int32)), (.ref b40)])) _
      refine XS.iconst X64.here hx rfl (hb hby at_183) ?_
      show Steps _ _ _ (T64.setTop (mkF m 184 #[.val (.int p1), .val (.int p2), .val (.int p3), .val (.int p4), .val (.int v4_30), .val (.int v5_34), .val (.int v6_37), .val (.int v7_38), .val (.int v8_39), .val (.ref b40), .unset, .unset, .unset, .unset, .unset, .unset, .unset] [(.int (0 : Int32)), (.int (6 : Int32)), (.ref b40)])) _
      rw [show (own_bit v8_39 (64 : Int32)) = (0 : Int32) from by simp [own_bit, c176_66]]; exact Steps.refl _
    · refine XS.ifNo X64.here hx rfl (hb hby at_176) rfl ((if0 _ _).trans (feq c176_66).1) ?_
      show Steps _ _ _ (T64.setTop (mkF m 179 #[.val (.int p1), .val (.int p2), .val (.int p3), .val (.int p4), .val (.int v4_30), .val (.int v5_34), .val (.int v6_37), .val (.int v7_38), .val (.int v8_39), .val (.ref b40), .unset, .unset, .unset, .unset, .unset, .unset, .unset] [(.int (6 : Int32)), (.ref b40)])) _
      refine XS.iconst X64.here hx rfl (hb hby at_179) ?_
      show Steps _ _ _ (T64.setTop (mkF m 180 #[.val (.int p1), .val (.int p2), .val (.int p3), .val (.int p4), .val (.int v4_30), .val (.int v5_34), .val (.int v6_37), .val (.int v7_38), .val (.int v8_39), .val (.ref b40), .unset, .unset, .unset, .unset, .unset, .unset, .unset] [(.int (1 : Int32)), (.int (6 : Int32)), (.ref b40)])) _
      refine XS.goto X64.here hx rfl (pc0 := 180) (pc' := 184) rfl (hb hby at_180) (by decide) (by decide) ?_
      show Steps _ _ _ (T64.setTop (mkF m 184 #[.val (.int p1), .val (.int p2), .val (.int p3), .val (.int p4), .val (.int v4_30), .val (.int v5_34), .val (.int v6_37), .val (.int v7_38), .val (.int v8_39), .val (.ref b40), .unset, .unset, .unset, .unset, .unset, .unset, .unset] [(.int (1 : Int32)), (.int (6 : Int32)), (.ref b40)])) _
      rw [show (own_bit v8_39 (64 : Int32)) = (1 : Int32) from by simp [own_bit, c176_66]]; exact Steps.refl _
  refine own_go di65 ?_
  show own_Fin _ _ _ _ (T64.setTop (mkF m 184 #[.val (.int p1), .val (.int p2), .val (.int p3), .val (.int p4), .val (.int v4_30), .val (.int v5_34), .val (.int v6_37), .val (.int v7_38), .val (.int v8_39), .val (.ref b40), .unset, .unset, .unset, .unset, .unset, .unset, .unset] [(.int (own_bit v8_39 (64 : Int32))), (.int (6 : Int32)), (.ref b40)]))
  obtain ⟨cl67, Ar67, qa67, Sa67, Na67, Ha67, Ga67⟩ := id V_b40_64
  have hin67 : ¬ ((6 : Int32) < 0 ∨ cl67.slots.size ≤ ((6 : Int32)).toNatClampNeg) := inb_of Sa67 ⟨by decide, by decide⟩
  obtain ⟨T68, h68, X68, e68, W68, st68⟩ := stZ X64 hx hZ e64 Ar67 (j := (6 : Int32)) hin67 (g := (mkF m 184 #[.val (.int p1), .val (.int p2), .val (.int p3), .val (.int p4), .val (.int v4_30), .val (.int v5_34), .val (.int v6_37), .val (.int v7_38), .val (.int v8_39), .val (.ref b40), .unset, .unset, .unset, .unset, .unset, .unset, .unset] [(.int (own_bit v8_39 (64 : Int32))), (.int (6 : Int32)), (.ref b40)])) rfl rfl (hb hby at_184)
  refine own_by st68 ?_
  have hnr68 : nar .boolean (own_bit v8_39 (64 : Int32)) = (own_bit v8_39 (64 : Int32)) := own_nbit _ _
  rw [hnr68] at W68
  have V_b40_68 : Arv Z h68 b40 k40 .boolean (8 : Int32) [(.int (own_bit v8_39 (1 : Int32))), (.int (own_bit v8_39 (2 : Int32))), (.int (own_bit v8_39 (4 : Int32))), (.int (own_bit v8_39 (8 : Int32))), (.int (own_bit v8_39 (16 : Int32))), (.int (own_bit v8_39 (32 : Int32))), (.int (own_bit v8_39 (64 : Int32))), (.int (0 : Int32))] (.int (0 : Int32)) := Arv.set Ar67 qa67 Sa67 Na67 Ha67 Ga67 (hnr68 ▸ fits_nar_bool (own_bit v8_39 (64 : Int32))) W68 6 rfl (Nat.le_of_ble_eq_true rfl)
  have N68 := Fr.snoc X68 N64 g_b40
  have Z68 : n0 ≤ h68.size := Nat.le_trans Z64 (Keep.of_wr W68).1
  show own_Fin _ _ _ _ (T68.setTop (mkF m 185 #[.val (.int p1), .val (.int p2), .val (.int p3), .val (.int p4), .val (.int v4_30), .val (.int v5_34), .val (.int v6_37), .val (.int v7_38), .val (.int v8_39), .val (.ref b40), .unset, .unset, .unset, .unset, .unset, .unset, .unset] []))
  refine own_go (XS.aload X68.here hx rfl (hb hby at_185) rfl rfl (Steps.refl _)) ?_
  show own_Fin _ _ _ _ (T68.setTop (mkF m 187 #[.val (.int p1), .val (.int p2), .val (.int p3), .val (.int p4), .val (.int v4_30), .val (.int v5_34), .val (.int v6_37), .val (.int v7_38), .val (.int v8_39), .val (.ref b40), .unset, .unset, .unset, .unset, .unset, .unset, .unset] [(.ref b40)]))
  refine own_go (XS.bipush X68.here hx rfl (hb hby at_187) (Steps.refl _)) ?_
  show own_Fin _ _ _ _ (T68.setTop (mkF m 189 #[.val (.int p1), .val (.int p2), .val (.int p3), .val (.int p4), .val (.int v4_30), .val (.int v5_34), .val (.int v6_37), .val (.int v7_38), .val (.int v8_39), .val (.ref b40), .unset, .unset, .unset, .unset, .unset, .unset, .unset] [(.int (7 : Int32)), (.ref b40)]))
  refine own_go (XS.iload X68.here hx rfl (hb hby at_189) rfl (Steps.refl _)) ?_
  show own_Fin _ _ _ _ (T68.setTop (mkF m 191 #[.val (.int p1), .val (.int p2), .val (.int p3), .val (.int p4), .val (.int v4_30), .val (.int v5_34), .val (.int v6_37), .val (.int v7_38), .val (.int v8_39), .val (.ref b40), .unset, .unset, .unset, .unset, .unset, .unset, .unset] [(.int v8_39), (.int (7 : Int32)), (.ref b40)]))
  refine own_go (XS.sipush X68.here hx rfl (hb hby at_191) (Steps.refl _)) ?_
  show own_Fin _ _ _ _ (T68.setTop (mkF m 194 #[.val (.int p1), .val (.int p2), .val (.int p3), .val (.int p4), .val (.int v4_30), .val (.int v5_34), .val (.int v6_37), .val (.int v7_38), .val (.int v8_39), .val (.ref b40), .unset, .unset, .unset, .unset, .unset, .unset, .unset] [(.int (128 : Int32)), (.int v8_39), (.int (7 : Int32)), (.ref b40)]))
  refine own_go (XS.iand X68.here hx rfl (hb hby at_194) rfl (Steps.refl _)) ?_
  show own_Fin _ _ _ _ (T68.setTop (mkF m 195 #[.val (.int p1), .val (.int p2), .val (.int p3), .val (.int p4), .val (.int v4_30), .val (.int v5_34), .val (.int v6_37), .val (.int v7_38), .val (.int v8_39), .val (.ref b40), .unset, .unset, .unset, .unset, .unset, .unset, .unset] [(.int (v8_39 &&& (128 : Int32))), (.int (7 : Int32)), (.ref b40)]))
  have di69 : Steps p.tables e below (T68.setTop (mkF m 195 #[.val (.int p1), .val (.int p2), .val (.int p3), .val (.int p4), .val (.int v4_30), .val (.int v5_34), .val (.int v6_37), .val (.int v7_38), .val (.int v8_39), .val (.ref b40), .unset, .unset, .unset, .unset, .unset, .unset, .unset] [(.int (v8_39 &&& (128 : Int32))), (.int (7 : Int32)), (.ref b40)])) (T68.setTop (mkF m 203 #[.val (.int p1), .val (.int p2), .val (.int p3), .val (.int p4), .val (.int v4_30), .val (.int v5_34), .val (.int v6_37), .val (.int v7_38), .val (.int v8_39), .val (.ref b40), .unset, .unset, .unset, .unset, .unset, .unset, .unset] [(.int (own_bit v8_39 (128 : Int32))), (.int (7 : Int32)), (.ref b40)])) := by
    by_cases c195_70 : (v8_39 &&& (128 : Int32)) = (0 : Int32)
    · refine XS.ifYes X68.here hx rfl (pc0 := 195) (pc' := 202) rfl (hb hby at_195) rfl ((if0 _ _).trans (teq c195_70).1) (by decide) (by decide) ?_
      show Steps _ _ _ (T68.setTop (mkF m 202 #[.val (.int p1), .val (.int p2), .val (.int p3), .val (.int p4), .val (.int v4_30), .val (.int v5_34), .val (.int v6_37), .val (.int v7_38), .val (.int v8_39), .val (.ref b40), .unset, .unset, .unset, .unset, .unset, .unset, .unset] [(.int (7 : Int32)), (.ref b40)])) _
      refine XS.iconst X68.here hx rfl (hb hby at_202) ?_
      show Steps _ _ _ (T68.setTop (mkF m 203 #[.val (.int p1), .val (.int p2), .val (.int p3), .val (.int p4), .val (.int v4_30), .val (.int v5_34), .val (.int v6_37), .val (.int v7_38), .val (.int v8_39), .val (.ref b40), .unset, .unset, .unset, .unset, .unset, .unset, .unset] [(.int (0 : Int32)), (.int (7 : Int32)), (.ref b40)])) _
      rw [show (own_bit v8_39 (128 : Int32)) = (0 : Int32) from by simp [own_bit, c195_70]]; exact Steps.refl _
    · refine XS.ifNo X68.here hx rfl (hb hby at_195) rfl ((if0 _ _).trans (feq c195_70).1) ?_
      show Steps _ _ _ (T68.setTop (mkF m 198 #[.val (.int p1), .val (.int p2), .val (.int p3), .val (.int p4), .val (.int v4_30), .val (.int v5_34), .val (.int v6_37), .val (.int v7_38), .val (.int v8_39), .val (.ref b40), .unset, .unset, .unset, .unset, .unset, .unset, .unset] [(.int (7 : Int32)), (.ref b40)])) _
      refine XS.iconst X68.here hx rfl (hb hby at_198) ?_
      show Steps _ _ _ (T68.setTop (mkF m 199 #[.val (.int p1), .val (.int p2), .val (.int p3), .val (.int p4), .val (.int v4_30), .val (.int v5_34), .val (.int v6_37), .val (.int v7_38), .val (.int v8_39), .val (.ref b40), .unset, .unset, .unset, .unset, .unset, .unset, .unset] [(.int (1 : Int32)), (.int (7 : Int32)), (.ref b40)])) _
      refine XS.goto X68.here hx rfl (pc0 := 199) (pc' := 203) rfl (hb hby at_199) (by decide) (by decide) ?_
      show Steps _ _ _ (T68.setTop (mkF m 203 #[.val (.int p1), .val (.int p2), .val (.int p3), .val (.int p4), .val (.int v4_30), .val (.int v5_34), .val (.int v6_37), .val (.int v7_38), .val (.int v8_39), .val (.ref b40), .unset, .unset, .unset, .unset, .unset, .unset, .unset] [(.int (1 : Int32)), (.int (7 : Int32)), (.ref b40)])) _
      rw [show (own_bit v8_39 (128 : Int32)) = (1 : Int32) from by simp [own_bit, c195_70]]; exact Steps.refl _
  refine own_go di69 ?_
  show own_Fin _ _ _ _ (T68.setTop (mkF m 203 #[.val (.int p1), .val (.int p2), .val (.int p3), .val (.int p4), .val (.int v4_30), .val (.int v5_34), .val (.int v6_37), .val (.int v7_38), .val (.int v8_39), .val (.ref b40), .unset, .unset, .unset, .unset, .unset, .unset, .unset] [(.int (own_bit v8_39 (128 : Int32))), (.int (7 : Int32)), (.ref b40)]))
  obtain ⟨cl71, Ar71, qa71, Sa71, Na71, Ha71, Ga71⟩ := id V_b40_68
  have hin71 : ¬ ((7 : Int32) < 0 ∨ cl71.slots.size ≤ ((7 : Int32)).toNatClampNeg) := inb_of Sa71 ⟨by decide, by decide⟩
  obtain ⟨T72, h72, X72, e72, W72, st72⟩ := stZ X68 hx hZ e68 Ar71 (j := (7 : Int32)) hin71 (g := (mkF m 203 #[.val (.int p1), .val (.int p2), .val (.int p3), .val (.int p4), .val (.int v4_30), .val (.int v5_34), .val (.int v6_37), .val (.int v7_38), .val (.int v8_39), .val (.ref b40), .unset, .unset, .unset, .unset, .unset, .unset, .unset] [(.int (own_bit v8_39 (128 : Int32))), (.int (7 : Int32)), (.ref b40)])) rfl rfl (hb hby at_203)
  refine own_by st72 ?_
  have hnr72 : nar .boolean (own_bit v8_39 (128 : Int32)) = (own_bit v8_39 (128 : Int32)) := own_nbit _ _
  rw [hnr72] at W72
  have V_b40_72 : Arv Z h72 b40 k40 .boolean (8 : Int32) [(.int (own_bit v8_39 (1 : Int32))), (.int (own_bit v8_39 (2 : Int32))), (.int (own_bit v8_39 (4 : Int32))), (.int (own_bit v8_39 (8 : Int32))), (.int (own_bit v8_39 (16 : Int32))), (.int (own_bit v8_39 (32 : Int32))), (.int (own_bit v8_39 (64 : Int32))), (.int (own_bit v8_39 (128 : Int32)))] (.int (0 : Int32)) := Arv.set Ar71 qa71 Sa71 Na71 Ha71 Ga71 (hnr72 ▸ fits_nar_bool (own_bit v8_39 (128 : Int32))) W72 7 rfl (Nat.le_of_ble_eq_true rfl)
  have N72 := Fr.snoc X72 N68 g_b40
  have Z72 : n0 ≤ h72.size := Nat.le_trans Z68 (Keep.of_wr W72).1
  show own_Fin _ _ _ _ (T72.setTop (mkF m 204 #[.val (.int p1), .val (.int p2), .val (.int p3), .val (.int p4), .val (.int v4_30), .val (.int v5_34), .val (.int v6_37), .val (.int v7_38), .val (.int v8_39), .val (.ref b40), .unset, .unset, .unset, .unset, .unset, .unset, .unset] []))
  refine own_go (XS.iload X72.here hx rfl (hb hby at_204) rfl (Steps.refl _)) ?_
  show own_Fin _ _ _ _ (T72.setTop (mkF m 206 #[.val (.int p1), .val (.int p2), .val (.int p3), .val (.int p4), .val (.int v4_30), .val (.int v5_34), .val (.int v6_37), .val (.int v7_38), .val (.int v8_39), .val (.ref b40), .unset, .unset, .unset, .unset, .unset, .unset, .unset] [(.int v7_38)]))
  refine own_go (XS.iload X72.here hx rfl (hb hby at_206) rfl (Steps.refl _)) ?_
  show own_Fin _ _ _ _ (T72.setTop (mkF m 208 #[.val (.int p1), .val (.int p2), .val (.int p3), .val (.int p4), .val (.int v4_30), .val (.int v5_34), .val (.int v6_37), .val (.int v7_38), .val (.int v8_39), .val (.ref b40), .unset, .unset, .unset, .unset, .unset, .unset, .unset] [(.int v6_37), (.int v7_38)]))
  refine own_go (XS.iadd X72.here hx rfl (hb hby at_208) rfl (Steps.refl _)) ?_
  show own_Fin _ _ _ _ (T72.setTop (mkF m 209 #[.val (.int p1), .val (.int p2), .val (.int p3), .val (.int p4), .val (.int v4_30), .val (.int v5_34), .val (.int v6_37), .val (.int v7_38), .val (.int v8_39), .val (.ref b40), .unset, .unset, .unset, .unset, .unset, .unset, .unset] [(.int (v7_38 + v6_37))]))
  refine own_go (XS.istore X72.here hx rfl (hb hby at_209) rfl (l' := #[.val (.int p1), .val (.int p2), .val (.int p3), .val (.int p4), .val (.int v4_30), .val (.int v5_34), .val (.int v6_37), .val (.int v7_38), .val (.int v8_39), .val (.ref b40), .val (.int (v7_38 + v6_37)), .unset, .unset, .unset, .unset, .unset, .unset]) rfl (Steps.refl _)) ?_
  show own_Fin _ _ _ _ (T72.setTop (mkF m 211 #[.val (.int p1), .val (.int p2), .val (.int p3), .val (.int p4), .val (.int v4_30), .val (.int v5_34), .val (.int v6_37), .val (.int v7_38), .val (.int v8_39), .val (.ref b40), .val (.int (v7_38 + v6_37)), .unset, .unset, .unset, .unset, .unset, .unset] []))
  generalize hz_v10_73 : (v7_38 + v6_37) = v10_73
  refine own_go (XS.iconst X72.here hx rfl (hb hby at_211) (Steps.refl _)) ?_
  show own_Fin _ _ _ _ (T72.setTop (mkF m 212 #[.val (.int p1), .val (.int p2), .val (.int p3), .val (.int p4), .val (.int v4_30), .val (.int v5_34), .val (.int v6_37), .val (.int v7_38), .val (.int v8_39), .val (.ref b40), .val (.int v10_73), .unset, .unset, .unset, .unset, .unset, .unset] [(.int (1 : Int32))]))
  refine own_go (XS.iload X72.here hx rfl (hb hby at_212) rfl (Steps.refl _)) ?_
  show own_Fin _ _ _ _ (T72.setTop (mkF m 214 #[.val (.int p1), .val (.int p2), .val (.int p3), .val (.int p4), .val (.int v4_30), .val (.int v5_34), .val (.int v6_37), .val (.int v7_38), .val (.int v8_39), .val (.ref b40), .val (.int v10_73), .unset, .unset, .unset, .unset, .unset, .unset] [(.int v6_37), (.int (1 : Int32))]))
  refine own_go (XS.ishl X72.here hx rfl (hb hby at_214) rfl (Steps.refl _)) ?_
  show own_Fin _ _ _ _ (T72.setTop (mkF m 215 #[.val (.int p1), .val (.int p2), .val (.int p3), .val (.int p4), .val (.int v4_30), .val (.int v5_34), .val (.int v6_37), .val (.int v7_38), .val (.int v8_39), .val (.ref b40), .val (.int v10_73), .unset, .unset, .unset, .unset, .unset, .unset] [(.int ((1 : Int32) <<< (v6_37 &&& 31)))]))
  refine own_go (XS.iconst X72.here hx rfl (hb hby at_215) (Steps.refl _)) ?_
  show own_Fin _ _ _ _ (T72.setTop (mkF m 216 #[.val (.int p1), .val (.int p2), .val (.int p3), .val (.int p4), .val (.int v4_30), .val (.int v5_34), .val (.int v6_37), .val (.int v7_38), .val (.int v8_39), .val (.ref b40), .val (.int v10_73), .unset, .unset, .unset, .unset, .unset, .unset] [(.int (1 : Int32)), (.int ((1 : Int32) <<< (v6_37 &&& 31)))]))
  refine own_go (XS.isub X72.here hx rfl (hb hby at_216) rfl (Steps.refl _)) ?_
  show own_Fin _ _ _ _ (T72.setTop (mkF m 217 #[.val (.int p1), .val (.int p2), .val (.int p3), .val (.int p4), .val (.int v4_30), .val (.int v5_34), .val (.int v6_37), .val (.int v7_38), .val (.int v8_39), .val (.ref b40), .val (.int v10_73), .unset, .unset, .unset, .unset, .unset, .unset] [(.int (((1 : Int32) <<< (v6_37 &&& 31)) - (1 : Int32)))]))
  refine own_go (XS.istore X72.here hx rfl (hb hby at_217) rfl (l' := #[.val (.int p1), .val (.int p2), .val (.int p3), .val (.int p4), .val (.int v4_30), .val (.int v5_34), .val (.int v6_37), .val (.int v7_38), .val (.int v8_39), .val (.ref b40), .val (.int v10_73), .val (.int (((1 : Int32) <<< (v6_37 &&& 31)) - (1 : Int32))), .unset, .unset, .unset, .unset, .unset]) rfl (Steps.refl _)) ?_
  show own_Fin _ _ _ _ (T72.setTop (mkF m 219 #[.val (.int p1), .val (.int p2), .val (.int p3), .val (.int p4), .val (.int v4_30), .val (.int v5_34), .val (.int v6_37), .val (.int v7_38), .val (.int v8_39), .val (.ref b40), .val (.int v10_73), .val (.int (((1 : Int32) <<< (v6_37 &&& 31)) - (1 : Int32))), .unset, .unset, .unset, .unset, .unset] []))
  generalize hz_v11_74 : (((1 : Int32) <<< (v6_37 &&& 31)) - (1 : Int32)) = v11_74
  refine own_go (XS.iload X72.here hx rfl (hb hby at_219) rfl (Steps.refl _)) ?_
  show own_Fin _ _ _ _ (T72.setTop (mkF m 221 #[.val (.int p1), .val (.int p2), .val (.int p3), .val (.int p4), .val (.int v4_30), .val (.int v5_34), .val (.int v6_37), .val (.int v7_38), .val (.int v8_39), .val (.ref b40), .val (.int v10_73), .val (.int v11_74), .unset, .unset, .unset, .unset, .unset] [(.int v8_39)]))
  refine own_go (XS.iload X72.here hx rfl (hb hby at_221) rfl (Steps.refl _)) ?_
  show own_Fin _ _ _ _ (T72.setTop (mkF m 223 #[.val (.int p1), .val (.int p2), .val (.int p3), .val (.int p4), .val (.int v4_30), .val (.int v5_34), .val (.int v6_37), .val (.int v7_38), .val (.int v8_39), .val (.ref b40), .val (.int v10_73), .val (.int v11_74), .unset, .unset, .unset, .unset, .unset] [(.int v7_38), (.int v8_39)]))
  refine own_go (XS.ishr X72.here hx rfl (hb hby at_223) rfl (Steps.refl _)) ?_
  show own_Fin _ _ _ _ (T72.setTop (mkF m 224 #[.val (.int p1), .val (.int p2), .val (.int p3), .val (.int p4), .val (.int v4_30), .val (.int v5_34), .val (.int v6_37), .val (.int v7_38), .val (.int v8_39), .val (.ref b40), .val (.int v10_73), .val (.int v11_74), .unset, .unset, .unset, .unset, .unset] [(.int (v8_39 >>> (v7_38 &&& 31)))]))
  refine own_go (XS.iload X72.here hx rfl (hb hby at_224) rfl (Steps.refl _)) ?_
  show own_Fin _ _ _ _ (T72.setTop (mkF m 226 #[.val (.int p1), .val (.int p2), .val (.int p3), .val (.int p4), .val (.int v4_30), .val (.int v5_34), .val (.int v6_37), .val (.int v7_38), .val (.int v8_39), .val (.ref b40), .val (.int v10_73), .val (.int v11_74), .unset, .unset, .unset, .unset, .unset] [(.int v11_74), (.int (v8_39 >>> (v7_38 &&& 31)))]))
  refine own_go (XS.iand X72.here hx rfl (hb hby at_226) rfl (Steps.refl _)) ?_
  show own_Fin _ _ _ _ (T72.setTop (mkF m 227 #[.val (.int p1), .val (.int p2), .val (.int p3), .val (.int p4), .val (.int v4_30), .val (.int v5_34), .val (.int v6_37), .val (.int v7_38), .val (.int v8_39), .val (.ref b40), .val (.int v10_73), .val (.int v11_74), .unset, .unset, .unset, .unset, .unset] [(.int ((v8_39 >>> (v7_38 &&& 31)) &&& v11_74))]))
  refine own_go (XS.istore X72.here hx rfl (hb hby at_227) rfl (l' := #[.val (.int p1), .val (.int p2), .val (.int p3), .val (.int p4), .val (.int v4_30), .val (.int v5_34), .val (.int v6_37), .val (.int v7_38), .val (.int v8_39), .val (.ref b40), .val (.int v10_73), .val (.int v11_74), .val (.int ((v8_39 >>> (v7_38 &&& 31)) &&& v11_74)), .unset, .unset, .unset, .unset]) rfl (Steps.refl _)) ?_
  show own_Fin _ _ _ _ (T72.setTop (mkF m 229 #[.val (.int p1), .val (.int p2), .val (.int p3), .val (.int p4), .val (.int v4_30), .val (.int v5_34), .val (.int v6_37), .val (.int v7_38), .val (.int v8_39), .val (.ref b40), .val (.int v10_73), .val (.int v11_74), .val (.int ((v8_39 >>> (v7_38 &&& 31)) &&& v11_74)), .unset, .unset, .unset, .unset] []))
  generalize hz_v12_75 : ((v8_39 >>> (v7_38 &&& 31)) &&& v11_74) = v12_75
  have di76 : Steps p.tables e below (T72.setTop (mkF m 229 #[.val (.int p1), .val (.int p2), .val (.int p3), .val (.int p4), .val (.int v4_30), .val (.int v5_34), .val (.int v6_37), .val (.int v7_38), .val (.int v8_39), .val (.ref b40), .val (.int v10_73), .val (.int v11_74), .val (.int v12_75), .unset, .unset, .unset, .unset] [])) (T72.setTop (mkF m 284 #[.val (.int p1), .val (.int p2), .val (.int p3), .val (.int p4), .val (.int v4_30), .val (.int v5_34), .val (.int v6_37), .val (.int v7_38), .val (.int v8_39), .val (.ref b40), .val (.int v10_73), .val (.int v11_74), .val (.int v12_75), .val (.int (own_exp v4_30 v12_75 v11_74)), .unset, .unset, .unset] [])) := by
    refine XS.iload X72.here hx rfl (hb hby at_229) rfl ?_
    show Steps _ _ _ (T72.setTop (mkF m 231 #[.val (.int p1), .val (.int p2), .val (.int p3), .val (.int p4), .val (.int v4_30), .val (.int v5_34), .val (.int v6_37), .val (.int v7_38), .val (.int v8_39), .val (.ref b40), .val (.int v10_73), .val (.int v11_74), .val (.int v12_75), .unset, .unset, .unset, .unset] [(.int v4_30)])) _
    by_cases c231_77 : v4_30 = (0 : Int32)
    · refine XS.ifNo X72.here hx rfl (hb hby at_231) rfl ((if0 _ _).trans (teq c231_77).2) ?_
      show Steps _ _ _ (T72.setTop (mkF m 234 #[.val (.int p1), .val (.int p2), .val (.int p3), .val (.int p4), .val (.int v4_30), .val (.int v5_34), .val (.int v6_37), .val (.int v7_38), .val (.int v8_39), .val (.ref b40), .val (.int v10_73), .val (.int v11_74), .val (.int v12_75), .unset, .unset, .unset, .unset] [])) _
      refine XS.iload X72.here hx rfl (hb hby at_234) rfl ?_
      show Steps _ _ _ (T72.setTop (mkF m 236 #[.val (.int p1), .val (.int p2), .val (.int p3), .val (.int p4), .val (.int v4_30), .val (.int v5_34), .val (.int v6_37), .val (.int v7_38), .val (.int v8_39), .val (.ref b40), .val (.int v10_73), .val (.int v11_74), .val (.int v12_75), .unset, .unset, .unset, .unset] [(.int v12_75)])) _
      refine XS.iload X72.here hx rfl (hb hby at_236) rfl ?_
      show Steps _ _ _ (T72.setTop (mkF m 238 #[.val (.int p1), .val (.int p2), .val (.int p3), .val (.int p4), .val (.int v4_30), .val (.int v5_34), .val (.int v6_37), .val (.int v7_38), .val (.int v8_39), .val (.ref b40), .val (.int v10_73), .val (.int v11_74), .val (.int v12_75), .unset, .unset, .unset, .unset] [(.int v11_74), (.int v12_75)])) _
      by_cases c238_78 : v12_75 = v11_74
      · refine XS.icmpNo X72.here hx rfl (hb hby at_238) rfl (teq c238_78).2 ?_
        show Steps _ _ _ (T72.setTop (mkF m 241 #[.val (.int p1), .val (.int p2), .val (.int p3), .val (.int p4), .val (.int v4_30), .val (.int v5_34), .val (.int v6_37), .val (.int v7_38), .val (.int v8_39), .val (.ref b40), .val (.int v10_73), .val (.int v11_74), .val (.int v12_75), .unset, .unset, .unset, .unset] [])) _
        refine XS.iconst X72.here hx rfl (hb hby at_241) ?_
        show Steps _ _ _ (T72.setTop (mkF m 242 #[.val (.int p1), .val (.int p2), .val (.int p3), .val (.int p4), .val (.int v4_30), .val (.int v5_34), .val (.int v6_37), .val (.int v7_38), .val (.int v8_39), .val (.ref b40), .val (.int v10_73), .val (.int v11_74), .val (.int v12_75), .unset, .unset, .unset, .unset] [(.int (1 : Int32))])) _
        refine XS.goto X72.here hx rfl (pc0 := 242) (pc' := 246) rfl (hb hby at_242) (by decide) (by decide) ?_
        show Steps _ _ _ (T72.setTop (mkF m 246 #[.val (.int p1), .val (.int p2), .val (.int p3), .val (.int p4), .val (.int v4_30), .val (.int v5_34), .val (.int v6_37), .val (.int v7_38), .val (.int v8_39), .val (.ref b40), .val (.int v10_73), .val (.int v11_74), .val (.int v12_75), .unset, .unset, .unset, .unset] [(.int (1 : Int32))])) _
        refine XS.istore X72.here hx rfl (hb hby at_246) rfl (l' := #[.val (.int p1), .val (.int p2), .val (.int p3), .val (.int p4), .val (.int v4_30), .val (.int v5_34), .val (.int v6_37), .val (.int v7_38), .val (.int v8_39), .val (.ref b40), .val (.int v10_73), .val (.int v11_74), .val (.int v12_75), .val (.int (1 : Int32)), .unset, .unset, .unset]) rfl ?_
        show Steps _ _ _ (T72.setTop (mkF m 248 #[.val (.int p1), .val (.int p2), .val (.int p3), .val (.int p4), .val (.int v4_30), .val (.int v5_34), .val (.int v6_37), .val (.int v7_38), .val (.int v8_39), .val (.ref b40), .val (.int v10_73), .val (.int v11_74), .val (.int v12_75), .val (.int (1 : Int32)), .unset, .unset, .unset] [])) _
        refine XS.goto X72.here hx rfl (pc0 := 248) (pc' := 284) rfl (hb hby at_248) (by decide) (by decide) ?_
        show Steps _ _ _ (T72.setTop (mkF m 284 #[.val (.int p1), .val (.int p2), .val (.int p3), .val (.int p4), .val (.int v4_30), .val (.int v5_34), .val (.int v6_37), .val (.int v7_38), .val (.int v8_39), .val (.ref b40), .val (.int v10_73), .val (.int v11_74), .val (.int v12_75), .val (.int (1 : Int32)), .unset, .unset, .unset] [])) _
        rw [show (own_exp v4_30 v12_75 v11_74) = (1 : Int32) from by simp [own_exp, c231_77, c238_78]]; exact Steps.refl _
      · refine XS.icmpYes X72.here hx rfl (pc0 := 238) (pc' := 245) rfl (hb hby at_238) rfl (feq c238_78).2 (by decide) (by decide) ?_
        show Steps _ _ _ (T72.setTop (mkF m 245 #[.val (.int p1), .val (.int p2), .val (.int p3), .val (.int p4), .val (.int v4_30), .val (.int v5_34), .val (.int v6_37), .val (.int v7_38), .val (.int v8_39), .val (.ref b40), .val (.int v10_73), .val (.int v11_74), .val (.int v12_75), .unset, .unset, .unset, .unset] [])) _
        refine XS.iconst X72.here hx rfl (hb hby at_245) ?_
        show Steps _ _ _ (T72.setTop (mkF m 246 #[.val (.int p1), .val (.int p2), .val (.int p3), .val (.int p4), .val (.int v4_30), .val (.int v5_34), .val (.int v6_37), .val (.int v7_38), .val (.int v8_39), .val (.ref b40), .val (.int v10_73), .val (.int v11_74), .val (.int v12_75), .unset, .unset, .unset, .unset] [(.int (0 : Int32))])) _
        refine XS.istore X72.here hx rfl (hb hby at_246) rfl (l' := #[.val (.int p1), .val (.int p2), .val (.int p3), .val (.int p4), .val (.int v4_30), .val (.int v5_34), .val (.int v6_37), .val (.int v7_38), .val (.int v8_39), .val (.ref b40), .val (.int v10_73), .val (.int v11_74), .val (.int v12_75), .val (.int (0 : Int32)), .unset, .unset, .unset]) rfl ?_
        show Steps _ _ _ (T72.setTop (mkF m 248 #[.val (.int p1), .val (.int p2), .val (.int p3), .val (.int p4), .val (.int v4_30), .val (.int v5_34), .val (.int v6_37), .val (.int v7_38), .val (.int v8_39), .val (.ref b40), .val (.int v10_73), .val (.int v11_74), .val (.int v12_75), .val (.int (0 : Int32)), .unset, .unset, .unset] [])) _
        refine XS.goto X72.here hx rfl (pc0 := 248) (pc' := 284) rfl (hb hby at_248) (by decide) (by decide) ?_
        show Steps _ _ _ (T72.setTop (mkF m 284 #[.val (.int p1), .val (.int p2), .val (.int p3), .val (.int p4), .val (.int v4_30), .val (.int v5_34), .val (.int v6_37), .val (.int v7_38), .val (.int v8_39), .val (.ref b40), .val (.int v10_73), .val (.int v11_74), .val (.int v12_75), .val (.int (0 : Int32)), .unset, .unset, .unset] [])) _
        rw [show (own_exp v4_30 v12_75 v11_74) = (0 : Int32) from by simp [own_exp, c231_77, c238_78]]; exact Steps.refl _
    · refine XS.ifYes X72.here hx rfl (pc0 := 231) (pc' := 251) rfl (hb hby at_231) rfl ((if0 _ _).trans (feq c231_77).2) (by decide) (by decide) ?_
      show Steps _ _ _ (T72.setTop (mkF m 251 #[.val (.int p1), .val (.int p2), .val (.int p3), .val (.int p4), .val (.int v4_30), .val (.int v5_34), .val (.int v6_37), .val (.int v7_38), .val (.int v8_39), .val (.ref b40), .val (.int v10_73), .val (.int v11_74), .val (.int v12_75), .unset, .unset, .unset, .unset] [])) _
      refine XS.iload X72.here hx rfl (hb hby at_251) rfl ?_
      show Steps _ _ _ (T72.setTop (mkF m 253 #[.val (.int p1), .val (.int p2), .val (.int p3), .val (.int p4), .val (.int v4_30), .val (.int v5_34), .val (.int v6_37), .val (.int v7_38), .val (.int v8_39), .val (.ref b40), .val (.int v10_73), .val (.int v11_74), .val (.int v12_75), .unset, .unset, .unset, .unset] [(.int v4_30)])) _
      refine XS.iconst X72.here hx rfl (hb hby at_253) ?_
      show Steps _ _ _ (T72.setTop (mkF m 254 #[.val (.int p1), .val (.int p2), .val (.int p3), .val (.int p4), .val (.int v4_30), .val (.int v5_34), .val (.int v6_37), .val (.int v7_38), .val (.int v8_39), .val (.ref b40), .val (.int v10_73), .val (.int v11_74), .val (.int v12_75), .unset, .unset, .unset, .unset] [(.int (1 : Int32)), (.int v4_30)])) _
      by_cases c254_79 : v4_30 = (1 : Int32)
      · refine XS.icmpNo X72.here hx rfl (hb hby at_254) rfl (teq c254_79).2 ?_
        show Steps _ _ _ (T72.setTop (mkF m 257 #[.val (.int p1), .val (.int p2), .val (.int p3), .val (.int p4), .val (.int v4_30), .val (.int v5_34), .val (.int v6_37), .val (.int v7_38), .val (.int v8_39), .val (.ref b40), .val (.int v10_73), .val (.int v11_74), .val (.int v12_75), .unset, .unset, .unset, .unset] [])) _
        refine XS.iload X72.here hx rfl (hb hby at_257) rfl ?_
        show Steps _ _ _ (T72.setTop (mkF m 259 #[.val (.int p1), .val (.int p2), .val (.int p3), .val (.int p4), .val (.int v4_30), .val (.int v5_34), .val (.int v6_37), .val (.int v7_38), .val (.int v8_39), .val (.ref b40), .val (.int v10_73), .val (.int v11_74), .val (.int v12_75), .unset, .unset, .unset, .unset] [(.int v12_75)])) _
        by_cases c259_80 : v12_75 = (0 : Int32)
        · refine XS.ifYes X72.here hx rfl (pc0 := 259) (pc' := 266) rfl (hb hby at_259) rfl ((if0 _ _).trans (teq c259_80).1) (by decide) (by decide) ?_
          show Steps _ _ _ (T72.setTop (mkF m 266 #[.val (.int p1), .val (.int p2), .val (.int p3), .val (.int p4), .val (.int v4_30), .val (.int v5_34), .val (.int v6_37), .val (.int v7_38), .val (.int v8_39), .val (.ref b40), .val (.int v10_73), .val (.int v11_74), .val (.int v12_75), .unset, .unset, .unset, .unset] [])) _
          refine XS.iconst X72.here hx rfl (hb hby at_266) ?_
          show Steps _ _ _ (T72.setTop (mkF m 267 #[.val (.int p1), .val (.int p2), .val (.int p3), .val (.int p4), .val (.int v4_30), .val (.int v5_34), .val (.int v6_37), .val (.int v7_38), .val (.int v8_39), .val (.ref b40), .val (.int v10_73), .val (.int v11_74), .val (.int v12_75), .unset, .unset, .unset, .unset] [(.int (0 : Int32))])) _
          refine XS.istore X72.here hx rfl (hb hby at_267) rfl (l' := #[.val (.int p1), .val (.int p2), .val (.int p3), .val (.int p4), .val (.int v4_30), .val (.int v5_34), .val (.int v6_37), .val (.int v7_38), .val (.int v8_39), .val (.ref b40), .val (.int v10_73), .val (.int v11_74), .val (.int v12_75), .val (.int (0 : Int32)), .unset, .unset, .unset]) rfl ?_
          show Steps _ _ _ (T72.setTop (mkF m 269 #[.val (.int p1), .val (.int p2), .val (.int p3), .val (.int p4), .val (.int v4_30), .val (.int v5_34), .val (.int v6_37), .val (.int v7_38), .val (.int v8_39), .val (.ref b40), .val (.int v10_73), .val (.int v11_74), .val (.int v12_75), .val (.int (0 : Int32)), .unset, .unset, .unset] [])) _
          refine XS.goto X72.here hx rfl (pc0 := 269) (pc' := 284) rfl (hb hby at_269) (by decide) (by decide) ?_
          show Steps _ _ _ (T72.setTop (mkF m 284 #[.val (.int p1), .val (.int p2), .val (.int p3), .val (.int p4), .val (.int v4_30), .val (.int v5_34), .val (.int v6_37), .val (.int v7_38), .val (.int v8_39), .val (.ref b40), .val (.int v10_73), .val (.int v11_74), .val (.int v12_75), .val (.int (0 : Int32)), .unset, .unset, .unset] [])) _
          rw [show (own_exp v4_30 v12_75 v11_74) = (0 : Int32) from by simp [own_exp, c231_77, c254_79, c259_80]]; exact Steps.refl _
        · refine XS.ifNo X72.here hx rfl (hb hby at_259) rfl ((if0 _ _).trans (feq c259_80).1) ?_
          show Steps _ _ _ (T72.setTop (mkF m 262 #[.val (.int p1), .val (.int p2), .val (.int p3), .val (.int p4), .val (.int v4_30), .val (.int v5_34), .val (.int v6_37), .val (.int v7_38), .val (.int v8_39), .val (.ref b40), .val (.int v10_73), .val (.int v11_74), .val (.int v12_75), .unset, .unset, .unset, .unset] [])) _
          refine XS.iconst X72.here hx rfl (hb hby at_262) ?_
          show Steps _ _ _ (T72.setTop (mkF m 263 #[.val (.int p1), .val (.int p2), .val (.int p3), .val (.int p4), .val (.int v4_30), .val (.int v5_34), .val (.int v6_37), .val (.int v7_38), .val (.int v8_39), .val (.ref b40), .val (.int v10_73), .val (.int v11_74), .val (.int v12_75), .unset, .unset, .unset, .unset] [(.int (1 : Int32))])) _
          refine XS.goto X72.here hx rfl (pc0 := 263) (pc' := 267) rfl (hb hby at_263) (by decide) (by decide) ?_
          show Steps _ _ _ (T72.setTop (mkF m 267 #[.val (.int p1), .val (.int p2), .val (.int p3), .val (.int p4), .val (.int v4_30), .val (.int v5_34), .val (.int v6_37), .val (.int v7_38), .val (.int v8_39), .val (.ref b40), .val (.int v10_73), .val (.int v11_74), .val (.int v12_75), .unset, .unset, .unset, .unset] [(.int (1 : Int32))])) _
          refine XS.istore X72.here hx rfl (hb hby at_267) rfl (l' := #[.val (.int p1), .val (.int p2), .val (.int p3), .val (.int p4), .val (.int v4_30), .val (.int v5_34), .val (.int v6_37), .val (.int v7_38), .val (.int v8_39), .val (.ref b40), .val (.int v10_73), .val (.int v11_74), .val (.int v12_75), .val (.int (1 : Int32)), .unset, .unset, .unset]) rfl ?_
          show Steps _ _ _ (T72.setTop (mkF m 269 #[.val (.int p1), .val (.int p2), .val (.int p3), .val (.int p4), .val (.int v4_30), .val (.int v5_34), .val (.int v6_37), .val (.int v7_38), .val (.int v8_39), .val (.ref b40), .val (.int v10_73), .val (.int v11_74), .val (.int v12_75), .val (.int (1 : Int32)), .unset, .unset, .unset] [])) _
          refine XS.goto X72.here hx rfl (pc0 := 269) (pc' := 284) rfl (hb hby at_269) (by decide) (by decide) ?_
          show Steps _ _ _ (T72.setTop (mkF m 284 #[.val (.int p1), .val (.int p2), .val (.int p3), .val (.int p4), .val (.int v4_30), .val (.int v5_34), .val (.int v6_37), .val (.int v7_38), .val (.int v8_39), .val (.ref b40), .val (.int v10_73), .val (.int v11_74), .val (.int v12_75), .val (.int (1 : Int32)), .unset, .unset, .unset] [])) _
          rw [show (own_exp v4_30 v12_75 v11_74) = (1 : Int32) from by simp [own_exp, c231_77, c254_79, c259_80]]; exact Steps.refl _
      · refine XS.icmpYes X72.here hx rfl (pc0 := 254) (pc' := 272) rfl (hb hby at_254) rfl (feq c254_79).2 (by decide) (by decide) ?_
        show Steps _ _ _ (T72.setTop (mkF m 272 #[.val (.int p1), .val (.int p2), .val (.int p3), .val (.int p4), .val (.int v4_30), .val (.int v5_34), .val (.int v6_37), .val (.int v7_38), .val (.int v8_39), .val (.ref b40), .val (.int v10_73), .val (.int v11_74), .val (.int v12_75), .unset, .unset, .unset, .unset] [])) _
        refine XS.iload X72.here hx rfl (hb hby at_272) rfl ?_
        show Steps _ _ _ (T72.setTop (mkF m 274 #[.val (.int p1), .val (.int p2), .val (.int p3), .val (.int p4), .val (.int v4_30), .val (.int v5_34), .val (.int v6_37), .val (.int v7_38), .val (.int v8_39), .val (.ref b40), .val (.int v10_73), .val (.int v11_74), .val (.int v12_75), .unset, .unset, .unset, .unset] [(.int v12_75)])) _
        by_cases c274_81 : v12_75 = (0 : Int32)
        · refine XS.ifNo X72.here hx rfl (hb hby at_274) rfl ((if0 _ _).trans (teq c274_81).2) ?_
          show Steps _ _ _ (T72.setTop (mkF m 277 #[.val (.int p1), .val (.int p2), .val (.int p3), .val (.int p4), .val (.int v4_30), .val (.int v5_34), .val (.int v6_37), .val (.int v7_38), .val (.int v8_39), .val (.ref b40), .val (.int v10_73), .val (.int v11_74), .val (.int v12_75), .unset, .unset, .unset, .unset] [])) _
          refine XS.iconst X72.here hx rfl (hb hby at_277) ?_
          show Steps _ _ _ (T72.setTop (mkF m 278 #[.val (.int p1), .val (.int p2), .val (.int p3), .val (.int p4), .val (.int v4_30), .val (.int v5_34), .val (.int v6_37), .val (.int v7_38), .val (.int v8_39), .val (.ref b40), .val (.int v10_73), .val (.int v11_74), .val (.int v12_75), .unset, .unset, .unset, .unset] [(.int (1 : Int32))])) _
          refine XS.goto X72.here hx rfl (pc0 := 278) (pc' := 282) rfl (hb hby at_278) (by decide) (by decide) ?_
          show Steps _ _ _ (T72.setTop (mkF m 282 #[.val (.int p1), .val (.int p2), .val (.int p3), .val (.int p4), .val (.int v4_30), .val (.int v5_34), .val (.int v6_37), .val (.int v7_38), .val (.int v8_39), .val (.ref b40), .val (.int v10_73), .val (.int v11_74), .val (.int v12_75), .unset, .unset, .unset, .unset] [(.int (1 : Int32))])) _
          refine XS.istore X72.here hx rfl (hb hby at_282) rfl (l' := #[.val (.int p1), .val (.int p2), .val (.int p3), .val (.int p4), .val (.int v4_30), .val (.int v5_34), .val (.int v6_37), .val (.int v7_38), .val (.int v8_39), .val (.ref b40), .val (.int v10_73), .val (.int v11_74), .val (.int v12_75), .val (.int (1 : Int32)), .unset, .unset, .unset]) rfl ?_
          show Steps _ _ _ (T72.setTop (mkF m 284 #[.val (.int p1), .val (.int p2), .val (.int p3), .val (.int p4), .val (.int v4_30), .val (.int v5_34), .val (.int v6_37), .val (.int v7_38), .val (.int v8_39), .val (.ref b40), .val (.int v10_73), .val (.int v11_74), .val (.int v12_75), .val (.int (1 : Int32)), .unset, .unset, .unset] [])) _
          rw [show (own_exp v4_30 v12_75 v11_74) = (1 : Int32) from by simp [own_exp, c231_77, c254_79, c274_81]]; exact Steps.refl _
        · refine XS.ifYes X72.here hx rfl (pc0 := 274) (pc' := 281) rfl (hb hby at_274) rfl ((if0 _ _).trans (feq c274_81).2) (by decide) (by decide) ?_
          show Steps _ _ _ (T72.setTop (mkF m 281 #[.val (.int p1), .val (.int p2), .val (.int p3), .val (.int p4), .val (.int v4_30), .val (.int v5_34), .val (.int v6_37), .val (.int v7_38), .val (.int v8_39), .val (.ref b40), .val (.int v10_73), .val (.int v11_74), .val (.int v12_75), .unset, .unset, .unset, .unset] [])) _
          refine XS.iconst X72.here hx rfl (hb hby at_281) ?_
          show Steps _ _ _ (T72.setTop (mkF m 282 #[.val (.int p1), .val (.int p2), .val (.int p3), .val (.int p4), .val (.int v4_30), .val (.int v5_34), .val (.int v6_37), .val (.int v7_38), .val (.int v8_39), .val (.ref b40), .val (.int v10_73), .val (.int v11_74), .val (.int v12_75), .unset, .unset, .unset, .unset] [(.int (0 : Int32))])) _
          refine XS.istore X72.here hx rfl (hb hby at_282) rfl (l' := #[.val (.int p1), .val (.int p2), .val (.int p3), .val (.int p4), .val (.int v4_30), .val (.int v5_34), .val (.int v6_37), .val (.int v7_38), .val (.int v8_39), .val (.ref b40), .val (.int v10_73), .val (.int v11_74), .val (.int v12_75), .val (.int (0 : Int32)), .unset, .unset, .unset]) rfl ?_
          show Steps _ _ _ (T72.setTop (mkF m 284 #[.val (.int p1), .val (.int p2), .val (.int p3), .val (.int p4), .val (.int v4_30), .val (.int v5_34), .val (.int v6_37), .val (.int v7_38), .val (.int v8_39), .val (.ref b40), .val (.int v10_73), .val (.int v11_74), .val (.int v12_75), .val (.int (0 : Int32)), .unset, .unset, .unset] [])) _
          rw [show (own_exp v4_30 v12_75 v11_74) = (0 : Int32) from by simp [own_exp, c231_77, c254_79, c274_81]]; exact Steps.refl _
  refine own_go di76 ?_
  show own_Fin _ _ _ _ (T72.setTop (mkF m 284 #[.val (.int p1), .val (.int p2), .val (.int p3), .val (.int p4), .val (.int v4_30), .val (.int v5_34), .val (.int v6_37), .val (.int v7_38), .val (.int v8_39), .val (.ref b40), .val (.int v10_73), .val (.int v11_74), .val (.int v12_75), .val (.int (own_exp v4_30 v12_75 v11_74)), .unset, .unset, .unset] []))
  have hk : ∃ i : Fin 3, v4_30 = Int32.ofNat i.val := hz_v4_30 ▸ own_k3 p1
  have hn : ∃ i : Fin 4, v6_37 = Int32.ofNat (i.val + 1) := hz_v6_37 ▸ own_n4 _ p2
  have hs : ∃ i : Fin 4, v7_38 = Int32.ofNat i.val := hz_v7_38 ▸ own_s4 p3
  have hb' : ∃ i : Fin 256, v8_39 = Int32.ofNat i.val := hz_v8_39 ▸ own_b256 p4
  obtain ⟨r1, r2, r3, r4, r5, r6⟩ := own_rng hn hs
  obtain ⟨T82, h82, X82, e82, E82, A82, D82, U82, st82⟩ := newO X72 hx hZ hown (hw _ (List.mem_of_getElem? (i := 2) rfl)) (hw _ (List.mem_of_getElem? (i := 3) rfl)) (hw _ (List.mem_of_getElem? (i := 4) rfl)) e72 (g := (mkF m 284 #[.val (.int p1), .val (.int p2), .val (.int p3), .val (.int p4), .val (.int v4_30), .val (.int v5_34), .val (.int v6_37), .val (.int v7_38), .val (.int v8_39), .val (.ref b40), .val (.int v10_73), .val (.int v11_74), .val (.int v12_75), .val (.int (own_exp v4_30 v12_75 v11_74)), .unset, .unset, .unset] [])) rfl (hb hby at_284) (by decide) (by decide)
  obtain ⟨b82, g82⟩ : ∃ z, z = h72.size := ⟨_, rfl⟩
  rw [← g82] at A82 D82 U82 st82
  refine own_by st82 ?_
  have ne_b40_b82 : b40 ≠ b82 := Nat.ne_of_lt (Nat.lt_of_lt_of_eq V_b40_72.lt g82.symm)
  have V_b40_82 := V_b40_72.ext E82
  have g_b82 : n0 ≤ b82 := Nat.le_trans Z72 (Nat.le_of_eq g82.symm)
  have Z82 : n0 ≤ h82.size := Nat.le_trans Z72 E82.1
  have E_b82 := A82
  have F_operator_b82 : Fld Z h82 b82 "com/example/headwright/headwright/Filter$Composite" "operator" "C" (.int (0 : Int32)) := D82 (Or.inr (hw _ (List.mem_of_getElem? (i := 17) rfl))) (ty := .char) (by decide)
  have F_operands_b82 : Fld Z h82 b82 "com/example/headwright/headwright/Filter$Composite" "operands" "I" (.int (0 : Int32)) := D82 (Or.inr (hw _ (List.mem_of_getElem? (i := 19) rfl))) (ty := .int) (by decide)
  show own_Fin _ _ _ _ (T82.setTop (mkF m 287 #[.val (.int p1), .val (.int p2), .val (.int p3), .val (.int p4), .val (.int v4_30), .val (.int v5_34), .val (.int v6_37), .val (.int v7_38), .val (.int v8_39), .val (.ref b40), .val (.int v10_73), .val (.int v11_74), .val (.int v12_75), .val (.int (own_exp v4_30 v12_75 v11_74)), .unset, .unset, .unset] [(.ref b82)]))
  refine own_go (XS.dup X82.here hx rfl (hb hby at_287) rfl rfl (Steps.refl _)) ?_
  show own_Fin _ _ _ _ (T82.setTop (mkF m 288 #[.val (.int p1), .val (.int p2), .val (.int p3), .val (.int p4), .val (.int v4_30), .val (.int v5_34), .val (.int v6_37), .val (.int v7_38), .val (.int v8_39), .val (.ref b40), .val (.int v10_73), .val (.int v11_74), .val (.int v12_75), .val (.int (own_exp v4_30 v12_75 v11_74)), .unset, .unset, .unset] [(.ref b82), (.ref b82)]))
  refine own_go (XS.iload X82.here hx rfl (hb hby at_288) rfl (Steps.refl _)) ?_
  show own_Fin _ _ _ _ (T82.setTop (mkF m 290 #[.val (.int p1), .val (.int p2), .val (.int p3), .val (.int p4), .val (.int v4_30), .val (.int v5_34), .val (.int v6_37), .val (.int v7_38), .val (.int v8_39), .val (.ref b40), .val (.int v10_73), .val (.int v11_74), .val (.int v12_75), .val (.int (own_exp v4_30 v12_75 v11_74)), .unset, .unset, .unset] [(.int v5_34), (.ref b82), (.ref b82)]))
  refine own_go (XS.iload X82.here hx rfl (hb hby at_290) rfl (Steps.refl _)) ?_
  show own_Fin _ _ _ _ (T82.setTop (mkF m 292 #[.val (.int p1), .val (.int p2), .val (.int p3), .val (.int p4), .val (.int v4_30), .val (.int v5_34), .val (.int v6_37), .val (.int v7_38), .val (.int v8_39), .val (.ref b40), .val (.int v10_73), .val (.int v11_74), .val (.int v12_75), .val (.int (own_exp v4_30 v12_75 v11_74)), .unset, .unset, .unset] [(.int v6_37), (.int v5_34), (.ref b82), (.ref b82)]))
  obtain ⟨_, _, ⟨T83, L83, k83, n83⟩, -, X83, ⟨Lc83, hQ83, l83, y83, z83⟩, st83⟩ := X82.specialBack hx (y := (⟨"com/example/headwright/headwright/Filter$Composite", "<init>", "(CI)V"⟩ : MethodName)) rfl hown (mvT hZ (hw _ (List.mem_of_getElem? (i := 5) rfl))) (mvT hZ (hw _ (List.mem_of_getElem? (i := 6) rfl))) (mvT hZ (hw _ (List.mem_of_getElem? (i := 7) rfl))) (by decide) (backOf (W := 1) (rm1 l Z a0 hw [] b82 v5_34 v6_37 h82 n0 Z82 E_b82 F_operator_b82 F_operands_b82 g_b82) hZ (hw _ (List.mem_of_getElem? (i := 7) rfl)) (hw _ (List.mem_of_getElem? (i := 4) rfl)) (by decide) (by decide)) (g := (mkF m 292 #[.val (.int p1), .val (.int p2), .val (.int p3), .val (.int p4), .val (.int v4_30), .val (.int v5_34), .val (.int v6_37), .val (.int v7_38), .val (.int v8_39), .val (.ref b40), .val (.int v10_73), .val (.int v11_74), .val (.int v12_75), .val (.int (own_exp v4_30 v12_75 v11_74)), .unset, .unset, .unset] [(.int v6_37), (.int v5_34), (.ref b82), (.ref b82)])) rfl (by rw [hml]; rfl) (Steps.refl _) (a := b82) (argsL := [(.int v5_34), (.int v6_37)]) (rest := [(.ref b82)]) (lenOf pd__28_CI_29_V rfl) rfl (by show 2 * 0 + _ ≤ _; exact Nat.le_of_eq rfl) (hb hby at_292) (fun _ _ => ⟨rfl, e82, (by decide : 2 + 0 ≤ _), (by decide : 10 + 0 ≤ _)⟩)
  dsimp only [Pt.U, Pt.locs, Pt.cells, Pt.slots] at X83 l83 y83 z83 st83 hQ83
  subst l83 y83 z83
  refine own_go st83 ?_
  obtain ⟨rfl, Nq83, K83, Ek83, Fo83, Fn83⟩ := hQ83
  have V_b40_83 := V_b40_82.keep K83 (ninS ne_b40_b82 nin0)
  have E_b82_83 := E_b82.keep K83
  have Z83 := Nat.le_trans Z82 K83.1
  have N83 := Fr.app N72 Nq83
  show own_Fin _ _ _ _ (T83.setTop (mkF m 295 #[.val (.int p1), .val (.int p2), .val (.int p3), .val (.int p4), .val (.int v4_30), .val (.int v5_34), .val (.int v6_37), .val (.int v7_38), .val (.int v8_39), .val (.ref b40), .val (.int v10_73), .val (.int v11_74), .val (.int v12_75), .val (.int (own_exp v4_30 v12_75 v11_74)), .unset, .unset, .unset] [(.ref b82)]))
  refine own_go (XS.astore X83.here hx rfl (hb hby at_295) rfl rfl (l' := #[.val (.int p1), .val (.int p2), .val (.int p3), .val (.int p4), .val (.int v4_30), .val (.int v5_34), .val (.int v6_37), .val (.int v7_38), .val (.int v8_39), .val (.ref b40), .val (.int v10_73), .val (.int v11_74), .val (.int v12_75), .val (.int (own_exp v4_30 v12_75 v11_74)), .val (.ref b82), .unset, .unset]) rfl (Steps.refl _)) ?_
  show own_Fin _ _ _ _ (T83.setTop (mkF m 297 #[.val (.int p1), .val (.int p2), .val (.int p3), .val (.int p4), .val (.int v4_30), .val (.int v5_34), .val (.int v6_37), .val (.int v7_38), .val (.int v8_39), .val (.ref b40), .val (.int v10_73), .val (.int v11_74), .val (.int v12_75), .val (.int (own_exp v4_30 v12_75 v11_74)), .val (.ref b82), .unset, .unset] []))
  refine own_go (XS.aload X83.here hx rfl (hb hby at_297) rfl rfl (Steps.refl _)) ?_
  show own_Fin _ _ _ _ (T83.setTop (mkF m 299 #[.val (.int p1), .val (.int p2), .val (.int p3), .val (.int p4), .val (.int v4_30), .val (.int v5_34), .val (.int v6_37), .val (.int v7_38), .val (.int v8_39), .val (.ref b40), .val (.int v10_73), .val (.int v11_74), .val (.int v12_75), .val (.int (own_exp v4_30 v12_75 v11_74)), .val (.ref b82), .unset, .unset] [(.ref b82)]))
  refine own_go (XS.aconstNull X83.here hx rfl (hb hby at_299) (Steps.refl _)) ?_
  show own_Fin _ _ _ _ (T83.setTop (mkF m 300 #[.val (.int p1), .val (.int p2), .val (.int p3), .val (.int p4), .val (.int v4_30), .val (.int v5_34), .val (.int v6_37), .val (.int v7_38), .val (.int v8_39), .val (.ref b40), .val (.int v10_73), .val (.int v11_74), .val (.int v12_75), .val (.int (own_exp v4_30 v12_75 v11_74)), .val (.ref b82), .unset, .unset] [.null, (.ref b82)]))
  refine own_go (XS.aload X83.here hx rfl (hb hby at_300) rfl rfl (Steps.refl _)) ?_
  show own_Fin _ _ _ _ (T83.setTop (mkF m 302 #[.val (.int p1), .val (.int p2), .val (.int p3), .val (.int p4), .val (.int v4_30), .val (.int v5_34), .val (.int v6_37), .val (.int v7_38), .val (.int v8_39), .val (.ref b40), .val (.int v10_73), .val (.int v11_74), .val (.int v12_75), .val (.int (own_exp v4_30 v12_75 v11_74)), .val (.ref b82), .unset, .unset] [(.ref b40), .null, (.ref b82)]))
  refine own_go (XS.iload X83.here hx rfl (hb hby at_302) rfl (Steps.refl _)) ?_
  show own_Fin _ _ _ _ (T83.setTop (mkF m 304 #[.val (.int p1), .val (.int p2), .val (.int p3), .val (.int p4), .val (.int v4_30), .val (.int v5_34), .val (.int v6_37), .val (.int v7_38), .val (.int v8_39), .val (.ref b40), .val (.int v10_73), .val (.int v11_74), .val (.int v12_75), .val (.int (own_exp v4_30 v12_75 v11_74)), .val (.ref b82), .unset, .unset] [(.int v10_73), (.ref b40), .null, (.ref b82)]))
  obtain ⟨cq84, kq84, q84a, q84b, q84c⟩ := isOf hZ rfl Ek83
  obtain ⟨_, _, ⟨T84, L84, k84, n84⟩, -, X84, ⟨Lc84, hQ84, l84, y84, z84⟩, st84⟩ := X83.virtualBack hx (y := (⟨"com/example/headwright/headwright/Filter$Composite", "apply", "(Ljava/util/Map;[ZI)I"⟩ : MethodName)) (z := (⟨"com/example/headwright/headwright/Filter$Composite", "apply", "(Ljava/util/Map;[ZI)I"⟩ : MethodName)) hown (mvT hZ (hw _ (List.mem_of_getElem? (i := 20) rfl))) (mvT hZ (hw _ (List.mem_of_getElem? (i := 21) rfl))) (notFace_of_selects (args := #[]) (mvT hZ (hw _ (List.mem_of_getElem? (i := 23) rfl)))) (mvT hZ (hw _ (List.mem_of_getElem? (i := 23) rfl))) (mvT hZ (hw _ (List.mem_of_getElem? (i := 22) rfl))) (by decide) (backOf (W := 0) (rm4 l Z a0 hw [] b82 b40 v10_73 (nar .char v5_34) v6_37 v7_38 (v6_37.toNatClampNeg - 1) k40 (own_rs v8_39) T83.heap n0 Z83 Fo83 Fn83 V_b40_83 (Ne.symm ne_b40_b82) g_b40 rfl (by rw [← hz_v10_73]; exact r1) r2 r3 (by rw [← hz_v10_73]; exact r4) r5 (by rw [← hz_v10_73]; exact r6)) hZ (hw _ (List.mem_of_getElem? (i := 24) rfl)) (hw _ (List.mem_of_getElem? (i := 4) rfl)) (by decide) (by decide)) q84a q84c (g := (mkF m 304 #[.val (.int p1), .val (.int p2), .val (.int p3), .val (.int p4), .val (.int v4_30), .val (.int v5_34), .val (.int v6_37), .val (.int v7_38), .val (.int v8_39), .val (.ref b40), .val (.int v10_73), .val (.int v11_74), .val (.int v12_75), .val (.int (own_exp v4_30 v12_75 v11_74)), .val (.ref b82), .unset, .unset] [(.int v10_73), (.ref b40), .null, (.ref b82)])) rfl (by rw [hml]; rfl) (Steps.refl _) (argsL := [.null, (.ref b40), (.int v10_73)]) (rest := []) (lenOf pd__28_Ljava_2f_util_2f_Map_3b__5b_ZI_29_I rfl) rfl (by show 2 * 0 + _ ≤ _; exact Nat.le_of_eq rfl) (hb hby at_304) (fun _ _ => ⟨rfl, rfl, (by decide : 2 + 0 ≤ _), (by decide : 10 + 0 ≤ _)⟩)
  dsimp only [Pt.U, Pt.locs, Pt.cells, Pt.slots] at X84 l84 y84 z84 st84 hQ84
  subst l84 y84 z84
  refine own_go st84 ?_
  obtain ⟨rfl, Nq84, K84, Vk84⟩ := hQ84
  have Ek_84 := Ek83.keep K84
  have Fo83_84 := Fo83.keep K84 (ninS (Ne.symm ne_b40_b82) nin0)
  have Fn83_84 := Fn83.keep K84 (ninS (Ne.symm ne_b40_b82) nin0)
  have Z84 := Nat.le_trans Z83 K84.1
  have N84 := Fr.app N83 Nq84
  show own_Fin _ _ _ _ (T84.setTop (mkF m 307 #[.val (.int p1), .val (.int p2), .val (.int p3), .val (.int p4), .val (.int v4_30), .val (.int v5_34), .val (.int v6_37), .val (.int v7_38), .val (.int v8_39), .val (.ref b40), .val (.int v10_73), .val (.int v11_74), .val (.int v12_75), .val (.int (own_exp v4_30 v12_75 v11_74)), .val (.ref b82), .unset, .unset] [(.int (v7_38 + (1 : Int32)))]))
  refine own_go (XS.istore X84.here hx rfl (hb hby at_307) rfl (l' := #[.val (.int p1), .val (.int p2), .val (.int p3), .val (.int p4), .val (.int v4_30), .val (.int v5_34), .val (.int v6_37), .val (.int v7_38), .val (.int v8_39), .val (.ref b40), .val (.int v10_73), .val (.int v11_74), .val (.int v12_75), .val (.int (own_exp v4_30 v12_75 v11_74)), .val (.ref b82), .val (.int (v7_38 + (1 : Int32))), .unset]) rfl (Steps.refl _)) ?_
  show own_Fin _ _ _ _ (T84.setTop (mkF m 309 #[.val (.int p1), .val (.int p2), .val (.int p3), .val (.int p4), .val (.int v4_30), .val (.int v5_34), .val (.int v6_37), .val (.int v7_38), .val (.int v8_39), .val (.ref b40), .val (.int v10_73), .val (.int v11_74), .val (.int v12_75), .val (.int (own_exp v4_30 v12_75 v11_74)), .val (.ref b82), .val (.int (v7_38 + (1 : Int32))), .unset] []))
  generalize hz_v15_85 : (v7_38 + (1 : Int32)) = v15_85
  refine own_go (XS.iload X84.here hx rfl (hb hby at_309) rfl (Steps.refl _)) ?_
  show own_Fin _ _ _ _ (T84.setTop (mkF m 311 #[.val (.int p1), .val (.int p2), .val (.int p3), .val (.int p4), .val (.int v4_30), .val (.int v5_34), .val (.int v6_37), .val (.int v7_38), .val (.int v8_39), .val (.ref b40), .val (.int v10_73), .val (.int v11_74), .val (.int v12_75), .val (.int (own_exp v4_30 v12_75 v11_74)), .val (.ref b82), .val (.int v15_85), .unset] [(.int v15_85)]))
  refine own_go (XS.iload X84.here hx rfl (hb hby at_311) rfl (Steps.refl _)) ?_
  show own_Fin _ _ _ _ (T84.setTop (mkF m 313 #[.val (.int p1), .val (.int p2), .val (.int p3), .val (.int p4), .val (.int v4_30), .val (.int v5_34), .val (.int v6_37), .val (.int v7_38), .val (.int v8_39), .val (.ref b40), .val (.int v10_73), .val (.int v11_74), .val (.int v12_75), .val (.int (own_exp v4_30 v12_75 v11_74)), .val (.ref b82), .val (.int v15_85), .unset] [(.int v7_38), (.int v15_85)]))
  refine own_go (XS.iconst X84.here hx rfl (hb hby at_313) (Steps.refl _)) ?_
  show own_Fin _ _ _ _ (T84.setTop (mkF m 314 #[.val (.int p1), .val (.int p2), .val (.int p3), .val (.int p4), .val (.int v4_30), .val (.int v5_34), .val (.int v6_37), .val (.int v7_38), .val (.int v8_39), .val (.ref b40), .val (.int v10_73), .val (.int v11_74), .val (.int v12_75), .val (.int (own_exp v4_30 v12_75 v11_74)), .val (.ref b82), .val (.int v15_85), .unset] [(.int (1 : Int32)), (.int v7_38), (.int v15_85)]))
  refine own_go (XS.iadd X84.here hx rfl (hb hby at_314) rfl (Steps.refl _)) ?_
  show own_Fin _ _ _ _ (T84.setTop (mkF m 315 #[.val (.int p1), .val (.int p2), .val (.int p3), .val (.int p4), .val (.int v4_30), .val (.int v5_34), .val (.int v6_37), .val (.int v7_38), .val (.int v8_39), .val (.ref b40), .val (.int v10_73), .val (.int v11_74), .val (.int v12_75), .val (.int (own_exp v4_30 v12_75 v11_74)), .val (.ref b82), .val (.int v15_85), .unset] [(.int (v7_38 + (1 : Int32))), (.int v15_85)]))
  refine own_go (XS.icmpNo X84.here hx rfl (hb hby at_315) rfl (teq (show v15_85 = (v7_38 + (1 : Int32)) from hz_v15_85.symm)).2 (Steps.refl _)) ?_
  show own_Fin _ _ _ _ (T84.setTop (mkF m 318 #[.val (.int p1), .val (.int p2), .val (.int p3), .val (.int p4), .val (.int v4_30), .val (.int v5_34), .val (.int v6_37), .val (.int v7_38), .val (.int v8_39), .val (.ref b40), .val (.int v10_73), .val (.int v11_74), .val (.int v12_75), .val (.int (own_exp v4_30 v12_75 v11_74)), .val (.ref b82), .val (.int v15_85), .unset] []))
  refine own_go (XS.aload X84.here hx rfl (hb hby at_318) rfl rfl (Steps.refl _)) ?_
  show own_Fin _ _ _ _ (T84.setTop (mkF m 320 #[.val (.int p1), .val (.int p2), .val (.int p3), .val (.int p4), .val (.int v4_30), .val (.int v5_34), .val (.int v6_37), .val (.int v7_38), .val (.int v8_39), .val (.ref b40), .val (.int v10_73), .val (.int v11_74), .val (.int v12_75), .val (.int (own_exp v4_30 v12_75 v11_74)), .val (.ref b82), .val (.int v15_85), .unset] [(.ref b40)]))
  refine own_go (XS.iload X84.here hx rfl (hb hby at_320) rfl (Steps.refl _)) ?_
  show own_Fin _ _ _ _ (T84.setTop (mkF m 322 #[.val (.int p1), .val (.int p2), .val (.int p3), .val (.int p4), .val (.int v4_30), .val (.int v5_34), .val (.int v6_37), .val (.int v7_38), .val (.int v8_39), .val (.ref b40), .val (.int v10_73), .val (.int v11_74), .val (.int v12_75), .val (.int (own_exp v4_30 v12_75 v11_74)), .val (.ref b82), .val (.int v15_85), .unset] [(.int v7_38), (.ref b40)]))
  obtain ⟨cl86, Ar86, qa86, Sa86, Na86, Ha86, Ga86⟩ := id Vk84
  have hin86 : ¬ (v7_38 < 0 ∨ cl86.slots.size ≤ (v7_38).toNatClampNeg) := inb_of Sa86 (own_in r2 r3)
  have hat86 : cl86.slots[(v7_38).toNatClampNeg]? = some (.int (own_get ((own_rs v8_39).set v7_38.toNatClampNeg (own_val (nar .char v5_34) (own_rs v8_39) (v6_37.toNatClampNeg - 1) v7_38)) v7_38)) := Has.at Ha86 hin86 (own_getD _ _)
  refine own_by (X84.baloadBooleans hx (j := v7_38) (v := (.int (own_get ((own_rs v8_39).set v7_38.toNatClampNeg (own_val (nar .char v5_34) (own_rs v8_39) (v6_37.toNatClampNeg - 1) v7_38)) v7_38))) Ar86.1 (State.isArrayOf_alike hZ.alike Ar86.2.1) Ar86.2.2 hin86 hat86 (g := (mkF m 322 #[.val (.int p1), .val (.int p2), .val (.int p3), .val (.int p4), .val (.int v4_30), .val (.int v5_34), .val (.int v6_37), .val (.int v7_38), .val (.int v8_39), .val (.ref b40), .val (.int v10_73), .val (.int v11_74), .val (.int v12_75), .val (.int (own_exp v4_30 v12_75 v11_74)), .val (.ref b82), .val (.int v15_85), .unset] [(.int v7_38), (.ref b40)])) rfl rfl (hb hby at_322)) ?_
  show own_Fin _ _ _ _ (T84.setTop (mkF m 323 #[.val (.int p1), .val (.int p2), .val (.int p3), .val (.int p4), .val (.int v4_30), .val (.int v5_34), .val (.int v6_37), .val (.int v7_38), .val (.int v8_39), .val (.ref b40), .val (.int v10_73), .val (.int v11_74), .val (.int v12_75), .val (.int (own_exp v4_30 v12_75 v11_74)), .val (.ref b82), .val (.int v15_85), .unset] [(.int (own_get ((own_rs v8_39).set v7_38.toNatClampNeg (own_val (nar .char v5_34) (own_rs v8_39) (v6_37.toNatClampNeg - 1) v7_38)) v7_38))]))
  refine own_go (XS.iload X84.here hx rfl (hb hby at_323) rfl (Steps.refl _)) ?_
  show own_Fin _ _ _ _ (T84.setTop (mkF m 325 #[.val (.int p1), .val (.int p2), .val (.int p3), .val (.int p4), .val (.int v4_30), .val (.int v5_34), .val (.int v6_37), .val (.int v7_38), .val (.int v8_39), .val (.ref b40), .val (.int v10_73), .val (.int v11_74), .val (.int v12_75), .val (.int (own_exp v4_30 v12_75 v11_74)), .val (.ref b82), .val (.int v15_85), .unset] [(.int (own_exp v4_30 v12_75 v11_74)), (.int (own_get ((own_rs v8_39).set v7_38.toNatClampNeg (own_val (nar .char v5_34) (own_rs v8_39) (v6_37.toNatClampNeg - 1) v7_38)) v7_38))]))
  refine own_go (XS.icmpNo X84.here hx rfl (hb hby at_325) rfl (teq (show (own_get ((own_rs v8_39).set v7_38.toNatClampNeg (own_val (nar .char v5_34) (own_rs v8_39) (v6_37.toNatClampNeg - 1) v7_38)) v7_38) = (own_exp v4_30 v12_75 v11_74) from by rw [← hz_v12_75, ← hz_v11_74, ← hz_v5_34]; exact own_fin hk hn hs hb')).2 (Steps.refl _)) ?_
  show own_Fin _ _ _ _ (T84.setTop (mkF m 328 #[.val (.int p1), .val (.int p2), .val (.int p3), .val (.int p4), .val (.int v4_30), .val (.int v5_34), .val (.int v6_37), .val (.int v7_38), .val (.int v8_39), .val (.ref b40), .val (.int v10_73), .val (.int v11_74), .val (.int v12_75), .val (.int (own_exp v4_30 v12_75 v11_74)), .val (.ref b82), .val (.int v15_85), .unset] []))
  refine own_go (XS.iconst X84.here hx rfl (hb hby at_328) (Steps.refl _)) ?_
  show own_Fin _ _ _ _ (T84.setTop (mkF m 329 #[.val (.int p1), .val (.int p2), .val (.int p3), .val (.int p4), .val (.int v4_30), .val (.int v5_34), .val (.int v6_37), .val (.int v7_38), .val (.int v8_39), .val (.ref b40), .val (.int v10_73), .val (.int v11_74), .val (.int v12_75), .val (.int (own_exp v4_30 v12_75 v11_74)), .val (.ref b82), .val (.int v15_85), .unset] [(.int (1 : Int32))]))
  refine own_go (XS.goto X84.here hx rfl (pc0 := 329) (pc' := 333) rfl (hb hby at_329) (by decide) (by decide) (Steps.refl _)) ?_
  show own_Fin _ _ _ _ (T84.setTop (mkF m 333 #[.val (.int p1), .val (.int p2), .val (.int p3), .val (.int p4), .val (.int v4_30), .val (.int v5_34), .val (.int v6_37), .val (.int v7_38), .val (.int v8_39), .val (.ref b40), .val (.int v10_73), .val (.int v11_74), .val (.int v12_75), .val (.int (own_exp v4_30 v12_75 v11_74)), .val (.ref b82), .val (.int v15_85), .unset] [(.int (1 : Int32))]))
  refine own_go (XS.istore X84.here hx rfl (hb hby at_333) rfl (l' := #[.val (.int p1), .val (.int p2), .val (.int p3), .val (.int p4), .val (.int v4_30), .val (.int v5_34), .val (.int v6_37), .val (.int v7_38), .val (.int v8_39), .val (.ref b40), .val (.int v10_73), .val (.int v11_74), .val (.int v12_75), .val (.int (own_exp v4_30 v12_75 v11_74)), .val (.ref b82), .val (.int v15_85), .val (.int (1 : Int32))]) rfl (Steps.refl _)) ?_
  show own_Fin _ _ _ _ (T84.setTop (mkF m 335 #[.val (.int p1), .val (.int p2), .val (.int p3), .val (.int p4), .val (.int v4_30), .val (.int v5_34), .val (.int v6_37), .val (.int v7_38), .val (.int v8_39), .val (.ref b40), .val (.int v10_73), .val (.int v11_74), .val (.int v12_75), .val (.int (own_exp v4_30 v12_75 v11_74)), .val (.ref b82), .val (.int v15_85), .val (.int (1 : Int32))] []))
  refine own_go (XS.iload X84.here hx rfl (hb hby at_335) rfl (Steps.refl _)) ?_
  show own_Fin _ _ _ _ (T84.setTop (mkF m 337 #[.val (.int p1), .val (.int p2), .val (.int p3), .val (.int p4), .val (.int v4_30), .val (.int v5_34), .val (.int v6_37), .val (.int v7_38), .val (.int v8_39), .val (.ref b40), .val (.int v10_73), .val (.int v11_74), .val (.int v12_75), .val (.int (own_exp v4_30 v12_75 v11_74)), .val (.ref b82), .val (.int v15_85), .val (.int (1 : Int32))] [(.int (1 : Int32))]))
  refine own_go (XS.ifNo X84.here hx rfl (hb hby at_337) rfl ((if0 _ _).trans (feq (by decide : ¬ ((1 : Int32) = (0 : Int32)))).1) (Steps.refl _)) ?_
  show own_Fin _ _ _ _ (T84.setTop (mkF m 340 #[.val (.int p1), .val (.int p2), .val (.int p3), .val (.int p4), .val (.int v4_30), .val (.int v5_34), .val (.int v6_37), .val (.int v7_38), .val (.int v8_39), .val (.ref b40), .val (.int v10_73), .val (.int v11_74), .val (.int v12_75), .val (.int (own_exp v4_30 v12_75 v11_74)), .val (.ref b82), .val (.int v15_85), .val (.int (1 : Int32))] []))
  have di87 : Steps p.tables e below (T84.setTop (mkF m 340 #[.val (.int p1), .val (.int p2), .val (.int p3), .val (.int p4), .val (.int v4_30), .val (.int v5_34), .val (.int v6_37), .val (.int v7_38), .val (.int v8_39), .val (.ref b40), .val (.int v10_73), .val (.int v11_74), .val (.int v12_75), .val (.int (own_exp v4_30 v12_75 v11_74)), .val (.ref b82), .val (.int v15_85), .val (.int (1 : Int32))] [])) (T84.setTop (mkF m 369 #[.val (.int p1), .val (.int p2), .val (.int p3), .val (.int p4), .val (.int v4_30), .val (.int v5_34), .val (.int v6_37), .val (.int v7_38), .val (.int v8_39), .val (.ref b40), .val (.int v10_73), .val (.int v11_74), .val (.int v12_75), .val (.int (own_exp v4_30 v12_75 v11_74)), .val (.ref b82), .val (.int v15_85), .val (.int (1 : Int32))] [(.int (1 : Int32))])) := by
    refine XS.iload X84.here hx rfl (hb hby at_340) rfl ?_
    show Steps _ _ _ (T84.setTop (mkF m 342 #[.val (.int p1), .val (.int p2), .val (.int p3), .val (.int p4), .val (.int v4_30), .val (.int v5_34), .val (.int v6_37), .val (.int v7_38), .val (.int v8_39), .val (.ref b40), .val (.int v10_73), .val (.int v11_74), .val (.int v12_75), .val (.int (own_exp v4_30 v12_75 v11_74)), .val (.ref b82), .val (.int v15_85), .val (.int (1 : Int32))] [(.int v7_38)])) _
    by_cases c342_88 : (0 : Int32) < v7_38
    · refine XS.ifNo X84.here hx rfl (hb hby at_342) rfl ((if0 _ _).trans (tlt c342_88).2.2.2) ?_
      show Steps _ _ _ (T84.setTop (mkF m 345 #[.val (.int p1), .val (.int p2), .val (.int p3), .val (.int p4), .val (.int v4_30), .val (.int v5_34), .val (.int v6_37), .val (.int v7_38), .val (.int v8_39), .val (.ref b40), .val (.int v10_73), .val (.int v11_74), .val (.int v12_75), .val (.int (own_exp v4_30 v12_75 v11_74)), .val (.ref b82), .val (.int v15_85), .val (.int (1 : Int32))] [])) _
      refine XS.aload X84.here hx rfl (hb hby at_345) rfl rfl ?_
      show Steps _ _ _ (T84.setTop (mkF m 347 #[.val (.int p1), .val (.int p2), .val (.int p3), .val (.int p4), .val (.int v4_30), .val (.int v5_34), .val (.int v6_37), .val (.int v7_38), .val (.int v8_39), .val (.ref b40), .val (.int v10_73), .val (.int v11_74), .val (.int v12_75), .val (.int (own_exp v4_30 v12_75 v11_74)), .val (.ref b82), .val (.int v15_85), .val (.int (1 : Int32))] [(.ref b40)])) _
      refine XS.iconst X84.here hx rfl (hb hby at_347) ?_
      show Steps _ _ _ (T84.setTop (mkF m 348 #[.val (.int p1), .val (.int p2), .val (.int p3), .val (.int p4), .val (.int v4_30), .val (.int v5_34), .val (.int v6_37), .val (.int v7_38), .val (.int v8_39), .val (.ref b40), .val (.int v10_73), .val (.int v11_74), .val (.int v12_75), .val (.int (own_exp v4_30 v12_75 v11_74)), .val (.ref b82), .val (.int v15_85), .val (.int (1 : Int32))] [(.int (0 : Int32)), (.ref b40)])) _
      obtain ⟨cl89, Ar89, qa89, Sa89, Na89, Ha89, Ga89⟩ := id Vk84
      have hin89 : ¬ ((0 : Int32) < 0 ∨ cl89.slots.size ≤ ((0 : Int32)).toNatClampNeg) := inb_of Sa89 ⟨by decide, by decide⟩
      have hat89 : cl89.slots[((0 : Int32)).toNatClampNeg]? = some (.int (own_get ((own_rs v8_39).set v7_38.toNatClampNeg (own_val (nar .char v5_34) (own_rs v8_39) (v6_37.toNatClampNeg - 1) v7_38)) (0 : Int32))) := Has.at Ha89 hin89 (own_getD _ _)
      refine X84.baloadBooleans hx (j := (0 : Int32)) (v := (.int (own_get ((own_rs v8_39).set v7_38.toNatClampNeg (own_val (nar .char v5_34) (own_rs v8_39) (v6_37.toNatClampNeg - 1) v7_38)) (0 : Int32)))) Ar89.1 (State.isArrayOf_alike hZ.alike Ar89.2.1) Ar89.2.2 hin89 hat89 (g := (mkF m 348 #[.val (.int p1), .val (.int p2), .val (.int p3), .val (.int p4), .val (.int v4_30), .val (.int v5_34), .val (.int v6_37), .val (.int v7_38), .val (.int v8_39), .val (.ref b40), .val (.int v10_73), .val (.int v11_74), .val (.int v12_75), .val (.int (own_exp v4_30 v12_75 v11_74)), .val (.ref b82), .val (.int v15_85), .val (.int (1 : Int32))] [(.int (0 : Int32)), (.ref b40)])) rfl rfl (hb hby at_348) _ ?_
      show Steps _ _ _ (T84.setTop (mkF m 349 #[.val (.int p1), .val (.int p2), .val (.int p3), .val (.int p4), .val (.int v4_30), .val (.int v5_34), .val (.int v6_37), .val (.int v7_38), .val (.int v8_39), .val (.ref b40), .val (.int v10_73), .val (.int v11_74), .val (.int v12_75), .val (.int (own_exp v4_30 v12_75 v11_74)), .val (.ref b82), .val (.int v15_85), .val (.int (1 : Int32))] [(.int (own_get ((own_rs v8_39).set v7_38.toNatClampNeg (own_val (nar .char v5_34) (own_rs v8_39) (v6_37.toNatClampNeg - 1) v7_38)) (0 : Int32)))])) _
      refine XS.iload X84.here hx rfl (hb hby at_349) rfl ?_
      show Steps _ _ _ (T84.setTop (mkF m 351 #[.val (.int p1), .val (.int p2), .val (.int p3), .val (.int p4), .val (.int v4_30), .val (.int v5_34), .val (.int v6_37), .val (.int v7_38), .val (.int v8_39), .val (.ref b40), .val (.int v10_73), .val (.int v11_74), .val (.int v12_75), .val (.int (own_exp v4_30 v12_75 v11_74)), .val (.ref b82), .val (.int v15_85), .val (.int (1 : Int32))] [(.int v8_39), (.int (own_get ((own_rs v8_39).set v7_38.toNatClampNeg (own_val (nar .char v5_34) (own_rs v8_39) (v6_37.toNatClampNeg - 1) v7_38)) (0 : Int32)))])) _
      refine XS.iconst X84.here hx rfl (hb hby at_351) ?_
      show Steps _ _ _ (T84.setTop (mkF m 352 #[.val (.int p1), .val (.int p2), .val (.int p3), .val (.int p4), .val (.int v4_30), .val (.int v5_34), .val (.int v6_37), .val (.int v7_38), .val (.int v8_39), .val (.ref b40), .val (.int v10_73), .val (.int v11_74), .val (.int v12_75), .val (.int (own_exp v4_30 v12_75 v11_74)), .val (.ref b82), .val (.int v15_85), .val (.int (1 : Int32))] [(.int (1 : Int32)), (.int v8_39), (.int (own_get ((own_rs v8_39).set v7_38.toNatClampNeg (own_val (nar .char v5_34) (own_rs v8_39) (v6_37.toNatClampNeg - 1) v7_38)) (0 : Int32)))])) _
      refine XS.iand X84.here hx rfl (hb hby at_352) rfl ?_
      show Steps _ _ _ (T84.setTop (mkF m 353 #[.val (.int p1), .val (.int p2), .val (.int p3), .val (.int p4), .val (.int v4_30), .val (.int v5_34), .val (.int v6_37), .val (.int v7_38), .val (.int v8_39), .val (.ref b40), .val (.int v10_73), .val (.int v11_74), .val (.int v12_75), .val (.int (own_exp v4_30 v12_75 v11_74)), .val (.ref b82), .val (.int v15_85), .val (.int (1 : Int32))] [(.int (v8_39 &&& (1 : Int32))), (.int (own_get ((own_rs v8_39).set v7_38.toNatClampNeg (own_val (nar .char v5_34) (own_rs v8_39) (v6_37.toNatClampNeg - 1) v7_38)) (0 : Int32)))])) _
      by_cases c353_90 : (v8_39 &&& (1 : Int32)) = (0 : Int32)
      · refine XS.ifYes X84.here hx rfl (pc0 := 353) (pc' := 360) rfl (hb hby at_353) rfl ((if0 _ _).trans (teq c353_90).1) (by decide) (by decide) ?_
        show Steps _ _ _ (T84.setTop (mkF m 360 #[.val (.int p1), .val (.int p2), .val (.int p3), .val (.int p4), .val (.int v4_30), .val (.int v5_34), .val (.int v6_37), .val (.int v7_38), .val (.int v8_39), .val (.ref b40), .val (.int v10_73), .val (.int v11_74), .val (.int v12_75), .val (.int (own_exp v4_30 v12_75 v11_74)), .val (.ref b82), .val (.int v15_85), .val (.int (1 : Int32))] [(.int (own_get ((own_rs v8_39).set v7_38.toNatClampNeg (own_val (nar .char v5_34) (own_rs v8_39) (v6_37.toNatClampNeg - 1) v7_38)) (0 : Int32)))])) _
        refine XS.iconst X84.here hx rfl (hb hby at_360) ?_
        show Steps _ _ _ (T84.setTop (mkF m 361 #[.val (.int p1), .val (.int p2), .val (.int p3), .val (.int p4), .val (.int v4_30), .val (.int v5_34), .val (.int v6_37), .val (.int v7_38), .val (.int v8_39), .val (.ref b40), .val (.int v10_73), .val (.int v11_74), .val (.int v12_75), .val (.int (own_exp v4_30 v12_75 v11_74)), .val (.ref b82), .val (.int v15_85), .val (.int (1 : Int32))] [(.int (0 : Int32)), (.int (own_get ((own_rs v8_39).set v7_38.toNatClampNeg (own_val (nar .char v5_34) (own_rs v8_39) (v6_37.toNatClampNeg - 1) v7_38)) (0 : Int32)))])) _
        refine XS.icmpNo X84.here hx rfl (hb hby at_361) rfl (teq (show (own_get ((own_rs v8_39).set v7_38.toNatClampNeg (own_val (nar .char v5_34) (own_rs v8_39) (v6_37.toNatClampNeg - 1) v7_38)) (0 : Int32)) = (0 : Int32) from by rw [own_miss _ _ _ _ (by decide) c342_88]; show own_bit _ _ = _; simp [own_bit, c353_90])).2 ?_
        show Steps _ _ _ (T84.setTop (mkF m 364 #[.val (.int p1), .val (.int p2), .val (.int p3), .val (.int p4), .val (.int v4_30), .val (.int v5_34), .val (.int v6_37), .val (.int v7_38), .val (.int v8_39), .val (.ref b40), .val (.int v10_73), .val (.int v11_74), .val (.int v12_75), .val (.int (own_exp v4_30 v12_75 v11_74)), .val (.ref b82), .val (.int v15_85), .val (.int (1 : Int32))] [])) _
        refine XS.iconst X84.here hx rfl (hb hby at_364) ?_
        show Steps _ _ _ (T84.setTop (mkF m 365 #[.val (.int p1), .val (.int p2), .val (.int p3), .val (.int p4), .val (.int v4_30), .val (.int v5_34), .val (.int v6_37), .val (.int v7_38), .val (.int v8_39), .val (.ref b40), .val (.int v10_73), .val (.int v11_74), .val (.int v12_75), .val (.int (own_exp v4_30 v12_75 v11_74)), .val (.ref b82), .val (.int v15_85), .val (.int (1 : Int32))] [(.int (1 : Int32))])) _
        refine XS.goto X84.here hx rfl (pc0 := 365) (pc' := 369) rfl (hb hby at_365) (by decide) (by decide) ?_
        show Steps _ _ _ (T84.setTop (mkF m 369 #[.val (.int p1), .val (.int p2), .val (.int p3), .val (.int p4), .val (.int v4_30), .val (.int v5_34), .val (.int v6_37), .val (.int v7_38), .val (.int v8_39), .val (.ref b40), .val (.int v10_73), .val (.int v11_74), .val (.int v12_75), .val (.int (own_exp v4_30 v12_75 v11_74)), .val (.ref b82), .val (.int v15_85), .val (.int (1 : Int32))] [(.int (1 : Int32))])) _
        exact Steps.refl _
      · refine XS.ifNo X84.here hx rfl (hb hby at_353) rfl ((if0 _ _).trans (feq c353_90).1) ?_
        show Steps _ _ _ (T84.setTop (mkF m 356 #[.val (.int p1), .val (.int p2), .val (.int p3), .val (.int p4), .val (.int v4_30), .val (.int v5_34), .val (.int v6_37), .val (.int v7_38), .val (.int v8_39), .val (.ref b40), .val (.int v10_73), .val (.int v11_74), .val (.int v12_75), .val (.int (own_exp v4_30 v12_75 v11_74)), .val (.ref b82), .val (.int v15_85), .val (.int (1 : Int32))] [(.int (own_get ((own_rs v8_39).set v7_38.toNatClampNeg (own_val (nar .char v5_34) (own_rs v8_39) (v6_37.toNatClampNeg - 1) v7_38)) (0 : Int32)))])) _
        refine XS.iconst X84.here hx rfl (hb hby at_356) ?_
        show Steps _ _ _ (T84.setTop (mkF m 357 #[.val (.int p1), .val (.int p2), .val (.int p3), .val (.int p4), .val (.int v4_30), .val (.int v5_34), .val (.int v6_37), .val (.int v7_38), .val (.int v8_39), .val (.ref b40), .val (.int v10_73), .val (.int v11_74), .val (.int v12_75), .val (.int (own_exp v4_30 v12_75 v11_74)), .val (.ref b82), .val (.int v15_85), .val (.int (1 : Int32))] [(.int (1 : Int32)), (.int (own_get ((own_rs v8_39).set v7_38.toNatClampNeg (own_val (nar .char v5_34) (own_rs v8_39) (v6_37.toNatClampNeg - 1) v7_38)) (0 : Int32)))])) _
        refine XS.goto X84.here hx rfl (pc0 := 357) (pc' := 361) rfl (hb hby at_357) (by decide) (by decide) ?_
        show Steps _ _ _ (T84.setTop (mkF m 361 #[.val (.int p1), .val (.int p2), .val (.int p3), .val (.int p4), .val (.int v4_30), .val (.int v5_34), .val (.int v6_37), .val (.int v7_38), .val (.int v8_39), .val (.ref b40), .val (.int v10_73), .val (.int v11_74), .val (.int v12_75), .val (.int (own_exp v4_30 v12_75 v11_74)), .val (.ref b82), .val (.int v15_85), .val (.int (1 : Int32))] [(.int (1 : Int32)), (.int (own_get ((own_rs v8_39).set v7_38.toNatClampNeg (own_val (nar .char v5_34) (own_rs v8_39) (v6_37.toNatClampNeg - 1) v7_38)) (0 : Int32)))])) _
        refine XS.icmpNo X84.here hx rfl (hb hby at_361) rfl (teq (show (own_get ((own_rs v8_39).set v7_38.toNatClampNeg (own_val (nar .char v5_34) (own_rs v8_39) (v6_37.toNatClampNeg - 1) v7_38)) (0 : Int32)) = (1 : Int32) from by rw [own_miss _ _ _ _ (by decide) c342_88]; show own_bit _ _ = _; simp [own_bit, c353_90])).2 ?_
        show Steps _ _ _ (T84.setTop (mkF m 364 #[.val (.int p1), .val (.int p2), .val (.int p3), .val (.int p4), .val (.int v4_30), .val (.int v5_34), .val (.int v6_37), .val (.int v7_38), .val (.int v8_39), .val (.ref b40), .val (.int v10_73), .val (.int v11_74), .val (.int v12_75), .val (.int (own_exp v4_30 v12_75 v11_74)), .val (.ref b82), .val (.int v15_85), .val (.int (1 : Int32))] [])) _
        refine XS.iconst X84.here hx rfl (hb hby at_364) ?_
        show Steps _ _ _ (T84.setTop (mkF m 365 #[.val (.int p1), .val (.int p2), .val (.int p3), .val (.int p4), .val (.int v4_30), .val (.int v5_34), .val (.int v6_37), .val (.int v7_38), .val (.int v8_39), .val (.ref b40), .val (.int v10_73), .val (.int v11_74), .val (.int v12_75), .val (.int (own_exp v4_30 v12_75 v11_74)), .val (.ref b82), .val (.int v15_85), .val (.int (1 : Int32))] [(.int (1 : Int32))])) _
        refine XS.goto X84.here hx rfl (pc0 := 365) (pc' := 369) rfl (hb hby at_365) (by decide) (by decide) ?_
        show Steps _ _ _ (T84.setTop (mkF m 369 #[.val (.int p1), .val (.int p2), .val (.int p3), .val (.int p4), .val (.int v4_30), .val (.int v5_34), .val (.int v6_37), .val (.int v7_38), .val (.int v8_39), .val (.ref b40), .val (.int v10_73), .val (.int v11_74), .val (.int v12_75), .val (.int (own_exp v4_30 v12_75 v11_74)), .val (.ref b82), .val (.int v15_85), .val (.int (1 : Int32))] [(.int (1 : Int32))])) _
        exact Steps.refl _
    · refine XS.ifYes X84.here hx rfl (pc0 := 342) (pc' := 364) rfl (hb hby at_342) rfl ((if0 _ _).trans (flt c342_88).2.2.2) (by decide) (by decide) ?_
      show Steps _ _ _ (T84.setTop (mkF m 364 #[.val (.int p1), .val (.int p2), .val (.int p3), .val (.int p4), .val (.int v4_30), .val (.int v5_34), .val (.int v6_37), .val (.int v7_38), .val (.int v8_39), .val (.ref b40), .val (.int v10_73), .val (.int v11_74), .val (.int v12_75), .val (.int (own_exp v4_30 v12_75 v11_74)), .val (.ref b82), .val (.int v15_85), .val (.int (1 : Int32))] [])) _
      refine XS.iconst X84.here hx rfl (hb hby at_364) ?_
      show Steps _ _ _ (T84.setTop (mkF m 365 #[.val (.int p1), .val (.int p2), .val (.int p3), .val (.int p4), .val (.int v4_30), .val (.int v5_34), .val (.int v6_37), .val (.int v7_38), .val (.int v8_39), .val (.ref b40), .val (.int v10_73), .val (.int v11_74), .val (.int v12_75), .val (.int (own_exp v4_30 v12_75 v11_74)), .val (.ref b82), .val (.int v15_85), .val (.int (1 : Int32))] [(.int (1 : Int32))])) _
      refine XS.goto X84.here hx rfl (pc0 := 365) (pc' := 369) rfl (hb hby at_365) (by decide) (by decide) ?_
      show Steps _ _ _ (T84.setTop (mkF m 369 #[.val (.int p1), .val (.int p2), .val (.int p3), .val (.int p4), .val (.int v4_30), .val (.int v5_34), .val (.int v6_37), .val (.int v7_38), .val (.int v8_39), .val (.ref b40), .val (.int v10_73), .val (.int v11_74), .val (.int v12_75), .val (.int (own_exp v4_30 v12_75 v11_74)), .val (.ref b82), .val (.int v15_85), .val (.int (1 : Int32))] [(.int (1 : Int32))])) _
      exact Steps.refl _
  refine own_go di87 ?_
  show own_Fin _ _ _ _ (T84.setTop (mkF m 369 #[.val (.int p1), .val (.int p2), .val (.int p3), .val (.int p4), .val (.int v4_30), .val (.int v5_34), .val (.int v6_37), .val (.int v7_38), .val (.int v8_39), .val (.ref b40), .val (.int v10_73), .val (.int v11_74), .val (.int v12_75), .val (.int (own_exp v4_30 v12_75 v11_74)), .val (.ref b82), .val (.int v15_85), .val (.int (1 : Int32))] [(.int (1 : Int32))]))
  refine own_go (XS.istore X84.here hx rfl (hb hby at_369) rfl (l' := #[.val (.int p1), .val (.int p2), .val (.int p3), .val (.int p4), .val (.int v4_30), .val (.int v5_34), .val (.int v6_37), .val (.int v7_38), .val (.int v8_39), .val (.ref b40), .val (.int v10_73), .val (.int v11_74), .val (.int v12_75), .val (.int (own_exp v4_30 v12_75 v11_74)), .val (.ref b82), .val (.int v15_85), .val (.int (1 : Int32))]) rfl (Steps.refl _)) ?_
  show own_Fin _ _ _ _ (T84.setTop (mkF m 371 #[.val (.int p1), .val (.int p2), .val (.int p3), .val (.int p4), .val (.int v4_30), .val (.int v5_34), .val (.int v6_37), .val (.int v7_38), .val (.int v8_39), .val (.ref b40), .val (.int v10_73), .val (.int v11_74), .val (.int v12_75), .val (.int (own_exp v4_30 v12_75 v11_74)), .val (.ref b82), .val (.int v15_85), .val (.int (1 : Int32))] []))
  refine own_go (XS.iload X84.here hx rfl (hb hby at_371) rfl (Steps.refl _)) ?_
  show own_Fin _ _ _ _ (T84.setTop (mkF m 373 #[.val (.int p1), .val (.int p2), .val (.int p3), .val (.int p4), .val (.int v4_30), .val (.int v5_34), .val (.int v6_37), .val (.int v7_38), .val (.int v8_39), .val (.ref b40), .val (.int v10_73), .val (.int v11_74), .val (.int v12_75), .val (.int (own_exp v4_30 v12_75 v11_74)), .val (.ref b82), .val (.int v15_85), .val (.int (1 : Int32))] [(.int (1 : Int32))]))
  refine own_go (XS.ifNo X84.here hx rfl (hb hby at_373) rfl ((if0 _ _).trans (feq (by decide : ¬ ((1 : Int32) = (0 : Int32)))).1) (Steps.refl _)) ?_
  show own_Fin _ _ _ _ (T84.setTop (mkF m 376 #[.val (.int p1), .val (.int p2), .val (.int p3), .val (.int p4), .val (.int v4_30), .val (.int v5_34), .val (.int v6_37), .val (.int v7_38), .val (.int v8_39), .val (.ref b40), .val (.int v10_73), .val (.int v11_74), .val (.int v12_75), .val (.int (own_exp v4_30 v12_75 v11_74)), .val (.ref b82), .val (.int v15_85), .val (.int (1 : Int32))] []))
  have di91 : Steps p.tables e below (T84.setTop (mkF m 376 #[.val (.int p1), .val (.int p2), .val (.int p3), .val (.int p4), .val (.int v4_30), .val (.int v5_34), .val (.int v6_37), .val (.int v7_38), .val (.int v8_39), .val (.ref b40), .val (.int v10_73), .val (.int v11_74), .val (.int v12_75), .val (.int (own_exp v4_30 v12_75 v11_74)), .val (.ref b82), .val (.int v15_85), .val (.int (1 : Int32))] [])) (T84.setTop (mkF m 406 #[.val (.int p1), .val (.int p2), .val (.int p3), .val (.int p4), .val (.int v4_30), .val (.int v5_34), .val (.int v6_37), .val (.int v7_38), .val (.int v8_39), .val (.ref b40), .val (.int v10_73), .val (.int v11_74), .val (.int v12_75), .val (.int (own_exp v4_30 v12_75 v11_74)), .val (.ref b82), .val (.int v15_85), .val (.int (1 : Int32))] [(.int (1 : Int32))])) := by
    refine XS.iload X84.here hx rfl (hb hby at_376) rfl ?_
    show Steps _ _ _ (T84.setTop (mkF m 378 #[.val (.int p1), .val (.int p2), .val (.int p3), .val (.int p4), .val (.int v4_30), .val (.int v5_34), .val (.int v6_37), .val (.int v7_38), .val (.int v8_39), .val (.ref b40), .val (.int v10_73), .val (.int v11_74), .val (.int v12_75), .val (.int (own_exp v4_30 v12_75 v11_74)), .val (.ref b82), .val (.int v15_85), .val (.int (1 : Int32))] [(.int v7_38)])) _
    refine XS.iconst X84.here hx rfl (hb hby at_378) ?_
    show Steps _ _ _ (T84.setTop (mkF m 379 #[.val (.int p1), .val (.int p2), .val (.int p3), .val (.int p4), .val (.int v4_30), .val (.int v5_34), .val (.int v6_37), .val (.int v7_38), .val (.int v8_39), .val (.ref b40), .val (.int v10_73), .val (.int v11_74), .val (.int v12_75), .val (.int (own_exp v4_30 v12_75 v11_74)), .val (.ref b82), .val (.int v15_85), .val (.int (1 : Int32))] [(.int (1 : Int32)), (.int v7_38)])) _
    by_cases c379_92 : (1 : Int32) < v7_38
    · refine XS.icmpNo X84.here hx rfl (hb hby at_379) rfl (tlt c379_92).2.2.2 ?_
      show Steps _ _ _ (T84.setTop (mkF m 382 #[.val (.int p1), .val (.int p2), .val (.int p3), .val (.int p4), .val (.int v4_30), .val (.int v5_34), .val (.int v6_37), .val (.int v7_38), .val (.int v8_39), .val (.ref b40), .val (.int v10_73), .val (.int v11_74), .val (.int v12_75), .val (.int (own_exp v4_30 v12_75 v11_74)), .val (.ref b82), .val (.int v15_85), .val (.int (1 : Int32))] [])) _
      refine XS.aload X84.here hx rfl (hb hby at_382) rfl rfl ?_
      show Steps _ _ _ (T84.setTop (mkF m 384 #[.val (.int p1), .val (.int p2), .val (.int p3), .val (.int p4), .val (.int v4_30), .val (.int v5_34), .val (.int v6_37), .val (.int v7_38), .val (.int v8_39), .val (.ref b40), .val (.int v10_73), .val (.int v11_74), .val (.int v12_75), .val (.int (own_exp v4_30 v12_75 v11_74)), .val (.ref b82), .val (.int v15_85), .val (.int (1 : Int32))] [(.ref b40)])) _
      refine XS.iconst X84.here hx rfl (hb hby at_384) ?_
      show Steps _ _ _ (T84.setTop (mkF m 385 #[.val (.int p1), .val (.int p2), .val (.int p3), .val (.int p4), .val (.int v4_30), .val (.int v5_34), .val (.int v6_37), .val (.int v7_38), .val (.int v8_39), .val (.ref b40), .val (.int v10_73), .val (.int v11_74), .val (.int v12_75), .val (.int (own_exp v4_30 v12_75 v11_74)), .val (.ref b82), .val (.int v15_85), .val (.int (1 : Int32))] [(.int (1 : Int32)), (.ref b40)])) _
      obtain ⟨cl93, Ar93, qa93, Sa93, Na93, Ha93, Ga93⟩ := id Vk84
      have hin93 : ¬ ((1 : Int32) < 0 ∨ cl93.slots.size ≤ ((1 : Int32)).toNatClampNeg) := inb_of Sa93 ⟨by decide, by decide⟩
      have hat93 : cl93.slots[((1 : Int32)).toNatClampNeg]? = some (.int (own_get ((own_rs v8_39).set v7_38.toNatClampNeg (own_val (nar .char v5_34) (own_rs v8_39) (v6_37.toNatClampNeg - 1) v7_38)) (1 : Int32))) := Has.at Ha93 hin93 (own_getD _ _)
      refine X84.baloadBooleans hx (j := (1 : Int32)) (v := (.int (own_get ((own_rs v8_39).set v7_38.toNatClampNeg (own_val (nar .char v5_34) (own_rs v8_39) (v6_37.toNatClampNeg - 1) v7_38)) (1 : Int32)))) Ar93.1 (State.isArrayOf_alike hZ.alike Ar93.2.1) Ar93.2.2 hin93 hat93 (g := (mkF m 385 #[.val (.int p1), .val (.int p2), .val (.int p3), .val (.int p4), .val (.int v4_30), .val (.int v5_34), .val (.int v6_37), .val (.int v7_38), .val (.int v8_39), .val (.ref b40), .val (.int v10_73), .val (.int v11_74), .val (.int v12_75), .val (.int (own_exp v4_30 v12_75 v11_74)), .val (.ref b82), .val (.int v15_85), .val (.int (1 : Int32))] [(.int (1 : Int32)), (.ref b40)])) rfl rfl (hb hby at_385) _ ?_
      show Steps _ _ _ (T84.setTop (mkF m 386 #[.val (.int p1), .val (.int p2), .val (.int p3), .val (.int p4), .val (.int v4_30), .val (.int v5_34), .val (.int v6_37), .val (.int v7_38), .val (.int v8_39), .val (.ref b40), .val (.int v10_73), .val (.int v11_74), .val (.int v12_75), .val (.int (own_exp v4_30 v12_75 v11_74)), .val (.ref b82), .val (.int v15_85), .val (.int (1 : Int32))] [(.int (own_get ((own_rs v8_39).set v7_38.toNatClampNeg (own_val (nar .char v5_34) (own_rs v8_39) (v6_37.toNatClampNeg - 1) v7_38)) (1 : Int32)))])) _
      refine XS.iload X84.here hx rfl (hb hby at_386) rfl ?_
      show Steps _ _ _ (T84.setTop (mkF m 388 #[.val (.int p1), .val (.int p2), .val (.int p3), .val (.int p4), .val (.int v4_30), .val (.int v5_34), .val (.int v6_37), .val (.int v7_38), .val (.int v8_39), .val (.ref b40), .val (.int v10_73), .val (.int v11_74), .val (.int v12_75), .val (.int (own_exp v4_30 v12_75 v11_74)), .val (.ref b82), .val (.int v15_85), .val (.int (1 : Int32))] [(.int v8_39), (.int (own_get ((own_rs v8_39).set v7_38.toNatClampNeg (own_val (nar .char v5_34) (own_rs v8_39) (v6_37.toNatClampNeg - 1) v7_38)) (1 : Int32)))])) _
      refine XS.iconst X84.here hx rfl (hb hby at_388) ?_
      show Steps _ _ _ (T84.setTop (mkF m 389 #[.val (.int p1), .val (.int p2), .val (.int p3), .val (.int p4), .val (.int v4_30), .val (.int v5_34), .val (.int v6_37), .val (.int v7_38), .val (.int v8_39), .val (.ref b40), .val (.int v10_73), .val (.int v11_74), .val (.int v12_75), .val (.int (own_exp v4_30 v12_75 v11_74)), .val (.ref b82), .val (.int v15_85), .val (.int (1 : Int32))] [(.int (2 : Int32)), (.int v8_39), (.int (own_get ((own_rs v8_39).set v7_38.toNatClampNeg (own_val (nar .char v5_34) (own_rs v8_39) (v6_37.toNatClampNeg - 1) v7_38)) (1 : Int32)))])) _
      refine XS.iand X84.here hx rfl (hb hby at_389) rfl ?_
      show Steps _ _ _ (T84.setTop (mkF m 390 #[.val (.int p1), .val (.int p2), .val (.int p3), .val (.int p4), .val (.int v4_30), .val (.int v5_34), .val (.int v6_37), .val (.int v7_38), .val (.int v8_39), .val (.ref b40), .val (.int v10_73), .val (.int v11_74), .val (.int v12_75), .val (.int (own_exp v4_30 v12_75 v11_74)), .val (.ref b82), .val (.int v15_85), .val (.int (1 : Int32))] [(.int (v8_39 &&& (2 : Int32))), (.int (own_get ((own_rs v8_39).set v7_38.toNatClampNeg (own_val (nar .char v5_34) (own_rs v8_39) (v6_37.toNatClampNeg - 1) v7_38)) (1 : Int32)))])) _
      by_cases c390_94 : (v8_39 &&& (2 : Int32)) = (0 : Int32)
      · refine XS.ifYes X84.here hx rfl (pc0 := 390) (pc' := 397) rfl (hb hby at_390) rfl ((if0 _ _).trans (teq c390_94).1) (by decide) (by decide) ?_
        show Steps _ _ _ (T84.setTop (mkF m 397 #[.val (.int p1), .val (.int p2), .val (.int p3), .val (.int p4), .val (.int v4_30), .val (.int v5_34), .val (.int v6_37), .val (.int v7_38), .val (.int v8_39), .val (.ref b40), .val (.int v10_73), .val (.int v11_74), .val (.int v12_75), .val (.int (own_exp v4_30 v12_75 v11_74)), .val (.ref b82), .val (.int v15_85), .val (.int (1 : Int32))] [(.int (own_get ((own_rs v8_39).set v7_38.toNatClampNeg (own_val (nar .char v5_34) (own_rs v8_39) (v6_37.toNatClampNeg - 1) v7_38)) (1 : Int32)))])) _
        refine XS.iconst X84.here hx rfl (hb hby at_397) ?_
        show Steps _ _ _ (T84.setTop (mkF m 398 #[.val (.int p1), .val (.int p2), .val (.int p3), .val (.int p4), .val (.int v4_30), .val (.int v5_34), .val (.int v6_37), .val (.int v7_38), .val (.int v8_39), .val (.ref b40), .val (.int v10_73), .val (.int v11_74), .val (.int v12_75), .val (.int (own_exp v4_30 v12_75 v11_74)), .val (.ref b82), .val (.int v15_85), .val (.int (1 : Int32))] [(.int (0 : Int32)), (.int (own_get ((own_rs v8_39).set v7_38.toNatClampNeg (own_val (nar .char v5_34) (own_rs v8_39) (v6_37.toNatClampNeg - 1) v7_38)) (1 : Int32)))])) _
        refine XS.icmpNo X84.here hx rfl (hb hby at_398) rfl (teq (show (own_get ((own_rs v8_39).set v7_38.toNatClampNeg (own_val (nar .char v5_34) (own_rs v8_39) (v6_37.toNatClampNeg - 1) v7_38)) (1 : Int32)) = (0 : Int32) from by rw [own_miss _ _ _ _ (by decide) c379_92]; show own_bit _ _ = _; simp [own_bit, c390_94])).2 ?_
        show Steps _ _ _ (T84.setTop (mkF m 401 #[.val (.int p1), .val (.int p2), .val (.int p3), .val (.int p4), .val (.int v4_30), .val (.int v5_34), .val (.int v6_37), .val (.int v7_38), .val (.int v8_39), .val (.ref b40), .val (.int v10_73), .val (.int v11_74), .val (.int v12_75), .val (.int (own_exp v4_30 v12_75 v11_74)), .val (.ref b82), .val (.int v15_85), .val (.int (1 : Int32))] [])) _
        refine XS.iconst X84.here hx rfl (hb hby at_401) ?_
        show Steps _ _ _ (T84.setTop (mkF m 402 #[.val (.int p1), .val (.int p2), .val (.int p3), .val (.int p4), .val (.int v4_30), .val (.int v5_34), .val (.int v6_37), .val (.int v7_38), .val (.int v8_39), .val (.ref b40), .val (.int v10_73), .val (.int v11_74), .val (.int v12_75), .val (.int (own_exp v4_30 v12_75 v11_74)), .val (.ref b82), .val (.int v15_85), .val (.int (1 : Int32))] [(.int (1 : Int32))])) _
        refine XS.goto X84.here hx rfl (pc0 := 402) (pc' := 406) rfl (hb hby at_402) (by decide) (by decide) ?_
        show Steps _ _ _ (T84.setTop (mkF m 406 #[.val (.int p1), .val (.int p2), .val (.int p3), .val (.int p4), .val (.int v4_30), .val (.int v5_34), .val (.int v6_37), .val (.int v7_38), .val (.int v8_39), .val (.ref b40), .val (.int v10_73), .val (.int v11_74), .val (.int v12_75), .val (.int (own_exp v4_30 v12_75 v11_74)), .val (.ref b82), .val (.int v15_85), .val (.int (1 : Int32))] [(.int (1 : Int32))])) _
        exact Steps.refl _
      · refine XS.ifNo X84.here hx rfl (hb hby at_390) rfl ((if0 _ _).trans (feq c390_94).1) ?_
        show Steps _ _ _ (T84.setTop (mkF m 393 #[.val (.int p1), .val (.int p2), .val (.int p3), .val (.int p4), .val (.int v4_30), .val (.int v5_34), .val (.int v6_37), .val (.int v7_38), .val (.int v8_39), .val (.ref b40), .val (.int v10_73), .val (.int v11_74), .val (.int v12_75), .val (.int (own_exp v4_30 v12_75 v11_74)), .val (.ref b82), .val (.int v15_85), .val (.int (1 : Int32))] [(.int (own_get ((own_rs v8_39).set v7_38.toNatClampNeg (own_val (nar .char v5_34) (own_rs v8_39) (v6_37.toNatClampNeg - 1) v7_38)) (1 : Int32)))])) _
        refine XS.iconst X84.here hx rfl (hb hby at_393) ?_
        show Steps _ _ _ (T84.setTop (mkF m 394 #[.val (.int p1), .val (.int p2), .val (.int p3), .val (.int p4), .val (.int v4_30), .val (.int v5_34), .val (.int v6_37), .val (.int v7_38), .val (.int v8_39), .val (.ref b40), .val (.int v10_73), .val (.int v11_74), .val (.int v12_75), .val (.int (own_exp v4_30 v12_75 v11_74)), .val (.ref b82), .val (.int v15_85), .val (.int (1 : Int32))] [(.int (1 : Int32)), (.int (own_get ((own_rs v8_39).set v7_38.toNatClampNeg (own_val (nar .char v5_34) (own_rs v8_39) (v6_37.toNatClampNeg - 1) v7_38)) (1 : Int32)))])) _
        refine XS.goto X84.here hx rfl (pc0 := 394) (pc' := 398) rfl (hb hby at_394) (by decide) (by decide) ?_
        show Steps _ _ _ (T84.setTop (mkF m 398 #[.val (.int p1), .val (.int p2), .val (.int p3), .val (.int p4), .val (.int v4_30), .val (.int v5_34), .val (.int v6_37), .val (.int v7_38), .val (.int v8_39), .val (.ref b40), .val (.int v10_73), .val (.int v11_74), .val (.int v12_75), .val (.int (own_exp v4_30 v12_75 v11_74)), .val (.ref b82), .val (.int v15_85), .val (.int (1 : Int32))] [(.int (1 : Int32)), (.int (own_get ((own_rs v8_39).set v7_38.toNatClampNeg (own_val (nar .char v5_34) (own_rs v8_39) (v6_37.toNatClampNeg - 1) v7_38)) (1 : Int32)))])) _
        refine XS.icmpNo X84.here hx rfl (hb hby at_398) rfl (teq (show (own_get ((own_rs v8_39).set v7_38.toNatClampNeg (own_val (nar .char v5_34) (own_rs v8_39) (v6_37.toNatClampNeg - 1) v7_38)) (1 : Int32)) = (1 : Int32) from by rw [own_miss _ _ _ _ (by decide) c379_92]; show own_bit _ _ = _; simp [own_bit, c390_94])).2 ?_
        show Steps _ _ _ (T84.setTop (mkF m 401 #[.val (.int p1), .val (.int p2), .val (.int p3), .val (.int p4), .val (.int v4_30), .val (.int v5_34), .val (.int v6_37), .val (.int v7_38), .val (.int v8_39), .val (.ref b40), .val (.int v10_73), .val (.int v11_74), .val (.int v12_75), .val (.int (own_exp v4_30 v12_75 v11_74)), .val (.ref b82), .val (.int v15_85), .val (.int (1 : Int32))] [])) _
        refine XS.iconst X84.here hx rfl (hb hby at_401) ?_
        show Steps _ _ _ (T84.setTop (mkF m 402 #[.val (.int p1), .val (.int p2), .val (.int p3), .val (.int p4), .val (.int v4_30), .val (.int v5_34), .val (.int v6_37), .val (.int v7_38), .val (.int v8_39), .val (.ref b40), .val (.int v10_73), .val (.int v11_74), .val (.int v12_75), .val (.int (own_exp v4_30 v12_75 v11_74)), .val (.ref b82), .val (.int v15_85), .val (.int (1 : Int32))] [(.int (1 : Int32))])) _
        refine XS.goto X84.here hx rfl (pc0 := 402) (pc' := 406) rfl (hb hby at_402) (by decide) (by decide) ?_
        show Steps _ _ _ (T84.setTop (mkF m 406 #[.val (.int p1), .val (.int p2), .val (.int p3), .val (.int p4), .val (.int v4_30), .val (.int v5_34), .val (.int v6_37), .val (.int v7_38), .val (.int v8_39), .val (.ref b40), .val (.int v10_73), .val (.int v11_74), .val (.int v12_75), .val (.int (own_exp v4_30 v12_75 v11_74)), .val (.ref b82), .val (.int v15_85), .val (.int (1 : Int32))] [(.int (1 : Int32))])) _
        exact Steps.refl _
    · refine XS.icmpYes X84.here hx rfl (pc0 := 379) (pc' := 401) rfl (hb hby at_379) rfl (flt c379_92).2.2.2 (by decide) (by decide) ?_
      show Steps _ _ _ (T84.setTop (mkF m 401 #[.val (.int p1), .val (.int p2), .val (.int p3), .val (.int p4), .val (.int v4_30), .val (.int v5_34), .val (.int v6_37), .val (.int v7_38), .val (.int v8_39), .val (.ref b40), .val (.int v10_73), .val (.int v11_74), .val (.int v12_75), .val (.int (own_exp v4_30 v12_75 v11_74)), .val (.ref b82), .val (.int v15_85), .val (.int (1 : Int32))] [])) _
      refine XS.iconst X84.here hx rfl (hb hby at_401) ?_
      show Steps _ _ _ (T84.setTop (mkF m 402 #[.val (.int p1), .val (.int p2), .val (.int p3), .val (.int p4), .val (.int v4_30), .val (.int v5_34), .val (.int v6_37), .val (.int v7_38), .val (.int v8_39), .val (.ref b40), .val (.int v10_73), .val (.int v11_74), .val (.int v12_75), .val (.int (own_exp v4_30 v12_75 v11_74)), .val (.ref b82), .val (.int v15_85), .val (.int (1 : Int32))] [(.int (1 : Int32))])) _
      refine XS.goto X84.here hx rfl (pc0 := 402) (pc' := 406) rfl (hb hby at_402) (by decide) (by decide) ?_
      show Steps _ _ _ (T84.setTop (mkF m 406 #[.val (.int p1), .val (.int p2), .val (.int p3), .val (.int p4), .val (.int v4_30), .val (.int v5_34), .val (.int v6_37), .val (.int v7_38), .val (.int v8_39), .val (.ref b40), .val (.int v10_73), .val (.int v11_74), .val (.int v12_75), .val (.int (own_exp v4_30 v12_75 v11_74)), .val (.ref b82), .val (.int v15_85), .val (.int (1 : Int32))] [(.int (1 : Int32))])) _
      exact Steps.refl _
  refine own_go di91 ?_
  show own_Fin _ _ _ _ (T84.setTop (mkF m 406 #[.val (.int p1), .val (.int p2), .val (.int p3), .val (.int p4), .val (.int v4_30), .val (.int v5_34), .val (.int v6_37), .val (.int v7_38), .val (.int v8_39), .val (.ref b40), .val (.int v10_73), .val (.int v11_74), .val (.int v12_75), .val (.int (own_exp v4_30 v12_75 v11_74)), .val (.ref b82), .val (.int v15_85), .val (.int (1 : Int32))] [(.int (1 : Int32))]))
  refine own_go (XS.istore X84.here hx rfl (hb hby at_406) rfl (l' := #[.val (.int p1), .val (.int p2), .val (.int p3), .val (.int p4), .val (.int v4_30), .val (.int v5_34), .val (.int v6_37), .val (.int v7_38), .val (.int v8_39), .val (.ref b40), .val (.int v10_73), .val (.int v11_74), .val (.int v12_75), .val (.int (own_exp v4_30 v12_75 v11_74)), .val (.ref b82), .val (.int v15_85), .val (.int (1 : Int32))]) rfl (Steps.refl _)) ?_
  show own_Fin _ _ _ _ (T84.setTop (mkF m 408 #[.val (.int p1), .val (.int p2), .val (.int p3), .val (.int p4), .val (.int v4_30), .val (.int v5_34), .val (.int v6_37), .val (.int v7_38), .val (.int v8_39), .val (.ref b40), .val (.int v10_73), .val (.int v11_74), .val (.int v12_75), .val (.int (own_exp v4_30 v12_75 v11_74)), .val (.ref b82), .val (.int v15_85), .val (.int (1 : Int32))] []))
  refine own_go (XS.iload X84.here hx rfl (hb hby at_408) rfl (Steps.refl _)) ?_
  show own_Fin _ _ _ _ (T84.setTop (mkF m 410 #[.val (.int p1), .val (.int p2), .val (.int p3), .val (.int p4), .val (.int v4_30), .val (.int v5_34), .val (.int v6_37), .val (.int v7_38), .val (.int v8_39), .val (.ref b40), .val (.int v10_73), .val (.int v11_74), .val (.int v12_75), .val (.int (own_exp v4_30 v12_75 v11_74)), .val (.ref b82), .val (.int v15_85), .val (.int (1 : Int32))] [(.int (1 : Int32))]))
  refine own_go (XS.ifNo X84.here hx rfl (hb hby at_410) rfl ((if0 _ _).trans (feq (by decide : ¬ ((1 : Int32) = (0 : Int32)))).1) (Steps.refl _)) ?_
  show own_Fin _ _ _ _ (T84.setTop (mkF m 413 #[.val (.int p1), .val (.int p2), .val (.int p3), .val (.int p4), .val (.int v4_30), .val (.int v5_34), .val (.int v6_37), .val (.int v7_38), .val (.int v8_39), .val (.ref b40), .val (.int v10_73), .val (.int v11_74), .val (.int v12_75), .val (.int (own_exp v4_30 v12_75 v11_74)), .val (.ref b82), .val (.int v15_85), .val (.int (1 : Int32))] []))
  have di95 : Steps p.tables e below (T84.setTop (mkF m 413 #[.val (.int p1), .val (.int p2), .val (.int p3), .val (.int p4), .val (.int v4_30), .val (.int v5_34), .val (.int v6_37), .val (.int v7_38), .val (.int v8_39), .val (.ref b40), .val (.int v10_73), .val (.int v11_74), .val (.int v12_75), .val (.int (own_exp v4_30 v12_75 v11_74)), .val (.ref b82), .val (.int v15_85), .val (.int (1 : Int32))] [])) (T84.setTop (mkF m 443 #[.val (.int p1), .val (.int p2), .val (.int p3), .val (.int p4), .val (.int v4_30), .val (.int v5_34), .val (.int v6_37), .val (.int v7_38), .val (.int v8_39), .val (.ref b40), .val (.int v10_73), .val (.int v11_74), .val (.int v12_75), .val (.int (own_exp v4_30 v12_75 v11_74)), .val (.ref b82), .val (.int v15_85), .val (.int (1 : Int32))] [(.int (1 : Int32))])) := by
    refine XS.iload X84.here hx rfl (hb hby at_413) rfl ?_
    show Steps _ _ _ (T84.setTop (mkF m 415 #[.val (.int p1), .val (.int p2), .val (.int p3), .val (.int p4), .val (.int v4_30), .val (.int v5_34), .val (.int v6_37), .val (.int v7_38), .val (.int v8_39), .val (.ref b40), .val (.int v10_73), .val (.int v11_74), .val (.int v12_75), .val (.int (own_exp v4_30 v12_75 v11_74)), .val (.ref b82), .val (.int v15_85), .val (.int (1 : Int32))] [(.int v7_38)])) _
    refine XS.iconst X84.here hx rfl (hb hby at_415) ?_
    show Steps _ _ _ (T84.setTop (mkF m 416 #[.val (.int p1), .val (.int p2), .val (.int p3), .val (.int p4), .val (.int v4_30), .val (.int v5_34), .val (.int v6_37), .val (.int v7_38), .val (.int v8_39), .val (.ref b40), .val (.int v10_73), .val (.int v11_74), .val (.int v12_75), .val (.int (own_exp v4_30 v12_75 v11_74)), .val (.ref b82), .val (.int v15_85), .val (.int (1 : Int32))] [(.int (2 : Int32)), (.int v7_38)])) _
    by_cases c416_96 : (2 : Int32) < v7_38
    · refine XS.icmpNo X84.here hx rfl (hb hby at_416) rfl (tlt c416_96).2.2.2 ?_
      show Steps _ _ _ (T84.setTop (mkF m 419 #[.val (.int p1), .val (.int p2), .val (.int p3), .val (.int p4), .val (.int v4_30), .val (.int v5_34), .val (.int v6_37), .val (.int v7_38), .val (.int v8_39), .val (.ref b40), .val (.int v10_73), .val (.int v11_74), .val (.int v12_75), .val (.int (own_exp v4_30 v12_75 v11_74)), .val (.ref b82), .val (.int v15_85), .val (.int (1 : Int32))] [])) _
      refine XS.aload X84.here hx rfl (hb hby at_419) rfl rfl ?_
      show Steps _ _ _ (T84.setTop (mkF m 421 #[.val (.int p1), .val (.int p2), .val (.int p3), .val (.int p4), .val (.int v4_30), .val (.int v5_34), .val (.int v6_37), .val (.int v7_38), .val (.int v8_39), .val (.ref b40), .val (.int v10_73), .val (.int v11_74), .val (.int v12_75), .val (.int (own_exp v4_30 v12_75 v11_74)), .val (.ref b82), .val (.int v15_85), .val (.int (1 : Int32))] [(.ref b40)])) _
      refine XS.iconst X84.here hx rfl (hb hby at_421) ?_
      show Steps _ _ _ (T84.setTop (mkF m 422 #[.val (.int p1), .val (.int p2), .val (.int p3), .val (.int p4), .val (.int v4_30), .val (.int v5_34), .val (.int v6_37), .val (.int v7_38), .val (.int v8_39), .val (.ref b40), .val (.int v10_73), .val (.int v11_74), .val (.int v12_75), .val (.int (own_exp v4_30 v12_75 v11_74)), .val (.ref b82), .val (.int v15_85), .val (.int (1 : Int32))] [(.int (2 : Int32)), (.ref b40)])) _
      obtain ⟨cl97, Ar97, qa97, Sa97, Na97, Ha97, Ga97⟩ := id Vk84
      have hin97 : ¬ ((2 : Int32) < 0 ∨ cl97.slots.size ≤ ((2 : Int32)).toNatClampNeg) := inb_of Sa97 ⟨by decide, by decide⟩
      have hat97 : cl97.slots[((2 : Int32)).toNatClampNeg]? = some (.int (own_get ((own_rs v8_39).set v7_38.toNatClampNeg (own_val (nar .char v5_34) (own_rs v8_39) (v6_37.toNatClampNeg - 1) v7_38)) (2 : Int32))) := Has.at Ha97 hin97 (own_getD _ _)
      refine X84.baloadBooleans hx (j := (2 : Int32)) (v := (.int (own_get ((own_rs v8_39).set v7_38.toNatClampNeg (own_val (nar .char v5_34) (own_rs v8_39) (v6_37.toNatClampNeg - 1) v7_38)) (2 : Int32)))) Ar97.1 (State.isArrayOf_alike hZ.alike Ar97.2.1) Ar97.2.2 hin97 hat97 (g := (mkF m 422 #[.val (.int p1), .val (.int p2), .val (.int p3), .val (.int p4), .val (.int v4_30), .val (.int v5_34), .val (.int v6_37), .val (.int v7_38), .val (.int v8_39), .val (.ref b40), .val (.int v10_73), .val (.int v11_74), .val (.int v12_75), .val (.int (own_exp v4_30 v12_75 v11_74)), .val (.ref b82), .val (.int v15_85), .val (.int (1 : Int32))] [(.int (2 : Int32)), (.ref b40)])) rfl rfl (hb hby at_422) _ ?_
      show Steps _ _ _ (T84.setTop (mkF m 423 #[.val (.int p1), .val (.int p2), .val (.int p3), .val (.int p4), .val (.int v4_30), .val (.int v5_34), .val (.int v6_37), .val (.int v7_38), .val (.int v8_39), .val (.ref b40), .val (.int v10_73), .val (.int v11_74), .val (.int v12_75), .val (.int (own_exp v4_30 v12_75 v11_74)), .val (.ref b82), .val (.int v15_85), .val (.int (1 : Int32))] [(.int (own_get ((own_rs v8_39).set v7_38.toNatClampNeg (own_val (nar .char v5_34) (own_rs v8_39) (v6_37.toNatClampNeg - 1) v7_38)) (2 : Int32)))])) _
      refine XS.iload X84.here hx rfl (hb hby at_423) rfl ?_
      show Steps _ _ _ (T84.setTop (mkF m 425 #[.val (.int p1), .val (.int p2), .val (.int p3), .val (.int p4), .val (.int v4_30), .val (.int v5_34), .val (.int v6_37), .val (.int v7_38), .val (.int v8_39), .val (.ref b40), .val (.int v10_73), .val (.int v11_74), .val (.int v12_75), .val (.int (own_exp v4_30 v12_75 v11_74)), .val (.ref b82), .val (.int v15_85), .val (.int (1 : Int32))] [(.int v8_39), (.int (own_get ((own_rs v8_39).set v7_38.toNatClampNeg (own_val (nar .char v5_34) (own_rs v8_39) (v6_37.toNatClampNeg - 1) v7_38)) (2 : Int32)))])) _
      refine XS.iconst X84.here hx rfl (hb hby at_425) ?_
      show Steps _ _ _ (T84.setTop (mkF m 426 #[.val (.int p1), .val (.int p2), .val (.int p3), .val (.int p4), .val (.int v4_30), .val (.int v5_34), .val (.int v6_37), .val (.int v7_38), .val (.int v8_39), .val (.ref b40), .val (.int v10_73), .val (.int v11_74), .val (.int v12_75), .val (.int (own_exp v4_30 v12_75 v11_74)), .val (.ref b82), .val (.int v15_85), .val (.int (1 : Int32))] [(.int (4 : Int32)), (.int v8_39), (.int (own_get ((own_rs v8_39).set v7_38.toNatClampNeg (own_val (nar .char v5_34) (own_rs v8_39) (v6_37.toNatClampNeg - 1) v7_38)) (2 : Int32)))])) _
      refine XS.iand X84.here hx rfl (hb hby at_426) rfl ?_
      show Steps _ _ _ (T84.setTop (mkF m 427 #[.val (.int p1), .val (.int p2), .val (.int p3), .val (.int p4), .val (.int v4_30), .val (.int v5_34), .val (.int v6_37), .val (.int v7_38), .val (.int v8_39), .val (.ref b40), .val (.int v10_73), .val (.int v11_74), .val (.int v12_75), .val (.int (own_exp v4_30 v12_75 v11_74)), .val (.ref b82), .val (.int v15_85), .val (.int (1 : Int32))] [(.int (v8_39 &&& (4 : Int32))), (.int (own_get ((own_rs v8_39).set v7_38.toNatClampNeg (own_val (nar .char v5_34) (own_rs v8_39) (v6_37.toNatClampNeg - 1) v7_38)) (2 : Int32)))])) _
      by_cases c427_98 : (v8_39 &&& (4 : Int32)) = (0 : Int32)
      · refine XS.ifYes X84.here hx rfl (pc0 := 427) (pc' := 434) rfl (hb hby at_427) rfl ((if0 _ _).trans (teq c427_98).1) (by decide) (by decide) ?_
        show Steps _ _ _ (T84.setTop (mkF m 434 #[.val (.int p1), .val (.int p2), .val (.int p3), .val (.int p4), .val (.int v4_30), .val (.int v5_34), .val (.int v6_37), .val (.int v7_38), .val (.int v8_39), .val (.ref b40), .val (.int v10_73), .val (.int v11_74), .val (.int v12_75), .val (.int (own_exp v4_30 v12_75 v11_74)), .val (.ref b82), .val (.int v15_85), .val (.int (1 : Int32))] [(.int (own_get ((own_rs v8_39).set v7_38.toNatClampNeg (own_val (nar .char v5_34) (own_rs v8_39) (v6_37.toNatClampNeg - 1) v7_38)) (2 : Int32)))])) _
        refine XS.iconst X84.here hx rfl (hb hby at_434) ?_
        show Steps _ _ _ (T84.setTop (mkF m 435 #[.val (.int p1), .val (.int p2), .val (.int p3), .val (.int p4), .val (.int v4_30), .val (.int v5_34), .val (.int v6_37), .val (.int v7_38), .val (.int v8_39), .val (.ref b40), .val (.int v10_73), .val (.int v11_74), .val (.int v12_75), .val (.int (own_exp v4_30 v12_75 v11_74)), .val (.ref b82), .val (.int v15_85), .val (.int (1 : Int32))] [(.int (0 : Int32)), (.int (own_get ((own_rs v8_39).set v7_38.toNatClampNeg (own_val (nar .char v5_34) (own_rs v8_39) (v6_37.toNatClampNeg - 1) v7_38)) (2 : Int32)))])) _
        refine XS.icmpNo X84.here hx rfl (hb hby at_435) rfl (teq (show (own_get ((own_rs v8_39).set v7_38.toNatClampNeg (own_val (nar .char v5_34) (own_rs v8_39) (v6_37.toNatClampNeg - 1) v7_38)) (2 : Int32)) = (0 : Int32) from by rw [own_miss _ _ _ _ (by decide) c416_96]; show own_bit _ _ = _; simp [own_bit, c427_98])).2 ?_
        show Steps _ _ _ (T84.setTop (mkF m 438 #[.val (.int p1), .val (.int p2), .val (.int p3), .val (.int p4), .val (.int v4_30), .val (.int v5_34), .val (.int v6_37), .val (.int v7_38), .val (.int v8_39), .val (.ref b40), .val (.int v10_73), .val (.int v11_74), .val (.int v12_75), .val (.int (own_exp v4_30 v12_75 v11_74)), .val (.ref b82), .val (.int v15_85), .val (.int (1 : Int32))] [])) _
        refine XS.iconst X84.here hx rfl (hb hby at_438) ?_
        show Steps _ _ _ (T84.setTop (mkF m 439 #[.val (.int p1), .val (.int p2), .val (.int p3), .val (.int p4), .val (.int v4_30), .val (.int v5_34), .val (.int v6_37), .val (.int v7_38), .val (.int v8_39), .val (.ref b40), .val (.int v10_73), .val (.int v11_74), .val (.int v12_75), .val (.int (own_exp v4_30 v12_75 v11_74)), .val (.ref b82), .val (.int v15_85), .val (.int (1 : Int32))] [(.int (1 : Int32))])) _
        refine XS.goto X84.here hx rfl (pc0 := 439) (pc' := 443) rfl (hb hby at_439) (by decide) (by decide) ?_
        show Steps _ _ _ (T84.setTop (mkF m 443 #[.val (.int p1), .val (.int p2), .val (.int p3), .val (.int p4), .val (.int v4_30), .val (.int v5_34), .val (.int v6_37), .val (.int v7_38), .val (.int v8_39), .val (.ref b40), .val (.int v10_73), .val (.int v11_74), .val (.int v12_75), .val (.int (own_exp v4_30 v12_75 v11_74)), .val (.ref b82), .val (.int v15_85), .val (.int (1 : Int32))] [(.int (1 : Int32))])) _
        exact Steps.refl _
      · refine XS.ifNo X84.here hx rfl (hb hby at_427) rfl ((if0 _ _).trans (feq c427_98).1) ?_
        show Steps _ _ _ (T84.setTop (mkF m 430 #[.val (.int p1), .val (.int p2), .val (.int p3), .val (.int p4), .val (.int v4_30), .val (.int v5_34), .val (.int v6_37), .val (.int v7_38), .val (.int v8_39), .val (.ref b40), .val (.int v10_73), .val (.int v11_74), .val (.int v12_75), .val (.int (own_exp v4_30 v12_75 v11_74)), .val (.ref b82), .val (.int v15_85), .val (.int (1 : Int32))] [(.int (own_get ((own_rs v8_39).set v7_38.toNatClampNeg (own_val (nar .char v5_34) (own_rs v8_39) (v6_37.toNatClampNeg - 1) v7_38)) (2 : Int32)))])) _
        refine XS.iconst X84.here hx rfl (hb hby at_430) ?_
        show Steps _ _ _ (T84.setTop (mkF m 431 #[.val (.int p1), .val (.int p2), .val (.int p3), .val (.int p4), .val (.int v4_30), .val (.int v5_34), .val (.int v6_37), .val (.int v7_38), .val (.int v8_39), .val (.ref b40), .val (.int v10_73), .val (.int v11_74), .val (.int v12_75), .val (.int (own_exp v4_30 v12_75 v11_74)), .val (.ref b82), .val (.int v15_85), .val (.int (1 : Int32))] [(.int (1 : Int32)), (.int (own_get ((own_rs v8_39).set v7_38.toNatClampNeg (own_val (nar .char v5_34) (own_rs v8_39) (v6_37.toNatClampNeg - 1) v7_38)) (2 : Int32)))])) _
        refine XS.goto X84.here hx rfl (pc0 := 431) (pc' := 435) rfl (hb hby at_431) (by decide) (by decide) ?_
        show Steps _ _ _ (T84.setTop (mkF m 435 #[.val (.int p1), .val (.int p2), .val (.int p3), .val (.int p4), .val (.int v4_30), .val (.int v5_34), .val (.int v6_37), .val (.int v7_38), .val (.int v8_39), .val (.ref b40), .val (.int v10_73), .val (.int v11_74), .val (.int v12_75), .val (.int (own_exp v4_30 v12_75 v11_74)), .val (.ref b82), .val (.int v15_85), .val (.int (1 : Int32))] [(.int (1 : Int32)), (.int (own_get ((own_rs v8_39).set v7_38.toNatClampNeg (own_val (nar .char v5_34) (own_rs v8_39) (v6_37.toNatClampNeg - 1) v7_38)) (2 : Int32)))])) _
        refine XS.icmpNo X84.here hx rfl (hb hby at_435) rfl (teq (show (own_get ((own_rs v8_39).set v7_38.toNatClampNeg (own_val (nar .char v5_34) (own_rs v8_39) (v6_37.toNatClampNeg - 1) v7_38)) (2 : Int32)) = (1 : Int32) from by rw [own_miss _ _ _ _ (by decide) c416_96]; show own_bit _ _ = _; simp [own_bit, c427_98])).2 ?_
        show Steps _ _ _ (T84.setTop (mkF m 438 #[.val (.int p1), .val (.int p2), .val (.int p3), .val (.int p4), .val (.int v4_30), .val (.int v5_34), .val (.int v6_37), .val (.int v7_38), .val (.int v8_39), .val (.ref b40), .val (.int v10_73), .val (.int v11_74), .val (.int v12_75), .val (.int (own_exp v4_30 v12_75 v11_74)), .val (.ref b82), .val (.int v15_85), .val (.int (1 : Int32))] [])) _
        refine XS.iconst X84.here hx rfl (hb hby at_438) ?_
        show Steps _ _ _ (T84.setTop (mkF m 439 #[.val (.int p1), .val (.int p2), .val (.int p3), .val (.int p4), .val (.int v4_30), .val (.int v5_34), .val (.int v6_37), .val (.int v7_38), .val (.int v8_39), .val (.ref b40), .val (.int v10_73), .val (.int v11_74), .val (.int v12_75), .val (.int (own_exp v4_30 v12_75 v11_74)), .val (.ref b82), .val (.int v15_85), .val (.int (1 : Int32))] [(.int (1 : Int32))])) _
        refine XS.goto X84.here hx rfl (pc0 := 439) (pc' := 443) rfl (hb hby at_439) (by decide) (by decide) ?_
        show Steps _ _ _ (T84.setTop (mkF m 443 #[.val (.int p1), .val (.int p2), .val (.int p3), .val (.int p4), .val (.int v4_30), .val (.int v5_34), .val (.int v6_37), .val (.int v7_38), .val (.int v8_39), .val (.ref b40), .val (.int v10_73), .val (.int v11_74), .val (.int v12_75), .val (.int (own_exp v4_30 v12_75 v11_74)), .val (.ref b82), .val (.int v15_85), .val (.int (1 : Int32))] [(.int (1 : Int32))])) _
        exact Steps.refl _
    · refine XS.icmpYes X84.here hx rfl (pc0 := 416) (pc' := 438) rfl (hb hby at_416) rfl (flt c416_96).2.2.2 (by decide) (by decide) ?_
      show Steps _ _ _ (T84.setTop (mkF m 438 #[.val (.int p1), .val (.int p2), .val (.int p3), .val (.int p4), .val (.int v4_30), .val (.int v5_34), .val (.int v6_37), .val (.int v7_38), .val (.int v8_39), .val (.ref b40), .val (.int v10_73), .val (.int v11_74), .val (.int v12_75), .val (.int (own_exp v4_30 v12_75 v11_74)), .val (.ref b82), .val (.int v15_85), .val (.int (1 : Int32))] [])) _
      refine XS.iconst X84.here hx rfl (hb hby at_438) ?_
      show Steps _ _ _ (T84.setTop (mkF m 439 #[.val (.int p1), .val (.int p2), .val (.int p3), .val (.int p4), .val (.int v4_30), .val (.int v5_34), .val (.int v6_37), .val (.int v7_38), .val (.int v8_39), .val (.ref b40), .val (.int v10_73), .val (.int v11_74), .val (.int v12_75), .val (.int (own_exp v4_30 v12_75 v11_74)), .val (.ref b82), .val (.int v15_85), .val (.int (1 : Int32))] [(.int (1 : Int32))])) _
      refine XS.goto X84.here hx rfl (pc0 := 439) (pc' := 443) rfl (hb hby at_439) (by decide) (by decide) ?_
      show Steps _ _ _ (T84.setTop (mkF m 443 #[.val (.int p1), .val (.int p2), .val (.int p3), .val (.int p4), .val (.int v4_30), .val (.int v5_34), .val (.int v6_37), .val (.int v7_38), .val (.int v8_39), .val (.ref b40), .val (.int v10_73), .val (.int v11_74), .val (.int v12_75), .val (.int (own_exp v4_30 v12_75 v11_74)), .val (.ref b82), .val (.int v15_85), .val (.int (1 : Int32))] [(.int (1 : Int32))])) _
      exact Steps.refl _
  refine own_go di95 ?_
  show own_Fin _ _ _ _ (T84.setTop (mkF m 443 #[.val (.int p1), .val (.int p2), .val (.int p3), .val (.int p4), .val (.int v4_30), .val (.int v5_34), .val (.int v6_37), .val (.int v7_38), .val (.int v8_39), .val (.ref b40), .val (.int v10_73), .val (.int v11_74), .val (.int v12_75), .val (.int (own_exp v4_30 v12_75 v11_74)), .val (.ref b82), .val (.int v15_85), .val (.int (1 : Int32))] [(.int (1 : Int32))]))
  refine own_go (XS.istore X84.here hx rfl (hb hby at_443) rfl (l' := #[.val (.int p1), .val (.int p2), .val (.int p3), .val (.int p4), .val (.int v4_30), .val (.int v5_34), .val (.int v6_37), .val (.int v7_38), .val (.int v8_39), .val (.ref b40), .val (.int v10_73), .val (.int v11_74), .val (.int v12_75), .val (.int (own_exp v4_30 v12_75 v11_74)), .val (.ref b82), .val (.int v15_85), .val (.int (1 : Int32))]) rfl (Steps.refl _)) ?_
  show own_Fin _ _ _ _ (T84.setTop (mkF m 445 #[.val (.int p1), .val (.int p2), .val (.int p3), .val (.int p4), .val (.int v4_30), .val (.int v5_34), .val (.int v6_37), .val (.int v7_38), .val (.int v8_39), .val (.ref b40), .val (.int v10_73), .val (.int v11_74), .val (.int v12_75), .val (.int (own_exp v4_30 v12_75 v11_74)), .val (.ref b82), .val (.int v15_85), .val (.int (1 : Int32))] []))
  refine own_go (XS.iload X84.here hx rfl (hb hby at_445) rfl (Steps.refl _)) ?_
  show own_Fin _ _ _ _ (T84.setTop (mkF m 447 #[.val (.int p1), .val (.int p2), .val (.int p3), .val (.int p4), .val (.int v4_30), .val (.int v5_34), .val (.int v6_37), .val (.int v7_38), .val (.int v8_39), .val (.ref b40), .val (.int v10_73), .val (.int v11_74), .val (.int v12_75), .val (.int (own_exp v4_30 v12_75 v11_74)), .val (.ref b82), .val (.int v15_85), .val (.int (1 : Int32))] [(.int (1 : Int32))]))
  obtain ⟨fs99, hr99, hrun99, hended99, hW99, hsame99⟩ := X84.leave (v := some (.int (1 : Int32))) (fun h => by rw [Bd.returns] at h; cases h)
  refine own_done (retN X84 hx (t := .boolean) Bd.returns (by simp) (hb hby at_447) hr99) hrun99 hended99 ⟨_, _, rfl, ?_, ⟨_, rfl⟩, hW99, hsame99.mono (by decide) (by decide)⟩
  show Q0 Z p1 p2 p3 p4 h0 n0 _ T84.heap _
  exact ⟨rfl, N84⟩
set_option maxRecDepth 65536 in
set_option maxHeartbeats 40000000 in
theorem comes_1 {Post : Tables → Env → Array Value → State → Outcome → State → Prop} (hpost : ∀ tb e args s v u, (limb_1_1.after args s (.returned v) u = true ∧ limb_1_2.after args s (.returned v) u = true ∧ True) → FrameEnd s (.returned v) u (Jvm.fieldLocs frame_1_writes args s ++ Jvm.arrayLocs frame_1_arrays args s ++ Jvm.staticLocs frame_1_statics s) 16 128 → Post tb e args s (.returned v) u) :
    ArmFor flags0 classFile x code maxLocals ret World_1 tables_1 room_1 Calls_1 rest_1 Pre_1 Post := by
  intro l hfl _ _ p e ha hc hk s m args below hf hA hF happ hP
  obtain ⟨hcalls, hrest, hpre⟩ := hP
  obtain ⟨-, -, -, hnamed, -, -, -, hat⟩ := (Spec.applies_iff hf).mp happ
  obtain ⟨hg, hn⟩ := and_e (Cond.before_iff.mp (show (Jvm.Cond.and given_1 narrow_1).before args s = true from hpre))
  obtain ⟨gg1, gg2⟩ := and_e hg
  obtain ⟨gg3, gg4⟩ := and_e gg2
  obtain ⟨gg5, gg6⟩ := and_e gg4
  obtain ⟨gg7, gg8⟩ := and_e gg6
  obtain ⟨w0, w1, w2, w3, rfl⟩ : ∃ w0 w1 w2 w3 : Value, args = #[w0, w1, w2, w3] := by
    have hs : args.size = 4 := by simpa [Cond.value, given_1] using gg1
    obtain ⟨L⟩ := args
    match L, hs with
    | [w0, w1, w2, w3], _ => exact ⟨w0, w1, w2, w3, rfl⟩
  have hw := fun d (hd : d ∈ tables_1) => atoms_spec (ws := Jvm.Cond.code x code maxLocals ret :: tables_1) hat d (List.mem_cons_of_mem _ hd)
  obtain ⟨i0, ei0⟩ := is_v gg3
  obtain rfl : w0 = (.int i0) := Option.some.inj ei0
  obtain ⟨i1, ei1⟩ := is_v gg5
  obtain rfl : w1 = (.int i1) := Option.some.inj ei1
  obtain ⟨i2, ei2⟩ := is_v gg7
  obtain rfl : w2 = (.int i2) := Option.some.inj ei2
  obtain ⟨i3, ei3⟩ := is_v gg8
  obtain rfl : w3 = (.int i3) := Option.some.inj ei3
  obtain ⟨n, o, h1, h2, h3, _, L, rfl, ⟨rfl, N⟩, hq⟩ := rm0 l s _ hw tables_1 i0 i1 i2 i3  s.heap s.heap.size (Nat.le_refl _)  p e ha hc hk s m _ below hf ((Spec.applies_iff_loose hf).mp happ).1 ⟨rfl, State.Warmed39.refl s, rfl⟩ trivial
  refine ⟨n, _, h1, h2, h3, hpost _ _ _ _ _ _ ⟨Cond.after_iff.mpr rfl, Cond.after_iff.mpr (eq_i res_at (Term.int_eval (1)) rfl), trivial⟩ ⟨hq.1, hq.2.1, (hq.2.2.sift fun y hy => Or.inr (N y hy)).mono (by decide) (by decide)⟩⟩
theorem main_1_1 : Claimed_1_1 := comes_1 fun _ _ _ _ _ _ h hF => ⟨h.1, hF⟩
theorem main_1_2 : Claimed_1_2 := comes_1 fun _ _ _ _ _ _ h hF => ⟨h.2.1, hF⟩
end Jvm.Pilot.@@N@@
namespace Jvm.Pilot.@@N@@
open Jvm Jvm.ClassFile Sem Op Lib Jvm.Free Jvm.Stand Jvm.Pilot.@@N@@.Jvm.D
/-! MADE BY PROGRAM (witnessworld.py) out of the Statement's table words and the real class files: 13 classes; the members and pool entries that the words name. The judged class is class 1, her method 1. -/
namespace start1
open Jvm.ClassFile
def u (s : String) : CpInfo := .utf8 (stringToUtf16 s)
/-- a pool by its gaps: so many unusable entries, then the entry; so many at the end -/
def gap : Nat → List CpInfo → List CpInfo
  | 0, r => r
  | n + 1, r => .unusable :: gap n r
def poolList (es : List (Nat × CpInfo)) (last : Nat) : List CpInfo := es.foldr (fun e r => gap e.1 (e.2 :: r)) (gap last [])
def pool (es : List (Nat × CpInfo)) (last : Nat) : Array CpInfo := ⟨poolList es last⟩
def fileOf (pool : Array CpInfo) (this : Nat) (attrs : Array Attribute := #[]) (ms : Array MethodInfo := #[]) (fl : Nat := 33) (sup : Nat := 0) (ifs : Array Nat := #[]) (fds : Array FieldInfo := #[]) : ClassFile where
  minorVersion := 0
  majorVersion := 65
  constantPool := pool
  accessFlags := fl
  thisClass := this
  superClass := sup
  interfaces := ifs
  fields := fds
  methods := ms
  attributes := attrs
def plain (name : String) (sup : Option ClassId) : Class where
  name := name
  kind := .ordinary
  loader := none
  accessFlags := 33
  super := sup
  interfaces := #[]
  cf := none
  fields := #[]
  methods := #[]
  instanceTypes := #[]
  staticTypes := #[]
  resolved := #[]
  callSites := []
  init := .initialized
  statics := none
  mirror := none

def pool0 : Array CpInfo := pool [(5, u "<init>"), (0, u "()V"), (1, .class_ 10), (1, u "java/lang/Object")] 113

def k0c0 : Code := { maxStack := 0, maxLocals := 1, code := object_method_1_code, exceptionTable := #[], attributes := #[] }
def k0m0 : Method := { name := "<init>", desc := "()V", sig := { parameters := [], returnType := none }, accessFlags := 1, code := some k0c0 }
/-- java/lang/Object -/
def k0 : Class := { plain "java/lang/Object" none with
  accessFlags := 33
  interfaces := #[]
  cf := some (fileOf pool0 8 #[] #[{ accessFlags := 1, nameIndex := 5, descriptorIndex := 6, attributes := #[] }] 33 0 #[] #[])
  fields := #[]
  methods := #[k0m0]
  instanceTypes := #[]
  staticTypes := #[]
  resolved := Array.replicate 124 none
  statics := none }

def pool1 : Array CpInfo := pool [(2, .class_ 4), (1, u "java/lang/Object"), (0, u "<init>"), (0, u "()V"), (0, .integer 2147483647), (0, .class_ 9), (0, u "com/example/headwright/headwright/Filter$Composite"), (0, .methodref 8 11), (0, .nameAndType 5 12), (0, u "(CI)V"), (0, .methodref 8 14), (0, .nameAndType 15 16), (0, u "apply"), (0, u "(Ljava/util/Map;[ZI)I"), (0, .class_ 18), (0, u "com/example/headwright/headwright/CompositeApplyPinLaw"), (2, u "law"), (0, u "(IIII)Z")] 9

def k1m0 : Method := { name := "<init>", desc := "()V", sig := { parameters := [], returnType := none }, accessFlags := 1, code := none }
def k1c1 : Code := { maxStack := 4, maxLocals := 17, code := code, exceptionTable := #[], attributes := #[] }
def k1m1 : Method := { name := "law", desc := "(IIII)Z", sig := { parameters := [.int, .int, .int, .int], returnType := some .boolean }, accessFlags := 9, code := some k1c1 }
/-- com/example/headwright/headwright/CompositeApplyPinLaw -/
def k1 : Class := { plain "com/example/headwright/headwright/CompositeApplyPinLaw" (some 0) with
  accessFlags := 49
  interfaces := #[]
  cf := some (fileOf pool1 17 #[] #[{ accessFlags := 1, nameIndex := 5, descriptorIndex := 6, attributes := #[] }, { accessFlags := 9, nameIndex := 21, descriptorIndex := 22, attributes := #[] }] 49 2 #[] #[])
  fields := #[]
  methods := #[k1m0, k1m1]
  instanceTypes := #[]
  staticTypes := #[]
  resolved := Array.replicate 32 none
  statics := none }

def pool2 : Array CpInfo := pool [(1, .methodref 2 3), (0, .class_ 4), (0, .nameAndType 5 6), (0, u "java/lang/Object"), (0, u "<init>"), (0, u "()V"), (0, .class_ 8), (0, u "java/lang/Record")] 13

def k2c0 : Code := { maxStack := 1, maxLocals := 1, code := jdk_30_method_1_code, exceptionTable := #[], attributes := #[] }
def k2m0 : Method := { name := "<init>", desc := "()V", sig := { parameters := [], returnType := none }, accessFlags := 4, code := some k2c0 }
/-- java/lang/Record -/
def k2 : Class := { plain "java/lang/Record" (some 0) with
  accessFlags := 1057
  interfaces := #[]
  cf := some (fileOf pool2 7 #[] #[{ accessFlags := 4, nameIndex := 5, descriptorIndex := 6, attributes := #[] }] 1057 2 #[] #[])
  fields := #[]
  methods := #[k2m0]
  instanceTypes := #[]
  staticTypes := #[]
  resolved := Array.replicate 22 none
  statics := none }

def pool3 : Array CpInfo := pool [(1, .class_ 2), (0, u "com/example/headwright/headwright/Filter$Step"), (0, .class_ 4), (0, u "java/lang/Object"), (7, .class_ 13), (0, u "com/example/headwright/headwright/Filter")] 2

/-- com/example/headwright/headwright/Filter$Step -/
def k3 : Class := { plain "com/example/headwright/headwright/Filter$Step" (some 0) with
  accessFlags := 1536
  interfaces := #[]
  cf := some (fileOf pool3 1 #[.nestHost 12] #[] 1536 3 #[] #[])
  fields := #[]
  methods := #[]
  instanceTypes := #[]
  staticTypes := #[]
  resolved := Array.replicate 16 none
  statics := none }

def pool4 : Array CpInfo := pool [(1, .methodref 2 3), (0, .class_ 4), (0, .nameAndType 5 6), (0, u "java/lang/Record"), (0, u "<init>"), (0, u "()V"), (0, .fieldref 8 9), (0, .class_ 10), (0, .nameAndType 11 12), (0, u "com/example/headwright/headwright/Filter$Composite"), (0, u "operator"), (0, u "C"), (0, .fieldref 8 14), (0, .nameAndType 15 16), (0, u "operands"), (0, u "I"), (12, .class_ 30), (0, u "com/example/headwright/headwright/Filter$Step"), (0, u "(CI)V"), (3, u "apply"), (0, u "(Ljava/util/Map;[ZI)I"), (14, .class_ 52), (0, u "com/example/headwright/headwright/Filter")] 21

def k4c0 : Code := { maxStack := 2, maxLocals := 3, code := prog_17_method_1_code, exceptionTable := #[], attributes := #[] }
def k4m0 : Method := { name := "<init>", desc := "(CI)V", sig := { parameters := [.char, .int], returnType := none }, accessFlags := 0, code := some k4c0 }
def k4c1 : Code := { maxStack := 4, maxLocals := 7, code := prog_17_method_2_code, exceptionTable := #[], attributes := #[] }
def k4m1 : Method := { name := "apply", desc := "(Ljava/util/Map;[ZI)I", sig := { parameters := [(.object "java/util/Map"), (.array .boolean), .int], returnType := some .int }, accessFlags := 1, code := some k4c1 }
/-- com/example/headwright/headwright/Filter$Composite -/
def k4 : Class := { plain "com/example/headwright/headwright/Filter$Composite" (some 2) with
  accessFlags := 48
  interfaces := #[3]
  cf := some (fileOf pool4 8 #[.nestHost 51] #[{ accessFlags := 0, nameIndex := 5, descriptorIndex := 31, attributes := #[] }, { accessFlags := 1, nameIndex := 35, descriptorIndex := 36, attributes := #[] }] 48 2 #[29] #[{ accessFlags := 18, nameIndex := 11, descriptorIndex := 12, attributes := #[] }, { accessFlags := 18, nameIndex := 15, descriptorIndex := 16, attributes := #[] }])
  fields := #[{ name := "operator", type := .char, accessFlags := 18, slot := 0, constantValue := 0 }, { name := "operands", type := .int, accessFlags := 18, slot := 1, constantValue := 0 }]
  methods := #[k4m0, k4m1]
  instanceTypes := #[.char, .int]
  staticTypes := #[]
  resolved := Array.replicate 74 none
  statics := none }

def pool5 : Array CpInfo := pool [(1, u "java/lang/Cloneable"), (0, .class_ 1), (0, u "java/lang/Object"), (0, .class_ 3)] 3

/-- java/lang/Cloneable -/
def k5 : Class := { plain "java/lang/Cloneable" (some 0) with
  accessFlags := 1537
  interfaces := #[]
  cf := some (fileOf pool5 2 #[] #[] 1537 4 #[] #[])
  fields := #[]
  methods := #[]
  instanceTypes := #[]
  staticTypes := #[]
  resolved := Array.replicate 8 none
  statics := none }

def pool6 : Array CpInfo := pool [(1, u "java/io/Serializable"), (0, .class_ 1), (0, u "java/lang/Object"), (0, .class_ 3)] 3

/-- java/io/Serializable -/
def k6 : Class := { plain "java/io/Serializable" (some 0) with
  accessFlags := 1537
  interfaces := #[]
  cf := some (fileOf pool6 2 #[] #[] 1537 4 #[] #[])
  fields := #[]
  methods := #[]
  instanceTypes := #[]
  staticTypes := #[]
  resolved := Array.replicate 8 none
  statics := none }

/-- the primitive boolean -/
def k7 : Class := { plain "boolean" none with kind := .primitive 'Z', accessFlags := 0x411 }
/-- [Z -/
def k8 : Class := { plain "[Z" (some 0) with kind := .array 7 .boolean, interfaces := #[5, 6], accessFlags := 1041 }

/-- the primitive byte -/
def k9 : Class := { plain "byte" none with kind := .primitive 'B', accessFlags := 0x411 }
/-- [B -/
def k10 : Class := { plain "[B" (some 0) with kind := .array 9 .byte, interfaces := #[5, 6], accessFlags := 1041 }

/-- the primitive int -/
def k11 : Class := { plain "int" none with kind := .primitive 'I', accessFlags := 0x411 }
/-- [I -/
def k12 : Class := { plain "[I" (some 0) with kind := .array 11 .int, interfaces := #[5, 6], accessFlags := 1041 }

def heap : Heap := #[]
def classes : Array Class := #[k0, k1, k2, k3, k4, k5, k6, k7, k8, k9, k10, k11, k12]
def interned : List (Array UInt16 × Addr) := []
def slotsUsed : Nat := 0
def theMethod : MethodId := ⟨1, 1⟩
def args0 : Array Value := #[.int 3, .int 1, .int 2, .int 3]
def aboutOver (below : List Frame) : State where
  vm := { classes := classes, interned := interned.toArray }
  heap := heap
  slotsUsed := slotsUsed
  threads := #[{ frames := .invoking theMethod args0 :: below }]
def below0 : List Frame := [.native { method := ⟨0, 0⟩, args := #[] }]
def about1 : State := aboutOver below0
def p0 : Program := .bare "" "" ""
def e0 : Env := launch0.env 0 0 0
theorem w_frames : about1.frames = Frame.invoking theMethod args0 :: below0 := rfl
set_option maxRecDepth 65536 in
theorem w_args : argsFit about1.vm theMethod args0 = true := by decide +kernel
set_option maxRecDepth 65536 in
theorem w_heap : heapFits about1 = true := by decide +kernel
set_option maxRecDepth 65536 in
theorem w_runnable : about1.curStatus? = some .runnable := by decide +kernel
set_option maxRecDepth 65536 in
theorem w_alone : about1.alone = true := by decide +kernel
set_option maxRecDepth 65536 in
theorem w_named : about1.methodNamed? x = some theMethod := by decide +kernel
set_option maxRecDepth 65536 in
theorem w_hears : about1.hears theMethod below0 = true := by decide +kernel
set_option maxRecDepth 65536 in
theorem w_ripe : about1.ripe theMethod args0 below0 = true := by decide +kernel
theorem w_running : about1.status = .running := rfl
set_option maxRecDepth 65536 in
theorem w_room : about1.hasRoom e0.platform room_1 = true :=
  launch0.hasRoom_least _ room_1 (by decide +kernel) (by decide +kernel) (by decide +kernel) (by decide +kernel) (by decide +kernel) (by decide +kernel)
theorem allAtoms_all (ts : List Jvm.Cond) (a : Array Jvm.Value) (st : Jvm.State) : (allAtoms ts).before a st = ts.all (fun c => c.before a st) := by
  induction ts with
  | nil => rfl
  | cons c t ih =>
    show (Jvm.Cond.and c (allAtoms t)).before a st = _
    rw [Jvm.Cond.before_and, ih, List.all_cons]
def words1 : List Jvm.Cond := Jvm.Cond.code x code maxLocals ret :: tables_1
/-- a 'code' word, met by the world's own term for the bytes: nothing is compared byte by byte -/
theorem code_word {y : MethodName} {bytes : ByteArray} {mx : Nat} {rt : Option FieldType} {a : Array Value} {s : State} {m : MethodId} {meth : Method} {c : Code} (h1 : s.methodNamed? y = some m) (h2 : s.vm.method? m = some meth) (h3 : meth.code = some c) (h4 : c.code = bytes)
    (h5 : (c.maxLocals == mx && c.exceptionTable.isEmpty && decide (c.maxStack ≤ mostOperands) && decide (meth.sig.returnType = rt) && !meth.locks && decide (parseMethodDescriptor y.desc = some meth.sig)) = true) : (Jvm.Cond.code y bytes mx rt).before a s = true := by
  simp only [Bool.and_eq_true, beq_iff_eq, Bool.not_eq_true', decide_eq_true_eq] at h5
  obtain ⟨⟨⟨⟨⟨g1, g2⟩, g3⟩, g4⟩, g5⟩, g6⟩ := h5
  simp [Cond.before, Cond.holds, Cond.value, h1, h2, h3, h4, g1, g2, g3, g4, g5, g6]
def isCode : Jvm.Cond → Bool
  | .code _ _ _ _ => true
  | _ => false
theorem all_split {L : List Jvm.Cond} {P : Jvm.Cond → Bool} (h1 : L.all (fun c => isCode c || P c) = true) (h2 : ∀ c ∈ L.filter isCode, P c = true) : L.all P = true := by
  refine List.all_eq_true.mpr fun c hc => ?_
  have h := List.all_eq_true.mp h1 c hc
  rcases Bool.eq_false_or_eq_true (isCode c) with hi | hi
  · exact h2 c (List.mem_filter.mpr ⟨hc, hi⟩)
  · simpa [hi] using h
set_option maxRecDepth 65536 in
theorem w_c0 : (Jvm.Cond.code x code maxLocals ret).before args0 about1 = true := code_word (m := ⟨1, 1⟩) (meth := k1m1) (c := k1c1) (by decide +kernel) rfl rfl rfl (by decide +kernel)
set_option maxRecDepth 65536 in
theorem w_c1 : (Jvm.Cond.code ({ cls := "com/example/headwright/headwright/Filter$Composite", name := "<init>", desc := "(CI)V" } : Jvm.MethodName) prog_17_method_1_code (3 : Nat) (Option.none : Option Jvm.ClassFile.FieldType)).before args0 about1 = true := code_word (m := ⟨4, 0⟩) (meth := k4m0) (c := k4c0) (by decide +kernel) rfl rfl rfl (by decide +kernel)
set_option maxRecDepth 65536 in
theorem w_c2 : (Jvm.Cond.code ({ cls := "java/lang/Record", name := "<init>", desc := "()V" } : Jvm.MethodName) jdk_30_method_1_code (1 : Nat) (Option.none : Option Jvm.ClassFile.FieldType)).before args0 about1 = true := code_word (m := ⟨2, 0⟩) (meth := k2m0) (c := k2c0) (by decide +kernel) rfl rfl rfl (by decide +kernel)
set_option maxRecDepth 65536 in
theorem w_c3 : (Jvm.Cond.code ({ cls := "java/lang/Object", name := "<init>", desc := "()V" } : Jvm.MethodName) object_method_1_code (1 : Nat) (Option.none : Option Jvm.ClassFile.FieldType)).before args0 about1 = true := code_word (m := ⟨0, 0⟩) (meth := k0m0) (c := k0c0) (by decide +kernel) rfl rfl rfl (by decide +kernel)
set_option maxRecDepth 65536 in
theorem w_c4 : (Jvm.Cond.code ({ cls := "com/example/headwright/headwright/Filter$Composite", name := "apply", desc := "(Ljava/util/Map;[ZI)I" } : Jvm.MethodName) prog_17_method_2_code (7 : Nat) (Option.some Jvm.ClassFile.FieldType.int)).before args0 about1 = true := code_word (m := ⟨4, 1⟩) (meth := k4m1) (c := k4c1) (by decide +kernel) rfl rfl rfl (by decide +kernel)
def codes1 : List Jvm.Cond := [Jvm.Cond.code x code maxLocals ret, Jvm.Cond.code ({ cls := "com/example/headwright/headwright/Filter$Composite", name := "<init>", desc := "(CI)V" } : Jvm.MethodName) prog_17_method_1_code (3 : Nat) (Option.none : Option Jvm.ClassFile.FieldType), Jvm.Cond.code ({ cls := "java/lang/Record", name := "<init>", desc := "()V" } : Jvm.MethodName) jdk_30_method_1_code (1 : Nat) (Option.none : Option Jvm.ClassFile.FieldType), Jvm.Cond.code ({ cls := "java/lang/Object", name := "<init>", desc := "()V" } : Jvm.MethodName) object_method_1_code (1 : Nat) (Option.none : Option Jvm.ClassFile.FieldType), Jvm.Cond.code ({ cls := "com/example/headwright/headwright/Filter$Composite", name := "apply", desc := "(Ljava/util/Map;[ZI)I" } : Jvm.MethodName) prog_17_method_2_code (7 : Nat) (Option.some Jvm.ClassFile.FieldType.int)]
set_option maxRecDepth 65536 in
theorem codes_eq : words1.filter isCode = codes1 := rfl
theorem w_codes : ∀ c ∈ words1.filter isCode, c.before args0 about1 = true := by
  rw [codes_eq]
  intro c hc
  simp only [codes1, List.mem_cons, List.not_mem_nil, or_false] at hc
  rcases hc with rfl | rfl | rfl | rfl | rfl
  · exact w_c0
  · exact w_c1
  · exact w_c2
  · exact w_c3
  · exact w_c4
set_option maxRecDepth 65536 in
theorem w_t1 : (words1.take 24).all (fun c => isCode c || c.before args0 about1) = true := by decide +kernel
set_option maxRecDepth 65536 in
theorem w_t2 : (words1.drop 24).all (fun c => isCode c || c.before args0 about1) = true := by decide +kernel
theorem w_tables : (allAtoms (Jvm.Cond.code x code maxLocals ret :: tables_1)).before args0 about1 = true := by
  rw [allAtoms_all]
  show words1.all (fun c => c.before args0 about1) = true
  refine all_split ?_ w_codes
  rw [← List.take_append_drop 24 words1, List.all_append, w_t1, w_t2]
  rfl
set_option maxRecDepth 65536 in
theorem w_case : (Jvm.Cond.and given_1 narrow_1).before args0 about1 = true := by decide +kernel
theorem w_applies : (headSpec (Jvm.Cond.code x code maxLocals ret :: tables_1) room_1).applies x e0.platform about1 = true :=
  (Spec.applies_iff w_frames).mpr ⟨w_running, w_runnable, w_alone, w_named, w_hears, w_ripe, w_room, w_tables⟩
theorem atStart : AtStart classFile x code maxLocals ret World_1 tables_1 room_1 Calls_1 rest_1 Pre_1 launch0 p0 e0 about1 theMethod args0 below0 :=
  ⟨lists_1, trivial, launch0.admits_env _ _ _, launch0.least_env, fairChoices_fair.cas, fairChoices_fair.clock, w_frames, w_args, w_heap, w_applies, trivial, trivial, w_case⟩
end start1
theorem witness_1 : WitnessClaimed_1 := ⟨start1.p0, start1.e0, start1.about1, start1.theMethod, start1.args0, start1.below0, start1.atStart⟩
end Jvm.Pilot.@@N@@
