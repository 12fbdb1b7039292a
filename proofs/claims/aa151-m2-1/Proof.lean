import JvmDerived
import JvmDerived.Pilot.@@N@@Statement
import JvmDerived.Pilot.@@N@@Code
set_option linter.unusedVariables false
set_option linter.unusedSimpArgs false
namespace Jvm.Pilot.@@N@@
open Jvm Jvm.ClassFile Sem Op Lib Jvm.Free Jvm.Stand Jvm.LawKit Jvm.RoadKit Bundle Jvm.Pilot.@@N@@.Jvm.D
/-- the run from S ends as G says -/
def own_Fin (p : Program) (e : Env) (below : List Frame) (G : Outcome → State → Prop) (S : State) : Prop :=
  ∃ t o, Steps p.tables e below S t ∧ t.status = .running ∧ Ended t below o ∧ G o t
theorem own_go {p : Program} {e : Env} {below : List Frame} {G : Outcome → State → Prop} {S S' : State} (h : Steps p.tables e below S S') (k : own_Fin p e below G S') : own_Fin p e below G S := by
  obtain ⟨t, o, h1, h2, h3, h4⟩ := k
  exact ⟨t, o, h.trans h1, h2, h3, h4⟩
theorem own_by {p : Program} {e : Env} {below : List Frame} {G : Outcome → State → Prop} {S S' : State} (h : ∀ t, Steps p.tables e below S' t → Steps p.tables e below S t) (k : own_Fin p e below G S') : own_Fin p e below G S := by
  obtain ⟨t, o, h1, h2, h3, h4⟩ := k
  exact ⟨t, o, h t h1, h2, h3, h4⟩
theorem own_done {p : Program} {e : Env} {below : List Frame} {G : Outcome → State → Prop} {S t : State} {o : Outcome} (h1 : Steps p.tables e below S t) (h2 : t.status = .running) (h3 : Ended t below o) (h4 : G o t) : own_Fin p e below G S := ⟨t, o, h1, h2, h3, h4⟩
def own_get (rs : List Int32) (j : Int32) : Int32 := rs.getD j.toNatClampNeg 0
theorem own_getD (rs : List Int32) (j : Int32) : (rs.map Value.int).getD j.toNatClampNeg (.int (0 : Int32)) = .int (own_get rs j) := by
  unfold own_get
  rw [List.getD_eq_getElem?_getD, List.getD_eq_getElem?_getD, List.getElem?_map]
  cases rs[j.toNatClampNeg]? <;> rfl
theorem own_retI {p : Program} {l : Launch} {e : Env} {R : Room} {s : State} {m : MethodId} {args : Array Value} {below : List Frame} {meth : Method} {c : Code} {T : State} {locs : List Loc} {cells slots : Nat} (X : Stand p l e R s m args below meth c T locs cells slots) (hx : p.tables.exec = Jvm.exec) {pc : Nat} {Ls : Array Slot} {z : Int32} {rest : List Value} (hret : meth.sig.returnType = some .int) (hd : decode c.code pc = .ok (.ireturn, 1)) {fs : List Frame}
    (hl : ∀ (f : JFrame) (acts : List Action), f.method = m → f.locked = none → f.entered = [] → (doReturn e (T.setTop f) acts (some (.int z))).1 = T.setFrames fs) : Steps p.tables e below (T.setTop (mkF m pc Ls (.int z :: rest))) (T.setFrames fs) :=
  retOut X hx hret rfl (Or.inl ⟨rfl, Or.inl rfl, z, rfl⟩) hd hl
theorem own_and255 (x : Int32) : ∃ k : Fin 256, x &&& (255 : Int32) = Int32.ofNat k.val := by
  have h1 : (x &&& (255 : Int32)).toInt = x.toInt % (2 ^ 8 : Nat) := c_mask x 255 8 (by decide) (by decide)
  generalize x &&& (255 : Int32) = y at h1 ⊢
  refine ⟨⟨y.toNatClampNeg, by unfold Int32.toNatClampNeg; omega⟩, ?_⟩
  apply Int32.toInt_inj.mp
  rw [Int32.toInt_ofNat_of_lt (by unfold Int32.toNatClampNeg; omega)]
  show y.toInt = ((y.toInt.toNat : Nat) : Int)
  omega
theorem own_nc (x : Int32) : nar .char ((x &&& (255 : Int32)).toUInt32.toUInt16.toUInt32.toInt32) = x &&& (255 : Int32) := by
  obtain ⟨k, hk⟩ := own_and255 x
  rw [hk]
  exact (show ∀ k : Fin 256, nar .char ((Int32.ofNat k.val).toUInt32.toUInt16.toUInt32.toInt32) = Int32.ofNat k.val by decide +kernel) k
theorem own_lt (x : Int32) : ¬ (255 : Int32) < x &&& (255 : Int32) := by
  obtain ⟨k, hk⟩ := own_and255 x
  rw [hk]
  exact (show ∀ k : Fin 256, ¬ (255 : Int32) < Int32.ofNat k.val by decide +kernel) k
theorem d5_0 : decode jdk_52_method_21_code 0 = .ok (.iconst 0, 1) := by decide +kernel
theorem d5_1 : decode jdk_52_method_21_code 1 = .ok (.istore 5, 2) := by decide +kernel
theorem d5_3 : decode jdk_52_method_21_code 3 = .ok (.iload 5, 2) := by decide +kernel
theorem d5_5 : decode jdk_52_method_21_code 5 = .ok (.iload 4, 2) := by decide +kernel
theorem d5_7 : decode jdk_52_method_21_code 7 = .ok (.if_icmp .ge 37, 3) := by decide +kernel
theorem d5_10 : decode jdk_52_method_21_code 10 = .ok (.aload_n 0, 1) := by decide +kernel
theorem d5_11 : decode jdk_52_method_21_code 11 = .ok (.iload_n 1, 1) := by decide +kernel
theorem d5_12 : decode jdk_52_method_21_code 12 = .ok (.caload, 1) := by decide +kernel
theorem d5_13 : decode jdk_52_method_21_code 13 = .ok (.istore 6, 2) := by decide +kernel
theorem d5_15 : decode jdk_52_method_21_code 15 = .ok (.iload 6, 2) := by decide +kernel
theorem d5_17 : decode jdk_52_method_21_code 17 = .ok (.sipush 255, 3) := by decide +kernel
theorem d5_20 : decode jdk_52_method_21_code 20 = .ok (.if_icmp .le 6, 3) := by decide +kernel
theorem d5_23 : decode jdk_52_method_21_code 23 = .ok (.iload 5, 2) := by decide +kernel
theorem d5_25 : decode jdk_52_method_21_code 25 = .ok (.ireturn, 1) := by decide +kernel
theorem d5_26 : decode jdk_52_method_21_code 26 = .ok (.aload_n 2, 1) := by decide +kernel
theorem d5_27 : decode jdk_52_method_21_code 27 = .ok (.iload_n 3, 1) := by decide +kernel
theorem d5_28 : decode jdk_52_method_21_code 28 = .ok (.iload 6, 2) := by decide +kernel
theorem d5_30 : decode jdk_52_method_21_code 30 = .ok (.i2b, 1) := by decide +kernel
theorem d5_31 : decode jdk_52_method_21_code 31 = .ok (.bastore, 1) := by decide +kernel
theorem d5_32 : decode jdk_52_method_21_code 32 = .ok (.iinc 1 1, 3) := by decide +kernel
theorem d5_35 : decode jdk_52_method_21_code 35 = .ok (.iinc 3 1, 3) := by decide +kernel
theorem d5_38 : decode jdk_52_method_21_code 38 = .ok (.iinc 5 1, 3) := by decide +kernel
theorem d5_41 : decode jdk_52_method_21_code 41 = .ok (.goto (-38), 3) := by decide +kernel
theorem d5_44 : decode jdk_52_method_21_code 44 = .ok (.iload 4, 2) := by decide +kernel
theorem d5_46 : decode jdk_52_method_21_code 46 = .ok (.ireturn, 1) := by decide +kernel
theorem pn_java_lang_StringUTF16 : plainName "java/lang/StringUTF16" = true := by first | (simp [plainName, overriddenIn]; done) | decide +kernel
theorem ef_cm_2 (m : MethodId) (x0 : Addr) (x1 : Int32) (x2 : Addr) (x3 : Int32) (x4 : Int32) : entryFrame m #[(.ref x0), (.int x1), (.ref x2), (.int x3), (.int x4)] 7 = mkF m 0 #[.val (.ref x0), .val (.int x1), .val (.ref x2), .val (.int x3), .val (.int x4), .unset, .unset] [] := by first | (simp [entryFrame, mkF, argsToLocals, Value.category]; done) | rfl
def Qcm_2 (Z : State) (a1 : Addr) (k : ClassId) (c0 : Int32) (c1 : Int32) (a3 : Addr) (kb : ClassId) (h0 : Heap) (n0 : Nat) (v : Option Value) (h : Heap) (L : List Loc) : Prop := v = some (.int (2 : Int32)) ∧ Fr n0 L ∧ Keep h0 h [a3] ∧ Arv Z h a3 kb .byte (2 : Int32) [(.int (nar .byte (c0.toInt8.toInt32))), (.int (nar .byte (c1.toInt8.toInt32)))] (.int (0 : Int32))
abbrev Gcm_2 (Z : State) (a1 : Addr) (k : ClassId) (c0 : Int32) (c1 : Int32) (a3 : Addr) (kb : ClassId) (h0 : Heap) (n0 : Nat) (s : State) : Outcome → State → Prop := fun o U' => ∃ v L, o = .returned v ∧ Qcm_2 Z a1 k c0 c1 a3 kb h0 n0 v U'.heap L ∧ FrameEnd s o U' L ({ frames := 0, cells := 0, slots := 0, locals := 0 } : Room).cells ({ frames := 0, cells := 0, slots := 0, locals := 0 } : Room).slots
set_option maxRecDepth 65536 in
set_option maxHeartbeats 40000000 in
theorem rmcm_2 (l : Launch) (Z : State) (a0 : Array Value) (hw : ∀ d ∈ tables_1, d.before a0 Z = true) (ws : List Jvm.Cond) (a1 : Addr) (k : ClassId) (c0 : Int32) (c1 : Int32) (a3 : Addr) (kb : ClassId) (h0 : Heap) (n0 : Nat) (Z0 : n0 ≤ h0.size) (V_a1 : Arv Z h0 a1 k .char (2 : Int32) [(.int c0), (.int c1)] (.int (0 : Int32))) (V_a3 : Arv Z h0 a3 kb .byte (2 : Int32) [(.int (0 : Int32)), (.int (0 : Int32))] (.int (0 : Int32))) (g_a3 : n0 ≤ a3) (ne13 : a1 ≠ a3) (hc0 : ¬ (255 : Int32) < c0) (hc1 : ¬ (255 : Int32) < c1) :
    MetFree l (⟨"java/lang/StringUTF16", "compress", "([CI[BII)I"⟩ : MethodName) (head1 (Jvm.Cond.code (⟨"java/lang/StringUTF16", "compress", "([CI[BII)I"⟩ : MethodName) jdk_52_method_21_code 7 (some .int) :: ws) ({ frames := 0, cells := 0, slots := 0, locals := 0 } : Room)) (fun a U => a = #[(.ref a1), (.int (0 : Int32)), (.ref a3), (.int (0 : Int32)), (.int (2 : Int32))] ∧ Z.Warmed39 U.vm ∧ U.heap = h0) (fun _ _ _ _ _ => True) (fun _ U o U' => ∃ v L, o = .returned v ∧ Qcm_2 Z a1 k c0 c1 a3 kb h0 n0 v U'.heap L ∧ FrameEnd U o U' L ({ frames := 0, cells := 0, slots := 0, locals := 0 } : Room).cells ({ frames := 0, cells := 0, slots := 0, locals := 0 } : Room).slots) := by
  refine MetFree.of_bodySF (plainFor_of_name pn_java_lang_StringUTF16) hisR ?_
  intro p e s m args below meth c s₁ Bd hml0 hP hK
  obtain ⟨rfl, hZ, hh⟩ := hP
  have hx := Bd.exec
  have hby := Bd.bytes
  have hml : c.maxLocals = 7 := hml0
  have hown : s.vm.findClass "java/lang/StringUTF16" = some m.cls := findClass_of_methodNamed Bd.named
  have hnm := (name_of_methodNamed Bd.named Bd.method).1
  have X0 : Stand p l e ({ frames := 0, cells := 0, slots := 0, locals := 0 } : Room) s m #[(.ref a1), (.int (0 : Int32)), (.ref a3), (.int (0 : Int32)), (.int (2 : Int32))] below meth c s₁ [] 0 0 := Stand.of_body Bd
  have e0 : s₁.heap = h0 := by rw [← hh, Bd.state]; rfl
  have es0 : s.heap = h0 := hh
  have N0 := Fr.nil n0
  show own_Fin p e below (Gcm_2 Z a1 k c0 c1 a3 kb h0 n0 s) (s₁.setTop (entryFrame m #[(.ref a1), (.int (0 : Int32)), (.ref a3), (.int (0 : Int32)), (.int (2 : Int32))] 7))
  rw [ef_cm_2 m a1 (0 : Int32) a3 (0 : Int32) (2 : Int32)]
  have Kz := Keep.refl h0 [a3]
  refine own_go (XS.iconst X0.here hx rfl (hb hby d5_0) (Steps.refl _)) ?_
  show own_Fin _ _ _ _ (s₁.setTop (mkF m 1 #[rv a1, iv (0 : Int32), rv a3, iv (0 : Int32), iv (2 : Int32), .unset, .unset] [(.int (0 : Int32))]))
  refine own_go (XS.istore X0.here hx rfl (hb hby d5_1) rfl rfl (Steps.refl _)) ?_
  show own_Fin _ _ _ _ (s₁.setTop (mkF m 3 #[rv a1, iv (0 : Int32), rv a3, iv (0 : Int32), iv (2 : Int32), iv (0 : Int32), .unset] []))
  refine own_go (XS.iload X0.here hx rfl (hb hby d5_3) rfl (Steps.refl _)) ?_
  show own_Fin _ _ _ _ (s₁.setTop (mkF m 5 #[rv a1, iv (0 : Int32), rv a3, iv (0 : Int32), iv (2 : Int32), iv (0 : Int32), .unset] [(.int (0 : Int32))]))
  refine own_go (XS.iload X0.here hx rfl (hb hby d5_5) rfl (Steps.refl _)) ?_
  show own_Fin _ _ _ _ (s₁.setTop (mkF m 7 #[rv a1, iv (0 : Int32), rv a3, iv (0 : Int32), iv (2 : Int32), iv (0 : Int32), .unset] [(.int (2 : Int32)), (.int (0 : Int32))]))
  refine own_go (XS.icmpNo X0.here hx rfl (hb hby d5_7) rfl (tlt (by decide : (0 : Int32) < (2 : Int32))).2.1 (Steps.refl _)) ?_
  show own_Fin _ _ _ _ (s₁.setTop (mkF m 10 #[rv a1, iv (0 : Int32), rv a3, iv (0 : Int32), iv (2 : Int32), iv (0 : Int32), .unset] []))
  refine own_go (XS.aloadN X0.here hx rfl (hb hby d5_10) rfl rfl (Steps.refl _)) ?_
  show own_Fin _ _ _ _ (s₁.setTop (mkF m 11 #[rv a1, iv (0 : Int32), rv a3, iv (0 : Int32), iv (2 : Int32), iv (0 : Int32), .unset] [(.ref a1)]))
  refine own_go (XS.iloadN X0.here hx rfl (hb hby d5_11) rfl (Steps.refl _)) ?_
  show own_Fin _ _ _ _ (s₁.setTop (mkF m 12 #[rv a1, iv (0 : Int32), rv a3, iv (0 : Int32), iv (2 : Int32), iv (0 : Int32), .unset] [(.int (0 : Int32)), (.ref a1)]))
  obtain ⟨cl1, Ar1, qa1, Sa1, Na1, Ha1, Ga1⟩ := id V_a1
  have hin1 : ¬ ((0 : Int32) < 0 ∨ cl1.slots.size ≤ ((0 : Int32)).toNatClampNeg) := inb_of Sa1 ⟨by decide, by decide⟩
  have hat1 : cl1.slots[((0 : Int32)).toNatClampNeg]? = some (.int c0) := Has.at Ha1 hin1 rfl
  refine own_by (X0.caload hx (j := (0 : Int32)) (v := (.int c0)) (by rw [e0]; exact Ar1.1) (State.isArrayOf_alike hZ.alike Ar1.2.1) Ar1.2.2 hin1 hat1 (g := (mkF m 12 #[rv a1, iv (0 : Int32), rv a3, iv (0 : Int32), iv (2 : Int32), iv (0 : Int32), .unset] [(.int (0 : Int32)), (.ref a1)])) rfl rfl (hb hby d5_12)) ?_
  show own_Fin _ _ _ _ (s₁.setTop (mkF m 13 #[rv a1, iv (0 : Int32), rv a3, iv (0 : Int32), iv (2 : Int32), iv (0 : Int32), .unset] [(.int c0)]))
  refine own_go (XS.istore X0.here hx rfl (hb hby d5_13) rfl rfl (Steps.refl _)) ?_
  show own_Fin _ _ _ _ (s₁.setTop (mkF m 15 #[rv a1, iv (0 : Int32), rv a3, iv (0 : Int32), iv (2 : Int32), iv (0 : Int32), iv c0] []))
  refine own_go (XS.iload X0.here hx rfl (hb hby d5_15) rfl (Steps.refl _)) ?_
  show own_Fin _ _ _ _ (s₁.setTop (mkF m 17 #[rv a1, iv (0 : Int32), rv a3, iv (0 : Int32), iv (2 : Int32), iv (0 : Int32), iv c0] [(.int c0)]))
  refine own_go (XS.sipush X0.here hx rfl (hb hby d5_17) (Steps.refl _)) ?_
  show own_Fin _ _ _ _ (s₁.setTop (mkF m 20 #[rv a1, iv (0 : Int32), rv a3, iv (0 : Int32), iv (2 : Int32), iv (0 : Int32), iv c0] [(.int (255 : Int32)), (.int c0)]))
  refine own_go (XS.icmpYes X0.here hx rfl (pc0 := 20) (pc' := 26) rfl (hb hby d5_20) rfl (flt (show ¬ ((255 : Int32) < c0) from hc0)).2.2.2 (by decide) (by decide) (Steps.refl _)) ?_
  show own_Fin _ _ _ _ (s₁.setTop (mkF m 26 #[rv a1, iv (0 : Int32), rv a3, iv (0 : Int32), iv (2 : Int32), iv (0 : Int32), iv c0] []))
  refine own_go (XS.aloadN X0.here hx rfl (hb hby d5_26) rfl rfl (Steps.refl _)) ?_
  show own_Fin _ _ _ _ (s₁.setTop (mkF m 27 #[rv a1, iv (0 : Int32), rv a3, iv (0 : Int32), iv (2 : Int32), iv (0 : Int32), iv c0] [(.ref a3)]))
  refine own_go (XS.iloadN X0.here hx rfl (hb hby d5_27) rfl (Steps.refl _)) ?_
  show own_Fin _ _ _ _ (s₁.setTop (mkF m 28 #[rv a1, iv (0 : Int32), rv a3, iv (0 : Int32), iv (2 : Int32), iv (0 : Int32), iv c0] [(.int (0 : Int32)), (.ref a3)]))
  refine own_go (XS.iload X0.here hx rfl (hb hby d5_28) rfl (Steps.refl _)) ?_
  show own_Fin _ _ _ _ (s₁.setTop (mkF m 30 #[rv a1, iv (0 : Int32), rv a3, iv (0 : Int32), iv (2 : Int32), iv (0 : Int32), iv c0] [(.int c0), (.int (0 : Int32)), (.ref a3)]))
  refine own_go (XS.i2b X0.here hx rfl (hb hby d5_30) rfl (Steps.refl _)) ?_
  show own_Fin _ _ _ _ (s₁.setTop (mkF m 31 #[rv a1, iv (0 : Int32), rv a3, iv (0 : Int32), iv (2 : Int32), iv (0 : Int32), iv c0] [(.int (c0.toInt8.toInt32)), (.int (0 : Int32)), (.ref a3)]))
  obtain ⟨cl2, Ar2, qa2, Sa2, Na2, Ha2, Ga2⟩ := id V_a3
  have hin2 : ¬ ((0 : Int32) < 0 ∨ cl2.slots.size ≤ ((0 : Int32)).toNatClampNeg) := inb_of Sa2 ⟨by decide, by decide⟩
  obtain ⟨T3, h3, X3, e3, W3, st3⟩ := stB X0 hx hZ e0 Ar2 (j := (0 : Int32)) hin2 (g := (mkF m 31 #[rv a1, iv (0 : Int32), rv a3, iv (0 : Int32), iv (2 : Int32), iv (0 : Int32), iv c0] [(.int (c0.toInt8.toInt32)), (.int (0 : Int32)), (.ref a3)])) rfl rfl (hb hby d5_31)
  refine own_by st3 ?_
  have V_a3_3 : Arv Z h3 a3 kb .byte (2 : Int32) [(.int (nar .byte (c0.toInt8.toInt32))), (.int (0 : Int32))] (.int (0 : Int32)) := Arv.set Ar2 qa2 Sa2 Na2 Ha2 Ga2 (fits_nar_byte (c0.toInt8.toInt32)) W3 0 rfl (Nat.le_of_ble_eq_true rfl)
  have V_a1_3 := V_a1.other W3 ne13
  have N3 := Fr.snoc X3 N0 g_a3
  have Z3 : n0 ≤ h3.size := Nat.le_trans Z0 (Keep.of_wr W3).1
  have K3 := Kz.wr W3 (Or.inl (List.mem_of_getElem? (i := 0) rfl))
  show own_Fin _ _ _ _ (T3.setTop (mkF m 32 #[rv a1, iv (0 : Int32), rv a3, iv (0 : Int32), iv (2 : Int32), iv (0 : Int32), iv c0] []))
  refine own_go (XS.iinc X3.here hx rfl (hb hby d5_32) rfl rfl (Steps.refl _)) ?_
  show own_Fin _ _ _ _ (T3.setTop (mkF m 35 #[rv a1, iv (1 : Int32), rv a3, iv (0 : Int32), iv (2 : Int32), iv (0 : Int32), iv c0] []))
  refine own_go (XS.iinc X3.here hx rfl (hb hby d5_35) rfl rfl (Steps.refl _)) ?_
  show own_Fin _ _ _ _ (T3.setTop (mkF m 38 #[rv a1, iv (1 : Int32), rv a3, iv (1 : Int32), iv (2 : Int32), iv (0 : Int32), iv c0] []))
  refine own_go (XS.iinc X3.here hx rfl (hb hby d5_38) rfl rfl (Steps.refl _)) ?_
  show own_Fin _ _ _ _ (T3.setTop (mkF m 41 #[rv a1, iv (1 : Int32), rv a3, iv (1 : Int32), iv (2 : Int32), iv (1 : Int32), iv c0] []))
  refine own_go (XS.goto X3.here hx rfl (pc0 := 41) (pc' := 3) rfl (hb hby d5_41) (by decide) (by decide) (Steps.refl _)) ?_
  show own_Fin _ _ _ _ (T3.setTop (mkF m 3 #[rv a1, iv (1 : Int32), rv a3, iv (1 : Int32), iv (2 : Int32), iv (1 : Int32), iv c0] []))
  refine own_go (XS.iload X3.here hx rfl (hb hby d5_3) rfl (Steps.refl _)) ?_
  show own_Fin _ _ _ _ (T3.setTop (mkF m 5 #[rv a1, iv (1 : Int32), rv a3, iv (1 : Int32), iv (2 : Int32), iv (1 : Int32), iv c0] [(.int (1 : Int32))]))
  refine own_go (XS.iload X3.here hx rfl (hb hby d5_5) rfl (Steps.refl _)) ?_
  show own_Fin _ _ _ _ (T3.setTop (mkF m 7 #[rv a1, iv (1 : Int32), rv a3, iv (1 : Int32), iv (2 : Int32), iv (1 : Int32), iv c0] [(.int (2 : Int32)), (.int (1 : Int32))]))
  refine own_go (XS.icmpNo X3.here hx rfl (hb hby d5_7) rfl (tlt (by decide : (1 : Int32) < (2 : Int32))).2.1 (Steps.refl _)) ?_
  show own_Fin _ _ _ _ (T3.setTop (mkF m 10 #[rv a1, iv (1 : Int32), rv a3, iv (1 : Int32), iv (2 : Int32), iv (1 : Int32), iv c0] []))
  refine own_go (XS.aloadN X3.here hx rfl (hb hby d5_10) rfl rfl (Steps.refl _)) ?_
  show own_Fin _ _ _ _ (T3.setTop (mkF m 11 #[rv a1, iv (1 : Int32), rv a3, iv (1 : Int32), iv (2 : Int32), iv (1 : Int32), iv c0] [(.ref a1)]))
  refine own_go (XS.iloadN X3.here hx rfl (hb hby d5_11) rfl (Steps.refl _)) ?_
  show own_Fin _ _ _ _ (T3.setTop (mkF m 12 #[rv a1, iv (1 : Int32), rv a3, iv (1 : Int32), iv (2 : Int32), iv (1 : Int32), iv c0] [(.int (1 : Int32)), (.ref a1)]))
  obtain ⟨cl4, Ar4, qa4, Sa4, Na4, Ha4, Ga4⟩ := id V_a1_3
  have hin4 : ¬ ((1 : Int32) < 0 ∨ cl4.slots.size ≤ ((1 : Int32)).toNatClampNeg) := inb_of Sa4 ⟨by decide, by decide⟩
  have hat4 : cl4.slots[((1 : Int32)).toNatClampNeg]? = some (.int c1) := Has.at Ha4 hin4 rfl
  refine own_by (X3.caload hx (j := (1 : Int32)) (v := (.int c1)) (by rw [e3]; exact Ar4.1) (State.isArrayOf_alike hZ.alike Ar4.2.1) Ar4.2.2 hin4 hat4 (g := (mkF m 12 #[rv a1, iv (1 : Int32), rv a3, iv (1 : Int32), iv (2 : Int32), iv (1 : Int32), iv c0] [(.int (1 : Int32)), (.ref a1)])) rfl rfl (hb hby d5_12)) ?_
  show own_Fin _ _ _ _ (T3.setTop (mkF m 13 #[rv a1, iv (1 : Int32), rv a3, iv (1 : Int32), iv (2 : Int32), iv (1 : Int32), iv c0] [(.int c1)]))
  refine own_go (XS.istore X3.here hx rfl (hb hby d5_13) rfl rfl (Steps.refl _)) ?_
  show own_Fin _ _ _ _ (T3.setTop (mkF m 15 #[rv a1, iv (1 : Int32), rv a3, iv (1 : Int32), iv (2 : Int32), iv (1 : Int32), iv c1] []))
  refine own_go (XS.iload X3.here hx rfl (hb hby d5_15) rfl (Steps.refl _)) ?_
  show own_Fin _ _ _ _ (T3.setTop (mkF m 17 #[rv a1, iv (1 : Int32), rv a3, iv (1 : Int32), iv (2 : Int32), iv (1 : Int32), iv c1] [(.int c1)]))
  refine own_go (XS.sipush X3.here hx rfl (hb hby d5_17) (Steps.refl _)) ?_
  show own_Fin _ _ _ _ (T3.setTop (mkF m 20 #[rv a1, iv (1 : Int32), rv a3, iv (1 : Int32), iv (2 : Int32), iv (1 : Int32), iv c1] [(.int (255 : Int32)), (.int c1)]))
  refine own_go (XS.icmpYes X3.here hx rfl (pc0 := 20) (pc' := 26) rfl (hb hby d5_20) rfl (flt (show ¬ ((255 : Int32) < c1) from hc1)).2.2.2 (by decide) (by decide) (Steps.refl _)) ?_
  show own_Fin _ _ _ _ (T3.setTop (mkF m 26 #[rv a1, iv (1 : Int32), rv a3, iv (1 : Int32), iv (2 : Int32), iv (1 : Int32), iv c1] []))
  refine own_go (XS.aloadN X3.here hx rfl (hb hby d5_26) rfl rfl (Steps.refl _)) ?_
  show own_Fin _ _ _ _ (T3.setTop (mkF m 27 #[rv a1, iv (1 : Int32), rv a3, iv (1 : Int32), iv (2 : Int32), iv (1 : Int32), iv c1] [(.ref a3)]))
  refine own_go (XS.iloadN X3.here hx rfl (hb hby d5_27) rfl (Steps.refl _)) ?_
  show own_Fin _ _ _ _ (T3.setTop (mkF m 28 #[rv a1, iv (1 : Int32), rv a3, iv (1 : Int32), iv (2 : Int32), iv (1 : Int32), iv c1] [(.int (1 : Int32)), (.ref a3)]))
  refine own_go (XS.iload X3.here hx rfl (hb hby d5_28) rfl (Steps.refl _)) ?_
  show own_Fin _ _ _ _ (T3.setTop (mkF m 30 #[rv a1, iv (1 : Int32), rv a3, iv (1 : Int32), iv (2 : Int32), iv (1 : Int32), iv c1] [(.int c1), (.int (1 : Int32)), (.ref a3)]))
  refine own_go (XS.i2b X3.here hx rfl (hb hby d5_30) rfl (Steps.refl _)) ?_
  show own_Fin _ _ _ _ (T3.setTop (mkF m 31 #[rv a1, iv (1 : Int32), rv a3, iv (1 : Int32), iv (2 : Int32), iv (1 : Int32), iv c1] [(.int (c1.toInt8.toInt32)), (.int (1 : Int32)), (.ref a3)]))
  obtain ⟨cl5, Ar5, qa5, Sa5, Na5, Ha5, Ga5⟩ := id V_a3_3
  have hin5 : ¬ ((1 : Int32) < 0 ∨ cl5.slots.size ≤ ((1 : Int32)).toNatClampNeg) := inb_of Sa5 ⟨by decide, by decide⟩
  obtain ⟨T6, h6, X6, e6, W6, st6⟩ := stB X3 hx hZ e3 Ar5 (j := (1 : Int32)) hin5 (g := (mkF m 31 #[rv a1, iv (1 : Int32), rv a3, iv (1 : Int32), iv (2 : Int32), iv (1 : Int32), iv c1] [(.int (c1.toInt8.toInt32)), (.int (1 : Int32)), (.ref a3)])) rfl rfl (hb hby d5_31)
  refine own_by st6 ?_
  have V_a3_6 : Arv Z h6 a3 kb .byte (2 : Int32) [(.int (nar .byte (c0.toInt8.toInt32))), (.int (nar .byte (c1.toInt8.toInt32)))] (.int (0 : Int32)) := Arv.set Ar5 qa5 Sa5 Na5 Ha5 Ga5 (fits_nar_byte (c1.toInt8.toInt32)) W6 1 rfl (Nat.le_of_ble_eq_true rfl)
  have V_a1_6 := V_a1_3.other W6 ne13
  have N6 := Fr.snoc X6 N3 g_a3
  have Z6 : n0 ≤ h6.size := Nat.le_trans Z3 (Keep.of_wr W6).1
  have K6 := K3.wr W6 (Or.inl (List.mem_of_getElem? (i := 0) rfl))
  show own_Fin _ _ _ _ (T6.setTop (mkF m 32 #[rv a1, iv (1 : Int32), rv a3, iv (1 : Int32), iv (2 : Int32), iv (1 : Int32), iv c1] []))
  refine own_go (XS.iinc X6.here hx rfl (hb hby d5_32) rfl rfl (Steps.refl _)) ?_
  show own_Fin _ _ _ _ (T6.setTop (mkF m 35 #[rv a1, iv (2 : Int32), rv a3, iv (1 : Int32), iv (2 : Int32), iv (1 : Int32), iv c1] []))
  refine own_go (XS.iinc X6.here hx rfl (hb hby d5_35) rfl rfl (Steps.refl _)) ?_
  show own_Fin _ _ _ _ (T6.setTop (mkF m 38 #[rv a1, iv (2 : Int32), rv a3, iv (2 : Int32), iv (2 : Int32), iv (1 : Int32), iv c1] []))
  refine own_go (XS.iinc X6.here hx rfl (hb hby d5_38) rfl rfl (Steps.refl _)) ?_
  show own_Fin _ _ _ _ (T6.setTop (mkF m 41 #[rv a1, iv (2 : Int32), rv a3, iv (2 : Int32), iv (2 : Int32), iv (2 : Int32), iv c1] []))
  refine own_go (XS.goto X6.here hx rfl (pc0 := 41) (pc' := 3) rfl (hb hby d5_41) (by decide) (by decide) (Steps.refl _)) ?_
  show own_Fin _ _ _ _ (T6.setTop (mkF m 3 #[rv a1, iv (2 : Int32), rv a3, iv (2 : Int32), iv (2 : Int32), iv (2 : Int32), iv c1] []))
  refine own_go (XS.iload X6.here hx rfl (hb hby d5_3) rfl (Steps.refl _)) ?_
  show own_Fin _ _ _ _ (T6.setTop (mkF m 5 #[rv a1, iv (2 : Int32), rv a3, iv (2 : Int32), iv (2 : Int32), iv (2 : Int32), iv c1] [(.int (2 : Int32))]))
  refine own_go (XS.iload X6.here hx rfl (hb hby d5_5) rfl (Steps.refl _)) ?_
  show own_Fin _ _ _ _ (T6.setTop (mkF m 7 #[rv a1, iv (2 : Int32), rv a3, iv (2 : Int32), iv (2 : Int32), iv (2 : Int32), iv c1] [(.int (2 : Int32)), (.int (2 : Int32))]))
  refine own_go (XS.icmpYes X6.here hx rfl (pc0 := 7) (pc' := 44) rfl (hb hby d5_7) rfl (flt (by decide : ¬ ((2 : Int32) < (2 : Int32)))).2.1 (by decide) (by decide) (Steps.refl _)) ?_
  show own_Fin _ _ _ _ (T6.setTop (mkF m 44 #[rv a1, iv (2 : Int32), rv a3, iv (2 : Int32), iv (2 : Int32), iv (2 : Int32), iv c1] []))
  refine own_go (XS.iload X6.here hx rfl (hb hby d5_44) rfl (Steps.refl _)) ?_
  show own_Fin _ _ _ _ (T6.setTop (mkF m 46 #[rv a1, iv (2 : Int32), rv a3, iv (2 : Int32), iv (2 : Int32), iv (2 : Int32), iv c1] [(.int (2 : Int32))]))
  obtain ⟨fs7, hr7, hrun7, hended7, hW7, hsame7⟩ := X6.leave (v := some (.int (2 : Int32))) (fun h => by rw [Bd.returns] at h; cases h)
  refine own_done (own_retI X6 hx Bd.returns (hb hby d5_46) hr7) hrun7 hended7 ⟨_, _, rfl, ?_, ⟨_, rfl⟩, hW7, hsame7.mono (by decide) (by decide)⟩
  show Qcm_2 Z a1 k c0 c1 a3 kb h0 n0 _ T6.heap _
  rw [e6]
  exact ⟨rfl, N6, K6, V_a3_6⟩
theorem d4_0 : decode jdk_52_method_16_code 0 = .ok (.iload_n 2, 1) := by decide +kernel
theorem d4_1 : decode jdk_52_method_16_code 1 = .ok (.newarray .byte, 2) := by decide +kernel
theorem d4_3 : decode jdk_52_method_16_code 3 = .ok (.astore_n 3, 1) := by decide +kernel
theorem d4_4 : decode jdk_52_method_16_code 4 = .ok (.aload_n 0, 1) := by decide +kernel
theorem d4_5 : decode jdk_52_method_16_code 5 = .ok (.iload_n 1, 1) := by decide +kernel
theorem d4_6 : decode jdk_52_method_16_code 6 = .ok (.aload_n 3, 1) := by decide +kernel
theorem d4_7 : decode jdk_52_method_16_code 7 = .ok (.iconst 0, 1) := by decide +kernel
theorem d4_8 : decode jdk_52_method_16_code 8 = .ok (.iload_n 2, 1) := by decide +kernel
theorem d4_9 : decode jdk_52_method_16_code 9 = .ok (.invokestatic 115, 3) := by decide +kernel
theorem d4_12 : decode jdk_52_method_16_code 12 = .ok (.istore 4, 2) := by decide +kernel
theorem d4_14 : decode jdk_52_method_16_code 14 = .ok (.iload 4, 2) := by decide +kernel
theorem d4_16 : decode jdk_52_method_16_code 16 = .ok (.iload_n 2, 1) := by decide +kernel
theorem d4_17 : decode jdk_52_method_16_code 17 = .ok (.if_icmp .eq 40, 3) := by decide +kernel
theorem d4_20 : decode jdk_52_method_16_code 20 = .ok (.aload_n 0, 1) := by decide +kernel
theorem d4_21 : decode jdk_52_method_16_code 21 = .ok (.iload_n 1, 1) := by decide +kernel
theorem d4_22 : decode jdk_52_method_16_code 22 = .ok (.iload_n 2, 1) := by decide +kernel
theorem d4_23 : decode jdk_52_method_16_code 23 = .ok (.invokestatic 119, 3) := by decide +kernel
theorem d4_26 : decode jdk_52_method_16_code 26 = .ok (.astore 5, 2) := by decide +kernel
theorem d4_28 : decode jdk_52_method_16_code 28 = .ok (.aload 5, 2) := by decide +kernel
theorem d4_30 : decode jdk_52_method_16_code 30 = .ok (.iload 4, 2) := by decide +kernel
theorem d4_32 : decode jdk_52_method_16_code 32 = .ok (.invokestatic 71, 3) := by decide +kernel
theorem d4_35 : decode jdk_52_method_16_code 35 = .ok (.sipush 255, 3) := by decide +kernel
theorem d4_38 : decode jdk_52_method_16_code 38 = .ok (.if_icmp .gt 16, 3) := by decide +kernel
theorem d4_41 : decode jdk_52_method_16_code 41 = .ok (.aload 5, 2) := by decide +kernel
theorem d4_43 : decode jdk_52_method_16_code 43 = .ok (.iconst 0, 1) := by decide +kernel
theorem d4_44 : decode jdk_52_method_16_code 44 = .ok (.aload_n 3, 1) := by decide +kernel
theorem d4_45 : decode jdk_52_method_16_code 45 = .ok (.iconst 0, 1) := by decide +kernel
theorem d4_46 : decode jdk_52_method_16_code 46 = .ok (.iload_n 2, 1) := by decide +kernel
theorem d4_47 : decode jdk_52_method_16_code 47 = .ok (.invokestatic 123, 3) := by decide +kernel
theorem d4_50 : decode jdk_52_method_16_code 50 = .ok (.iload_n 2, 1) := by decide +kernel
theorem d4_51 : decode jdk_52_method_16_code 51 = .ok (.if_icmp .eq 6, 3) := by decide +kernel
theorem d4_54 : decode jdk_52_method_16_code 54 = .ok (.aload 5, 2) := by decide +kernel
theorem d4_56 : decode jdk_52_method_16_code 56 = .ok (.areturn, 1) := by decide +kernel
theorem d4_57 : decode jdk_52_method_16_code 57 = .ok (.aload_n 3, 1) := by decide +kernel
theorem d4_58 : decode jdk_52_method_16_code 58 = .ok (.areturn, 1) := by decide +kernel
theorem ef_c3_2 (m : MethodId) (x0 : Addr) (x1 : Int32) (x2 : Int32) : entryFrame m #[(.ref x0), (.int x1), (.int x2)] 6 = mkF m 0 #[.val (.ref x0), .val (.int x1), .val (.int x2), .unset, .unset, .unset] [] := by first | (simp [entryFrame, mkF, argsToLocals, Value.category]; done) | rfl
def Qc3_2 (Z : State) (a1 : Addr) (k : ClassId) (c0 : Int32) (c1 : Int32) (h0 : Heap) (n0 : Nat) (v : Option Value) (h : Heap) (L : List Loc) : Prop := ∃ (b : Addr) (kb : ClassId), v = some (.ref b) ∧ Fr n0 L ∧ Keep h0 h [] ∧ n0 ≤ b ∧ h0.size ≤ b ∧ Arv Z h b kb .byte (2 : Int32) [(.int (nar .byte (c0.toInt8.toInt32))), (.int (nar .byte (c1.toInt8.toInt32)))] (.int (0 : Int32))
abbrev Gc3_2 (Z : State) (a1 : Addr) (k : ClassId) (c0 : Int32) (c1 : Int32) (h0 : Heap) (n0 : Nat) (s : State) : Outcome → State → Prop := fun o U' => ∃ v L, o = .returned v ∧ Qc3_2 Z a1 k c0 c1 h0 n0 v U'.heap L ∧ FrameEnd s o U' L ({ frames := 1, cells := 1, slots := 2, locals := 24 } : Room).cells ({ frames := 1, cells := 1, slots := 2, locals := 24 } : Room).slots
theorem pd__28__5b_CI_5b_BII_29_I : parseMethodDescriptor "([CI[BII)I" = some ⟨[(.array .char), .int, (.array .byte), .int, .int], some .int⟩ := by decide +kernel
set_option maxRecDepth 65536 in
set_option maxHeartbeats 40000000 in
theorem rmc3_2 (l : Launch) (Z : State) (a0 : Array Value) (hw : ∀ d ∈ tables_1, d.before a0 Z = true) (ws : List Jvm.Cond) (a1 : Addr) (k : ClassId) (c0 : Int32) (c1 : Int32) (h0 : Heap) (n0 : Nat) (Z0 : n0 ≤ h0.size) (V_a1 : Arv Z h0 a1 k .char (2 : Int32) [(.int c0), (.int c1)] (.int (0 : Int32))) (hc0 : ¬ (255 : Int32) < c0) (hc1 : ¬ (255 : Int32) < c1) :
    MetFree l (⟨"java/lang/StringUTF16", "compress", "([CII)[B"⟩ : MethodName) (head1 (Jvm.Cond.code (⟨"java/lang/StringUTF16", "compress", "([CII)[B"⟩ : MethodName) jdk_52_method_16_code 6 (some (.array .byte)) :: ws) ({ frames := 1, cells := 1, slots := 2, locals := 24 } : Room)) (fun a U => a = #[(.ref a1), (.int (0 : Int32)), (.int (2 : Int32))] ∧ Z.Warmed39 U.vm ∧ U.heap = h0) (fun _ _ _ _ _ => True) (fun _ U o U' => ∃ v L, o = .returned v ∧ Qc3_2 Z a1 k c0 c1 h0 n0 v U'.heap L ∧ FrameEnd U o U' L ({ frames := 1, cells := 1, slots := 2, locals := 24 } : Room).cells ({ frames := 1, cells := 1, slots := 2, locals := 24 } : Room).slots) := by
  refine MetFree.of_bodySF (plainFor_of_name pn_java_lang_StringUTF16) hisR ?_
  intro p e s m args below meth c s₁ Bd hml0 hP hK
  obtain ⟨rfl, hZ, hh⟩ := hP
  have hx := Bd.exec
  have hby := Bd.bytes
  have hml : c.maxLocals = 6 := hml0
  have hown : s.vm.findClass "java/lang/StringUTF16" = some m.cls := findClass_of_methodNamed Bd.named
  have hnm := (name_of_methodNamed Bd.named Bd.method).1
  have X0 : Stand p l e ({ frames := 1, cells := 1, slots := 2, locals := 24 } : Room) s m #[(.ref a1), (.int (0 : Int32)), (.int (2 : Int32))] below meth c s₁ [] 0 0 := Stand.of_body Bd
  have e0 : s₁.heap = h0 := by rw [← hh, Bd.state]; rfl
  have es0 : s.heap = h0 := hh
  have N0 := Fr.nil n0
  show own_Fin p e below (Gc3_2 Z a1 k c0 c1 h0 n0 s) (s₁.setTop (entryFrame m #[(.ref a1), (.int (0 : Int32)), (.int (2 : Int32))] 6))
  rw [ef_c3_2 m a1 (0 : Int32) (2 : Int32)]
  have Kz := Keep.refl h0 []
  refine own_go (XS.iloadN X0.here hx rfl (hb hby d4_0) rfl (Steps.refl _)) ?_
  show own_Fin _ _ _ _ (s₁.setTop (mkF m 1 #[rv a1, iv (0 : Int32), iv (2 : Int32), .unset, .unset, .unset] [(.int (2 : Int32))]))
  obtain ⟨T8, h8, k8, X8, e8, E8, A8, st8⟩ := newP X0 hx hZ (hw _ (List.mem_of_getElem? (i := 20) rfl)) e0 (g := (mkF m 1 #[rv a1, iv (0 : Int32), iv (2 : Int32), .unset, .unset, .unset] [(.int (2 : Int32))])) rfl (hb hby d4_1) rfl (by decide) (cap := 2) (by decide) (by decide) (by decide) (by decide)
  obtain ⟨b8, g8⟩ : ∃ z, z = h0.size := ⟨_, rfl⟩
  rw [← g8] at A8 st8
  refine own_by st8 ?_
  have ne_a1_b8 : a1 ≠ b8 := Nat.ne_of_lt (Nat.lt_of_lt_of_eq V_a1.lt g8.symm)
  have V_a1_8 := V_a1.ext E8
  have g_b8 : n0 ≤ b8 := Nat.le_trans Z0 (Nat.le_of_eq g8.symm)
  have sz_b8 : h0.size ≤ b8 := Nat.le_trans Kz.1 (Nat.le_of_eq g8.symm)
  have K8 := Kz.ext E8
  have Z8 : n0 ≤ h8.size := Nat.le_trans Z0 E8.1
  have V_b8 : Arv Z h8 b8 k8 .byte (2 : Int32) [(.int (0 : Int32)), (.int (0 : Int32))] (.int (0 : Int32)) := (Arv.new A8 (by decide)).pad (pad_rep [] (.int (0 : Int32)) 2)
  show own_Fin _ _ _ _ (T8.setTop (mkF m 3 #[rv a1, iv (0 : Int32), iv (2 : Int32), .unset, .unset, .unset] [(.ref b8)]))
  refine own_go (XS.astoreN X8.here hx rfl (hb hby d4_3) rfl rfl rfl (Steps.refl _)) ?_
  show own_Fin _ _ _ _ (T8.setTop (mkF m 4 #[rv a1, iv (0 : Int32), iv (2 : Int32), rv b8, .unset, .unset] []))
  refine own_go (XS.aloadN X8.here hx rfl (hb hby d4_4) rfl rfl (Steps.refl _)) ?_
  show own_Fin _ _ _ _ (T8.setTop (mkF m 5 #[rv a1, iv (0 : Int32), iv (2 : Int32), rv b8, .unset, .unset] [(.ref a1)]))
  refine own_go (XS.iloadN X8.here hx rfl (hb hby d4_5) rfl (Steps.refl _)) ?_
  show own_Fin _ _ _ _ (T8.setTop (mkF m 6 #[rv a1, iv (0 : Int32), iv (2 : Int32), rv b8, .unset, .unset] [(.int (0 : Int32)), (.ref a1)]))
  refine own_go (XS.aloadN X8.here hx rfl (hb hby d4_6) rfl rfl (Steps.refl _)) ?_
  show own_Fin _ _ _ _ (T8.setTop (mkF m 7 #[rv a1, iv (0 : Int32), iv (2 : Int32), rv b8, .unset, .unset] [(.ref b8), (.int (0 : Int32)), (.ref a1)]))
  refine own_go (XS.iconst X8.here hx rfl (hb hby d4_7) (Steps.refl _)) ?_
  show own_Fin _ _ _ _ (T8.setTop (mkF m 8 #[rv a1, iv (0 : Int32), iv (2 : Int32), rv b8, .unset, .unset] [(.int (0 : Int32)), (.ref b8), (.int (0 : Int32)), (.ref a1)]))
  refine own_go (XS.iloadN X8.here hx rfl (hb hby d4_8) rfl (Steps.refl _)) ?_
  show own_Fin _ _ _ _ (T8.setTop (mkF m 9 #[rv a1, iv (0 : Int32), iv (2 : Int32), rv b8, .unset, .unset] [(.int (2 : Int32)), (.int (0 : Int32)), (.ref b8), (.int (0 : Int32)), (.ref a1)]))
  obtain ⟨_, _, ⟨T9, L9, k9, n9⟩, -, X9, ⟨Lc9, hQ9, l9, y9, z9⟩, st9⟩ := Jvm.LawKit.callS X8 hx (y := (⟨"java/lang/StringUTF16", "compress", "([CI[BII)I"⟩ : MethodName)) hown (mvT hZ (hw _ (List.mem_of_getElem? (i := 21) rfl))) (mvT hZ (hw _ (List.mem_of_getElem? (i := 22) rfl))) (mvT hZ (hw _ (List.mem_of_getElem? (i := 18) rfl))) (mvT hZ (hw _ (List.mem_of_getElem? (i := 23) rfl))) (by decide) (backOf (W := 0) (rmcm_2 l Z a0 hw [] a1 k c0 c1 b8 k8 h8 n0 Z8 V_a1_8 V_b8 g_b8 ne_a1_b8 hc0 hc1) hZ (hw _ (List.mem_of_getElem? (i := 23) rfl)) (hw _ (List.mem_of_getElem? (i := 18) rfl)) (by decide) (by decide)) (g := (mkF m 9 #[rv a1, iv (0 : Int32), iv (2 : Int32), rv b8, .unset, .unset] [(.int (2 : Int32)), (.int (0 : Int32)), (.ref b8), (.int (0 : Int32)), (.ref a1)])) rfl (by rw [hml]; rfl) (argsL := [(.ref a1), (.int (0 : Int32)), (.ref b8), (.int (0 : Int32)), (.int (2 : Int32))]) (rest := []) (lenOf pd__28__5b_CI_5b_BII_29_I rfl) rfl (by show 2 * 0 + _ ≤ _; exact Nat.le_of_eq rfl) (hb hby d4_9) (fun _ _ => ⟨rfl, e8, (by decide : 1 + 0 ≤ _), (by decide : 2 + 0 ≤ _)⟩)
  dsimp only [Pt.U, Pt.locs, Pt.cells, Pt.slots] at X9 l9 y9 z9 st9 hQ9
  subst l9 y9 z9
  refine own_by st9 ?_
  obtain ⟨rfl, Nq9, K9, r9_0⟩ := hQ9
  have V_a1_9 := V_a1_8.keep K9 (ninS ne_a1_b8 nin0)
  have Z9 : n0 ≤ T9.heap.size := Nat.le_trans Z8 K9.1
  have Kt9 := K8.trans K9 (allS (P := fun x => x ∈ _ ∨ _ ≤ x) (Or.inr sz_b8) all0)
  have N9 := Fr.app N0 Nq9
  show own_Fin _ _ _ _ (T9.setTop (mkF m 12 #[rv a1, iv (0 : Int32), iv (2 : Int32), rv b8, .unset, .unset] [(.int (2 : Int32))]))
  refine own_go (XS.istore X9.here hx rfl (hb hby d4_12) rfl rfl (Steps.refl _)) ?_
  show own_Fin _ _ _ _ (T9.setTop (mkF m 14 #[rv a1, iv (0 : Int32), iv (2 : Int32), rv b8, iv (2 : Int32), .unset] []))
  refine own_go (XS.iload X9.here hx rfl (hb hby d4_14) rfl (Steps.refl _)) ?_
  show own_Fin _ _ _ _ (T9.setTop (mkF m 16 #[rv a1, iv (0 : Int32), iv (2 : Int32), rv b8, iv (2 : Int32), .unset] [(.int (2 : Int32))]))
  refine own_go (XS.iloadN X9.here hx rfl (hb hby d4_16) rfl (Steps.refl _)) ?_
  show own_Fin _ _ _ _ (T9.setTop (mkF m 17 #[rv a1, iv (0 : Int32), iv (2 : Int32), rv b8, iv (2 : Int32), .unset] [(.int (2 : Int32)), (.int (2 : Int32))]))
  refine own_go (XS.icmpYes X9.here hx rfl (pc0 := 17) (pc' := 57) rfl (hb hby d4_17) rfl (teq (by decide : (2 : Int32) = (2 : Int32))).1 (by decide) (by decide) (Steps.refl _)) ?_
  show own_Fin _ _ _ _ (T9.setTop (mkF m 57 #[rv a1, iv (0 : Int32), iv (2 : Int32), rv b8, iv (2 : Int32), .unset] []))
  refine own_go (XS.aloadN X9.here hx rfl (hb hby d4_57) rfl rfl (Steps.refl _)) ?_
  show own_Fin _ _ _ _ (T9.setTop (mkF m 58 #[rv a1, iv (0 : Int32), iv (2 : Int32), rv b8, iv (2 : Int32), .unset] [(.ref b8)]))
  obtain ⟨fs10, hr10, hrun10, hended10, hW10, hsame10⟩ := X9.leave (v := some (.ref b8)) (fun h => by rw [Bd.returns] at h; cases h)
  refine own_done (retOut X9 hx Bd.returns rfl (Or.inr (Or.inr (Or.inr (Or.inr ⟨rfl, rfl, rfl⟩)))) (hb hby d4_58) hr10) hrun10 hended10 ⟨_, _, rfl, ?_, ⟨_, rfl⟩, hW10, hsame10.mono (by decide) (by decide)⟩
  show Qc3_2 Z a1 k c0 c1 h0 n0 _ T9.heap _
  exact ⟨b8, k8, rfl, N9, Kt9, g_b8, sz_b8, r9_0⟩
theorem d6_0 : decode jdk_52_method_15_code 0 = .ok (.iload_n 1, 1) := by decide +kernel
theorem d6_1 : decode jdk_52_method_15_code 1 = .ok (.aload_n 0, 1) := by decide +kernel
theorem d6_2 : decode jdk_52_method_15_code 2 = .ok (.arraylength, 1) := by decide +kernel
theorem d6_3 : decode jdk_52_method_15_code 3 = .ok (.isub, 1) := by decide +kernel
theorem d6_4 : decode jdk_52_method_15_code 4 = .ok (.bipush 31, 2) := by decide +kernel
theorem d6_6 : decode jdk_52_method_15_code 6 = .ok (.iushr, 1) := by decide +kernel
theorem d6_7 : decode jdk_52_method_15_code 7 = .ok (.i2b, 1) := by decide +kernel
theorem d6_8 : decode jdk_52_method_15_code 8 = .ok (.ireturn, 1) := by decide +kernel
theorem ef_cf_2 (m : MethodId) (x0 : Addr) (x1 : Int32) : entryFrame m #[(.ref x0), (.int x1)] 2 = mkF m 0 #[.val (.ref x0), .val (.int x1)] [] := by first | (simp [entryFrame, mkF, argsToLocals, Value.category]; done) | rfl
def Qcf_2 (Z : State) (a1 : Addr) (k : ClassId) (c0 : Int32) (c1 : Int32) (h0 : Heap) (n0 : Nat) (v : Option Value) (h : Heap) (L : List Loc) : Prop := v = some (.int (0 : Int32)) ∧ Fr n0 L ∧ h = h0
abbrev Gcf_2 (Z : State) (a1 : Addr) (k : ClassId) (c0 : Int32) (c1 : Int32) (h0 : Heap) (n0 : Nat) (s : State) : Outcome → State → Prop := fun o U' => ∃ v L, o = .returned v ∧ Qcf_2 Z a1 k c0 c1 h0 n0 v U'.heap L ∧ FrameEnd s o U' L ({ frames := 0, cells := 0, slots := 0, locals := 0 } : Room).cells ({ frames := 0, cells := 0, slots := 0, locals := 0 } : Room).slots
set_option maxRecDepth 65536 in
set_option maxHeartbeats 40000000 in
theorem rmcf_2 (l : Launch) (Z : State) (a0 : Array Value) (hw : ∀ d ∈ tables_1, d.before a0 Z = true) (ws : List Jvm.Cond) (a1 : Addr) (k : ClassId) (c0 : Int32) (c1 : Int32) (h0 : Heap) (n0 : Nat) (Z0 : n0 ≤ h0.size) (V_a1 : Arv Z h0 a1 k .byte (2 : Int32) [(.int (nar .byte (c0.toInt8.toInt32))), (.int (nar .byte (c1.toInt8.toInt32)))] (.int (0 : Int32))) :
    MetFree l (⟨"java/lang/StringUTF16", "coderFromArrayLen", "([BI)B"⟩ : MethodName) (head1 (Jvm.Cond.code (⟨"java/lang/StringUTF16", "coderFromArrayLen", "([BI)B"⟩ : MethodName) jdk_52_method_15_code 2 (some .byte) :: ws) ({ frames := 0, cells := 0, slots := 0, locals := 0 } : Room)) (fun a U => a = #[(.ref a1), (.int (2 : Int32))] ∧ Z.Warmed39 U.vm ∧ U.heap = h0) (fun _ _ _ _ _ => True) (fun _ U o U' => ∃ v L, o = .returned v ∧ Qcf_2 Z a1 k c0 c1 h0 n0 v U'.heap L ∧ FrameEnd U o U' L ({ frames := 0, cells := 0, slots := 0, locals := 0 } : Room).cells ({ frames := 0, cells := 0, slots := 0, locals := 0 } : Room).slots) := by
  refine MetFree.of_bodySF (plainFor_of_name pn_java_lang_StringUTF16) hisR ?_
  intro p e s m args below meth c s₁ Bd hml0 hP hK
  obtain ⟨rfl, hZ, hh⟩ := hP
  have hx := Bd.exec
  have hby := Bd.bytes
  have hml : c.maxLocals = 2 := hml0
  have hown : s.vm.findClass "java/lang/StringUTF16" = some m.cls := findClass_of_methodNamed Bd.named
  have hnm := (name_of_methodNamed Bd.named Bd.method).1
  have X0 : Stand p l e ({ frames := 0, cells := 0, slots := 0, locals := 0 } : Room) s m #[(.ref a1), (.int (2 : Int32))] below meth c s₁ [] 0 0 := Stand.of_body Bd
  have e0 : s₁.heap = h0 := by rw [← hh, Bd.state]; rfl
  have es0 : s.heap = h0 := hh
  have N0 := Fr.nil n0
  show own_Fin p e below (Gcf_2 Z a1 k c0 c1 h0 n0 s) (s₁.setTop (entryFrame m #[(.ref a1), (.int (2 : Int32))] 2))
  rw [ef_cf_2 m a1 (2 : Int32)]
  refine own_go (XS.iloadN X0.here hx rfl (hb hby d6_0) rfl (Steps.refl _)) ?_
  show own_Fin _ _ _ _ (s₁.setTop (mkF m 1 #[rv a1, iv (2 : Int32)] [(.int (2 : Int32))]))
  refine own_go (XS.aloadN X0.here hx rfl (hb hby d6_1) rfl rfl (Steps.refl _)) ?_
  show own_Fin _ _ _ _ (s₁.setTop (mkF m 2 #[rv a1, iv (2 : Int32)] [(.ref a1), (.int (2 : Int32))]))
  obtain ⟨cl11, Ar11, qa11, Sa11, Na11, Ha11, Ga11⟩ := id V_a1
  refine own_by (X0.arraylength hx (by rw [e0]; exact Ar11.1) (State.isArrayOf_alike hZ.alike Ar11.2.1) (g := (mkF m 2 #[rv a1, iv (2 : Int32)] [(.ref a1), (.int (2 : Int32))])) rfl rfl (hb hby d6_2)) ?_
  rw [len_of Sa11 Na11]
  show own_Fin _ _ _ _ (s₁.setTop (mkF m 3 #[rv a1, iv (2 : Int32)] [(.int (2 : Int32)), (.int (2 : Int32))]))
  refine own_go (XS.isub X0.here hx rfl (hb hby d6_3) rfl (Steps.refl _)) ?_
  show own_Fin _ _ _ _ (s₁.setTop (mkF m 4 #[rv a1, iv (2 : Int32)] [(.int (0 : Int32))]))
  refine own_go (XS.bipush X0.here hx rfl (hb hby d6_4) (Steps.refl _)) ?_
  show own_Fin _ _ _ _ (s₁.setTop (mkF m 6 #[rv a1, iv (2 : Int32)] [(.int (31 : Int32)), (.int (0 : Int32))]))
  refine own_go (XS.iushr X0.here hx rfl (hb hby d6_6) rfl (Steps.refl _)) ?_
  show own_Fin _ _ _ _ (s₁.setTop (mkF m 7 #[rv a1, iv (2 : Int32)] [(.int (((0 : Int32).toUInt32 >>> ((31 : Int32) &&& 31).toUInt32).toInt32))]))
  refine own_go (XS.i2b X0.here hx rfl (hb hby d6_7) rfl (Steps.refl _)) ?_
  show own_Fin _ _ _ _ (s₁.setTop (mkF m 8 #[rv a1, iv (2 : Int32)] [(.int ((((0 : Int32).toUInt32 >>> ((31 : Int32) &&& 31).toUInt32).toInt32).toInt8.toInt32))]))
  obtain ⟨fs12, hr12, hrun12, hended12, hW12, hsame12⟩ := X0.leave (v := some (.int ((((0 : Int32).toUInt32 >>> ((31 : Int32) &&& 31).toUInt32).toInt32).toInt8.toInt32))) (fun h => by rw [Bd.returns] at h; cases h)
  refine own_done (retN X0 hx (t := .byte) Bd.returns (by simp) (hb hby d6_8) hr12) hrun12 hended12 ⟨_, _, rfl, ?_, ⟨_, rfl⟩, hW12, hsame12.mono (by decide) (by decide)⟩
  show Qcf_2 Z a1 k c0 c1 h0 n0 _ s₁.heap _
  rw [e0]
  exact ⟨(by decide), N0, rfl⟩
theorem d2_0 : decode jdk_42_method_149_code 0 = .ok (.aload_n 0, 1) := by decide +kernel
theorem d2_1 : decode jdk_42_method_149_code 1 = .ok (.invokespecial 1, 3) := by decide +kernel
theorem d2_4 : decode jdk_42_method_149_code 4 = .ok (.iload_n 3, 1) := by decide +kernel
theorem d2_5 : decode jdk_42_method_149_code 5 = .ok (.ifCond .ne 22, 3) := by decide +kernel
theorem d2_8 : decode jdk_42_method_149_code 8 = .ok (.aload_n 0, 1) := by decide +kernel
theorem d2_9 : decode jdk_42_method_149_code 9 = .ok (.ldc 7, 2) := by decide +kernel
theorem d2_11 : decode jdk_42_method_149_code 11 = .ok (.getfield 9, 3) := by decide +kernel
theorem d2_14 : decode jdk_42_method_149_code 14 = .ok (.putfield 9, 3) := by decide +kernel
theorem d2_17 : decode jdk_42_method_149_code 17 = .ok (.aload_n 0, 1) := by decide +kernel
theorem d2_18 : decode jdk_42_method_149_code 18 = .ok (.ldc 7, 2) := by decide +kernel
theorem d2_20 : decode jdk_42_method_149_code 20 = .ok (.getfield 15, 3) := by decide +kernel
theorem d2_23 : decode jdk_42_method_149_code 23 = .ok (.putfield 15, 3) := by decide +kernel
theorem d2_26 : decode jdk_42_method_149_code 26 = .ok (.return_, 1) := by decide +kernel
theorem d2_27 : decode jdk_42_method_149_code 27 = .ok (.getstatic 38, 3) := by decide +kernel
theorem d2_30 : decode jdk_42_method_149_code 30 = .ok (.ifCond .eq 28, 3) := by decide +kernel
theorem d2_33 : decode jdk_42_method_149_code 33 = .ok (.aload_n 1, 1) := by decide +kernel
theorem d2_34 : decode jdk_42_method_149_code 34 = .ok (.iload_n 2, 1) := by decide +kernel
theorem d2_35 : decode jdk_42_method_149_code 35 = .ok (.iload_n 3, 1) := by decide +kernel
theorem d2_36 : decode jdk_42_method_149_code 36 = .ok (.invokestatic 177, 3) := by decide +kernel
theorem d2_39 : decode jdk_42_method_149_code 39 = .ok (.astore 5, 2) := by decide +kernel
theorem d2_41 : decode jdk_42_method_149_code 41 = .ok (.aload_n 0, 1) := by decide +kernel
theorem d2_42 : decode jdk_42_method_149_code 42 = .ok (.aload 5, 2) := by decide +kernel
theorem d2_44 : decode jdk_42_method_149_code 44 = .ok (.iload_n 3, 1) := by decide +kernel
theorem d2_45 : decode jdk_42_method_149_code 45 = .ok (.invokestatic 47, 3) := by decide +kernel
theorem d2_48 : decode jdk_42_method_149_code 48 = .ok (.putfield 15, 3) := by decide +kernel
theorem d2_51 : decode jdk_42_method_149_code 51 = .ok (.aload_n 0, 1) := by decide +kernel
theorem d2_52 : decode jdk_42_method_149_code 52 = .ok (.aload 5, 2) := by decide +kernel
theorem d2_54 : decode jdk_42_method_149_code 54 = .ok (.putfield 9, 3) := by decide +kernel
theorem d2_57 : decode jdk_42_method_149_code 57 = .ok (.return_, 1) := by decide +kernel
theorem d2_58 : decode jdk_42_method_149_code 58 = .ok (.aload_n 0, 1) := by decide +kernel
theorem d2_59 : decode jdk_42_method_149_code 59 = .ok (.iconst 1, 1) := by decide +kernel
theorem d2_60 : decode jdk_42_method_149_code 60 = .ok (.putfield 15, 3) := by decide +kernel
theorem d2_63 : decode jdk_42_method_149_code 63 = .ok (.aload_n 0, 1) := by decide +kernel
theorem d2_64 : decode jdk_42_method_149_code 64 = .ok (.aload_n 1, 1) := by decide +kernel
theorem d2_65 : decode jdk_42_method_149_code 65 = .ok (.iload_n 2, 1) := by decide +kernel
theorem d2_66 : decode jdk_42_method_149_code 66 = .ok (.iload_n 3, 1) := by decide +kernel
theorem d2_67 : decode jdk_42_method_149_code 67 = .ok (.invokestatic 180, 3) := by decide +kernel
theorem d2_70 : decode jdk_42_method_149_code 70 = .ok (.putfield 9, 3) := by decide +kernel
theorem d2_73 : decode jdk_42_method_149_code 73 = .ok (.return_, 1) := by decide +kernel
theorem pn_java_lang_String : plainName "java/lang/String" = true := by first | (simp [plainName, overriddenIn]; done) | decide +kernel
theorem ef_i4_2 (m : MethodId) (x0 : Addr) (x1 : Addr) (x2 : Int32) (x3 : Int32) : entryFrame m #[(.ref x0), (.ref x1), (.int x2), (.int x3), .null] 6 = mkF m 0 #[.val (.ref x0), .val (.ref x1), .val (.int x2), .val (.int x3), .val .null, .unset] [] := by first | (simp [entryFrame, mkF, argsToLocals, Value.category]; done) | rfl
def Qi4_2 (Z : State) (a1 : Addr) (a2 : Addr) (k : ClassId) (cs : Int32) (c0 : Int32) (c1 : Int32) (h0 : Heap) (n0 : Nat) (v : Option Value) (h : Heap) (L : List Loc) : Prop := ∃ (b : Addr) (kb : ClassId), v = none ∧ Fr n0 L ∧ Keep h0 h [a1] ∧ n0 ≤ b ∧ h0.size ≤ b ∧ Exa Z h a1 "java/lang/String" ∧ Fld Z h a1 "java/lang/String" "value" "[B" (.ref b) ∧ Fld Z h a1 "java/lang/String" "coder" "B" (.int (0 : Int32)) ∧ Arv Z h b kb .byte (2 : Int32) [(.int (nar .byte (c0.toInt8.toInt32))), (.int (nar .byte (c1.toInt8.toInt32)))] (.int (0 : Int32))
abbrev Gi4_2 (Z : State) (a1 : Addr) (a2 : Addr) (k : ClassId) (cs : Int32) (c0 : Int32) (c1 : Int32) (h0 : Heap) (n0 : Nat) (s : State) : Outcome → State → Prop := fun o U' => ∃ v L, o = .returned v ∧ Qi4_2 Z a1 a2 k cs c0 c1 h0 n0 v U'.heap L ∧ FrameEnd s o U' L ({ frames := 2, cells := 1, slots := 2, locals := 48 } : Room).cells ({ frames := 2, cells := 1, slots := 2, locals := 48 } : Room).slots
theorem pd__28__5b_CII_29__5b_B : parseMethodDescriptor "([CII)[B" = some ⟨[(.array .char), .int, .int], some (.array .byte)⟩ := by decide +kernel
theorem pd__28__5b_BI_29_B : parseMethodDescriptor "([BI)B" = some ⟨[(.array .byte), .int], some .byte⟩ := by decide +kernel
set_option maxRecDepth 65536 in
set_option maxHeartbeats 40000000 in
theorem rmi4_2 (l : Launch) (Z : State) (a0 : Array Value) (hw : ∀ d ∈ tables_1, d.before a0 Z = true) (ws : List Jvm.Cond) (a1 : Addr) (a2 : Addr) (k : ClassId) (cs : Int32) (c0 : Int32) (c1 : Int32) (h0 : Heap) (n0 : Nat) (Z0 : n0 ≤ h0.size) (E_a1 : Exa Z h0 a1 "java/lang/String") (F_value_a1 : Fld Z h0 a1 "java/lang/String" "value" "[B" .null) (F_coder_a1 : Fld Z h0 a1 "java/lang/String" "coder" "B" (.int (0 : Int32))) (g_a1 : n0 ≤ a1) (O0 : Old Z n0 h0) (S_COMPACT_STRINGS : Sta Z Z.heap "java/lang/String" "COMPACT_STRINGS" "Z" (.int cs)) (hcs : ¬ cs = (0 : Int32)) (V_a2 : Arv Z h0 a2 k .char (2 : Int32) [(.int c0), (.int c1)] (.int (0 : Int32))) (hc0 : ¬ (255 : Int32) < c0) (hc1 : ¬ (255 : Int32) < c1) :
    MetFree l (⟨"java/lang/String", "<init>", "([CIILjava/lang/Void;)V"⟩ : MethodName) (head1 (Jvm.Cond.code (⟨"java/lang/String", "<init>", "([CIILjava/lang/Void;)V"⟩ : MethodName) jdk_42_method_149_code 6 none :: ws) ({ frames := 2, cells := 1, slots := 2, locals := 48 } : Room)) (fun a U => a = #[(.ref a1), (.ref a2), (.int (0 : Int32)), (.int (2 : Int32)), .null] ∧ Z.Warmed39 U.vm ∧ U.heap = h0) (fun _ _ _ _ _ => True) (fun _ U o U' => ∃ v L, o = .returned v ∧ Qi4_2 Z a1 a2 k cs c0 c1 h0 n0 v U'.heap L ∧ FrameEnd U o U' L ({ frames := 2, cells := 1, slots := 2, locals := 48 } : Room).cells ({ frames := 2, cells := 1, slots := 2, locals := 48 } : Room).slots) := by
  refine MetFree.of_bodySF (plainFor_of_name pn_java_lang_String) hisR ?_
  intro p e s m args below meth c s₁ Bd hml0 hP hK
  obtain ⟨rfl, hZ, hh⟩ := hP
  have hx := Bd.exec
  have hby := Bd.bytes
  have hml : c.maxLocals = 6 := hml0
  have hown : s.vm.findClass "java/lang/String" = some m.cls := findClass_of_methodNamed Bd.named
  have hnm := (name_of_methodNamed Bd.named Bd.method).1
  have X0 : Stand p l e ({ frames := 2, cells := 1, slots := 2, locals := 48 } : Room) s m #[(.ref a1), (.ref a2), (.int (0 : Int32)), (.int (2 : Int32)), .null] below meth c s₁ [] 0 0 := Stand.of_body Bd
  have e0 : s₁.heap = h0 := by rw [← hh, Bd.state]; rfl
  have es0 : s.heap = h0 := hh
  have N0 := Fr.nil n0
  show own_Fin p e below (Gi4_2 Z a1 a2 k cs c0 c1 h0 n0 s) (s₁.setTop (entryFrame m #[(.ref a1), (.ref a2), (.int (0 : Int32)), (.int (2 : Int32)), .null] 6))
  rw [ef_i4_2 m a1 a2 (0 : Int32) (2 : Int32)]
  have Kz := Keep.refl h0 [a1]
  refine own_go (XS.aloadN X0.here hx rfl (hb hby d2_0) rfl rfl (Steps.refl _)) ?_
  show own_Fin _ _ _ _ (s₁.setTop (mkF m 1 #[rv a1, rv a2, iv (0 : Int32), iv (2 : Int32), .val .null, .unset] [(.ref a1)]))
  obtain ⟨T13, X13, e13, st13⟩ := initO X0 hx hZ hown (hw _ (List.mem_of_getElem? (i := 12) rfl)) (hw _ (List.mem_of_getElem? (i := 13) rfl)) (hw _ (List.mem_of_getElem? (i := 14) rfl)) e0 (g := (mkF m 1 #[rv a1, rv a2, iv (0 : Int32), iv (2 : Int32), .val .null, .unset] [(.ref a1)])) rfl (by rw [hml]; rfl) rfl (hb hby d2_1) (by decide) (W := 0) (by show 2 * 0 + _ ≤ _; exact Nat.le_of_eq rfl) (by decide)
  refine own_by st13 ?_
  show own_Fin _ _ _ _ (T13.setTop (mkF m 4 #[rv a1, rv a2, iv (0 : Int32), iv (2 : Int32), .val .null, .unset] []))
  refine own_go (XS.iloadN X13.here hx rfl (hb hby d2_4) rfl (Steps.refl _)) ?_
  show own_Fin _ _ _ _ (T13.setTop (mkF m 5 #[rv a1, rv a2, iv (0 : Int32), iv (2 : Int32), .val .null, .unset] [(.int (2 : Int32))]))
  refine own_go (XS.ifYes X13.here hx rfl (pc0 := 5) (pc' := 27) rfl (hb hby d2_5) rfl ((if0 _ _).trans (feq (by decide : ¬ ((2 : Int32) = (0 : Int32)))).2) (by decide) (by decide) (Steps.refl _)) ?_
  show own_Fin _ _ _ _ (T13.setTop (mkF m 27 #[rv a1, rv a2, iv (0 : Int32), iv (2 : Int32), .val .null, .unset] []))
  obtain ⟨T14, X14, e14, st14⟩ := getS2 X13 hx hZ hown (host := "") (Or.inl (hw _ (List.mem_of_getElem? (i := 15) rfl))) Via.refl e13 (S_COMPACT_STRINGS.ext O0.2) (g := (mkF m 27 #[rv a1, rv a2, iv (0 : Int32), iv (2 : Int32), .val .null, .unset] [])) rfl (hb hby d2_27)
  refine own_by st14 ?_
  show own_Fin _ _ _ _ (T14.setTop (mkF m 30 #[rv a1, rv a2, iv (0 : Int32), iv (2 : Int32), .val .null, .unset] [(.int cs)]))
  refine own_go (XS.ifNo X14.here hx rfl (hb hby d2_30) rfl ((if0 _ _).trans (feq (show ¬ (cs = (0 : Int32)) from hcs)).1) (Steps.refl _)) ?_
  show own_Fin _ _ _ _ (T14.setTop (mkF m 33 #[rv a1, rv a2, iv (0 : Int32), iv (2 : Int32), .val .null, .unset] []))
  refine own_go (XS.aloadN X14.here hx rfl (hb hby d2_33) rfl rfl (Steps.refl _)) ?_
  show own_Fin _ _ _ _ (T14.setTop (mkF m 34 #[rv a1, rv a2, iv (0 : Int32), iv (2 : Int32), .val .null, .unset] [(.ref a2)]))
  refine own_go (XS.iloadN X14.here hx rfl (hb hby d2_34) rfl (Steps.refl _)) ?_
  show own_Fin _ _ _ _ (T14.setTop (mkF m 35 #[rv a1, rv a2, iv (0 : Int32), iv (2 : Int32), .val .null, .unset] [(.int (0 : Int32)), (.ref a2)]))
  refine own_go (XS.iloadN X14.here hx rfl (hb hby d2_35) rfl (Steps.refl _)) ?_
  show own_Fin _ _ _ _ (T14.setTop (mkF m 36 #[rv a1, rv a2, iv (0 : Int32), iv (2 : Int32), .val .null, .unset] [(.int (2 : Int32)), (.int (0 : Int32)), (.ref a2)]))
  obtain ⟨_, _, ⟨T15, L15, k15, n15⟩, -, X15, ⟨Lc15, hQ15, l15, y15, z15⟩, st15⟩ := Jvm.LawKit.callS X14 hx (y := (⟨"java/lang/StringUTF16", "compress", "([CII)[B"⟩ : MethodName)) hown (mvT hZ (hw _ (List.mem_of_getElem? (i := 16) rfl))) (mvT hZ (hw _ (List.mem_of_getElem? (i := 17) rfl))) (mvT hZ (hw _ (List.mem_of_getElem? (i := 18) rfl))) (mvT hZ (hw _ (List.mem_of_getElem? (i := 19) rfl))) (by decide) (backOf (W := 0) (rmc3_2 l Z a0 hw [] a2 k c0 c1 h0 n0 Z0 V_a2 hc0 hc1) hZ (hw _ (List.mem_of_getElem? (i := 19) rfl)) (hw _ (List.mem_of_getElem? (i := 18) rfl)) (by decide) (by decide)) (g := (mkF m 36 #[rv a1, rv a2, iv (0 : Int32), iv (2 : Int32), .val .null, .unset] [(.int (2 : Int32)), (.int (0 : Int32)), (.ref a2)])) rfl (by rw [hml]; rfl) (argsL := [(.ref a2), (.int (0 : Int32)), (.int (2 : Int32))]) (rest := []) (lenOf pd__28__5b_CII_29__5b_B rfl) rfl (by show 2 * 0 + _ ≤ _; exact Nat.le_of_eq rfl) (hb hby d2_36) (fun _ _ => ⟨rfl, e14, (by decide : 0 + 1 ≤ _), (by decide : 0 + 2 ≤ _)⟩)
  dsimp only [Pt.U, Pt.locs, Pt.cells, Pt.slots] at X15 l15 y15 z15 st15 hQ15
  subst l15 y15 z15
  refine own_by st15 ?_
  obtain ⟨b_15, kb_15, rfl, Nq15, K15, g_b_15, sb_b_15, r15_0⟩ := hQ15
  have ne_a1_b_15 : a1 ≠ b_15 := Nat.ne_of_lt (Nat.lt_of_lt_of_le E_a1.lt sb_b_15)
  have ne_a2_b_15 : a2 ≠ b_15 := Nat.ne_of_lt (Nat.lt_of_lt_of_le V_a2.lt sb_b_15)
  have sz_b_15 : h0.size ≤ b_15 := Nat.le_trans Kz.1 sb_b_15
  have Od15 := O0.keep K15 all0
  have E_a1_15 := E_a1.keep K15
  have F_value_a1_15 := F_value_a1.keep K15 nin0
  have F_coder_a1_15 := F_coder_a1.keep K15 nin0
  have V_a2_15 := V_a2.keep K15 nin0
  have Z15 : n0 ≤ T15.heap.size := Nat.le_trans Z0 K15.1
  have Kt15 := Kz.trans K15 all0
  have N15 := Fr.app N0 Nq15
  show own_Fin _ _ _ _ (T15.setTop (mkF m 39 #[rv a1, rv a2, iv (0 : Int32), iv (2 : Int32), .val .null, .unset] [(.ref b_15)]))
  refine own_go (XS.astore X15.here hx rfl (hb hby d2_39) rfl rfl rfl (Steps.refl _)) ?_
  show own_Fin _ _ _ _ (T15.setTop (mkF m 41 #[rv a1, rv a2, iv (0 : Int32), iv (2 : Int32), .val .null, rv b_15] []))
  refine own_go (XS.aloadN X15.here hx rfl (hb hby d2_41) rfl rfl (Steps.refl _)) ?_
  show own_Fin _ _ _ _ (T15.setTop (mkF m 42 #[rv a1, rv a2, iv (0 : Int32), iv (2 : Int32), .val .null, rv b_15] [(.ref a1)]))
  refine own_go (XS.aload X15.here hx rfl (hb hby d2_42) rfl rfl (Steps.refl _)) ?_
  show own_Fin _ _ _ _ (T15.setTop (mkF m 44 #[rv a1, rv a2, iv (0 : Int32), iv (2 : Int32), .val .null, rv b_15] [(.ref b_15), (.ref a1)]))
  refine own_go (XS.iloadN X15.here hx rfl (hb hby d2_44) rfl (Steps.refl _)) ?_
  show own_Fin _ _ _ _ (T15.setTop (mkF m 45 #[rv a1, rv a2, iv (0 : Int32), iv (2 : Int32), .val .null, rv b_15] [(.int (2 : Int32)), (.ref b_15), (.ref a1)]))
  obtain ⟨_, _, ⟨T16, L16, k16, n16⟩, -, X16, ⟨Lc16, hQ16, l16, y16, z16⟩, st16⟩ := Jvm.LawKit.callS X15 hx (y := (⟨"java/lang/StringUTF16", "coderFromArrayLen", "([BI)B"⟩ : MethodName)) hown (mvT hZ (hw _ (List.mem_of_getElem? (i := 24) rfl))) (mvT hZ (hw _ (List.mem_of_getElem? (i := 25) rfl))) (mvT hZ (hw _ (List.mem_of_getElem? (i := 18) rfl))) (mvT hZ (hw _ (List.mem_of_getElem? (i := 26) rfl))) (by decide) (backOf (W := 1) (rmcf_2 l Z a0 hw [] b_15 kb_15 c0 c1 T15.heap n0 Z15 r15_0) hZ (hw _ (List.mem_of_getElem? (i := 26) rfl)) (hw _ (List.mem_of_getElem? (i := 18) rfl)) (by decide) (by decide)) (g := (mkF m 45 #[rv a1, rv a2, iv (0 : Int32), iv (2 : Int32), .val .null, rv b_15] [(.int (2 : Int32)), (.ref b_15), (.ref a1)])) rfl (by rw [hml]; rfl) (argsL := [(.ref b_15), (.int (2 : Int32))]) (rest := [(.ref a1)]) (lenOf pd__28__5b_BI_29_B rfl) rfl (by show 2 * 0 + _ ≤ _; exact Nat.le_of_eq rfl) (hb hby d2_45) (fun _ _ => ⟨rfl, rfl, (by decide : 1 + 0 ≤ _), (by decide : 2 + 0 ≤ _)⟩)
  dsimp only [Pt.U, Pt.locs, Pt.cells, Pt.slots] at X16 l16 y16 z16 st16 hQ16
  subst l16 y16 z16
  obtain ⟨rfl, Nq16, e16⟩ := hQ16
  refine own_by st16 ?_
  have N16 := Fr.app N15 Nq16
  show own_Fin _ _ _ _ (T16.setTop (mkF m 48 #[rv a1, rv a2, iv (0 : Int32), iv (2 : Int32), .val .null, rv b_15] [(.int (0 : Int32)), (.ref a1)]))
  obtain ⟨T17, h17, X17, e17, W17, st17⟩ := putFN X16 hx hZ hown (hw _ (List.mem_of_getElem? (i := 27) rfl)) Via.refl e16 F_coder_a1_15 E_a1_15 (Or.inr ⟨(hw _ (List.mem_of_getElem? (i := 28) rfl)), rfl, hnm⟩) (hw _ (List.mem_of_getElem? (i := 3) rfl)) (ty := .byte) (v' := (.int (nar .byte (0 : Int32)))) (by decide) rfl (fits_nar_byte _) (g := (mkF m 48 #[rv a1, rv a2, iv (0 : Int32), iv (2 : Int32), .val .null, rv b_15] [(.int (0 : Int32)), (.ref a1)])) rfl rfl (hb hby d2_48)
  refine own_by st17 ?_
  have F_coder_a1_17 := F_coder_a1_15.same W17
  have Od17 := Od15.wr W17 g_a1
  have E_a1_17 := E_a1_15.wr W17
  have F_value_a1_17 := F_value_a1_15.other W17 (Or.inr (slot_ne (Or.inr (hw _ (List.mem_of_getElem? (i := 30) rfl))) (Or.inr (hw _ (List.mem_of_getElem? (i := 28) rfl))) (by decide) (t := (.array .byte)) (t' := .byte) (by decide) (by decide)))
  have V_a2_17 := V_a2_15.other W17 (Ne.symm (Exa.neArv E_a1_15 V_a2_15 (hw _ (List.mem_of_getElem? (i := 3) rfl))))
  have r15_0_17 := r15_0.other W17 (Ne.symm ne_a1_b_15)
  have N17 := Fr.snoc X17 N16 g_a1
  have Z17 : n0 ≤ h17.size := Nat.le_trans Z15 (Keep.of_wr W17).1
  have K17 := Kt15.wr W17 (Or.inl (List.mem_of_getElem? (i := 0) rfl))
  show own_Fin _ _ _ _ (T17.setTop (mkF m 51 #[rv a1, rv a2, iv (0 : Int32), iv (2 : Int32), .val .null, rv b_15] []))
  refine own_go (XS.aloadN X17.here hx rfl (hb hby d2_51) rfl rfl (Steps.refl _)) ?_
  show own_Fin _ _ _ _ (T17.setTop (mkF m 52 #[rv a1, rv a2, iv (0 : Int32), iv (2 : Int32), .val .null, rv b_15] [(.ref a1)]))
  refine own_go (XS.aload X17.here hx rfl (hb hby d2_52) rfl rfl (Steps.refl _)) ?_
  show own_Fin _ _ _ _ (T17.setTop (mkF m 54 #[rv a1, rv a2, iv (0 : Int32), iv (2 : Int32), .val .null, rv b_15] [(.ref b_15), (.ref a1)]))
  obtain ⟨T18, h18, X18, e18, W18, st18⟩ := putF X17 hx hZ hown (host := "") (Or.inl (hw _ (List.mem_of_getElem? (i := 29) rfl))) Via.refl e17 F_value_a1_17 E_a1_17 (Or.inr ⟨(hw _ (List.mem_of_getElem? (i := 30) rfl)), rfl, hnm⟩) (hw _ (List.mem_of_getElem? (i := 3) rfl)) (ty := (.array .byte)) (by decide) rfl rfl (g := (mkF m 54 #[rv a1, rv a2, iv (0 : Int32), iv (2 : Int32), .val .null, rv b_15] [(.ref b_15), (.ref a1)])) rfl rfl (hb hby d2_54)
  refine own_by st18 ?_
  have F_value_a1_18 := F_value_a1_17.same W18
  have Od18 := Od17.wr W18 g_a1
  have E_a1_18 := E_a1_17.wr W18
  have F_coder_a1_18 := F_coder_a1_17.other W18 (Or.inr (slot_ne (Or.inr (hw _ (List.mem_of_getElem? (i := 28) rfl))) (Or.inr (hw _ (List.mem_of_getElem? (i := 30) rfl))) (by decide) (t := .byte) (t' := (.array .byte)) (by decide) (by decide)))
  have V_a2_18 := V_a2_17.other W18 (Ne.symm (Exa.neArv E_a1_17 V_a2_17 (hw _ (List.mem_of_getElem? (i := 3) rfl))))
  have r15_0_18 := r15_0_17.other W18 (Ne.symm ne_a1_b_15)
  have N18 := Fr.snoc X18 N17 g_a1
  have Z18 : n0 ≤ h18.size := Nat.le_trans Z17 (Keep.of_wr W18).1
  have K18 := K17.wr W18 (Or.inl (List.mem_of_getElem? (i := 0) rfl))
  show own_Fin _ _ _ _ (T18.setTop (mkF m 57 #[rv a1, rv a2, iv (0 : Int32), iv (2 : Int32), .val .null, rv b_15] []))
  obtain ⟨fs19, hr19, hrun19, hended19, hW19, hsame19⟩ := X18.leave (v := none) (fun _ => rfl)
  refine own_done (X18.returnOut hx Bd.returns (hb hby d2_57) hr19) hrun19 hended19 ⟨_, _, rfl, ?_, ⟨_, rfl⟩, hW19, hsame19.mono (by decide) (by decide)⟩
  show Qi4_2 Z a1 a2 k cs c0 c1 h0 n0 _ T18.heap _
  rw [e18]
  exact ⟨b_15, kb_15, rfl, N18, K18, g_b_15, sz_b_15, E_a1_18, F_value_a1_18, F_coder_a1_18, r15_0_18⟩
theorem d1_0 : decode jdk_42_method_3_code 0 = .ok (.aload_n 0, 1) := by decide +kernel
theorem d1_1 : decode jdk_42_method_3_code 1 = .ok (.aload_n 1, 1) := by decide +kernel
theorem d1_2 : decode jdk_42_method_3_code 2 = .ok (.iconst 0, 1) := by decide +kernel
theorem d1_3 : decode jdk_42_method_3_code 3 = .ok (.aload_n 1, 1) := by decide +kernel
theorem d1_4 : decode jdk_42_method_3_code 4 = .ok (.arraylength, 1) := by decide +kernel
theorem d1_5 : decode jdk_42_method_3_code 5 = .ok (.aconst_null, 1) := by decide +kernel
theorem d1_6 : decode jdk_42_method_3_code 6 = .ok (.invokespecial 27, 3) := by decide +kernel
theorem d1_9 : decode jdk_42_method_3_code 9 = .ok (.return_, 1) := by decide +kernel
theorem ef_str_2 (m : MethodId) (x0 : Addr) (x1 : Addr) : entryFrame m #[(.ref x0), (.ref x1)] 2 = mkF m 0 #[.val (.ref x0), .val (.ref x1)] [] := by first | (simp [entryFrame, mkF, argsToLocals, Value.category]; done) | rfl
def Qstr_2 (Z : State) (a1 : Addr) (a2 : Addr) (k : ClassId) (cs : Int32) (c0 : Int32) (c1 : Int32) (h0 : Heap) (n0 : Nat) (v : Option Value) (h : Heap) (L : List Loc) : Prop := ∃ (b : Addr) (kb : ClassId), v = none ∧ Fr n0 L ∧ Keep h0 h [a1] ∧ n0 ≤ b ∧ h0.size ≤ b ∧ Exa Z h a1 "java/lang/String" ∧ Fld Z h a1 "java/lang/String" "value" "[B" (.ref b) ∧ Fld Z h a1 "java/lang/String" "coder" "B" (.int (0 : Int32)) ∧ Arv Z h b kb .byte (2 : Int32) [(.int (nar .byte (c0.toInt8.toInt32))), (.int (nar .byte (c1.toInt8.toInt32)))] (.int (0 : Int32))
abbrev Gstr_2 (Z : State) (a1 : Addr) (a2 : Addr) (k : ClassId) (cs : Int32) (c0 : Int32) (c1 : Int32) (h0 : Heap) (n0 : Nat) (s : State) : Outcome → State → Prop := fun o U' => ∃ v L, o = .returned v ∧ Qstr_2 Z a1 a2 k cs c0 c1 h0 n0 v U'.heap L ∧ FrameEnd s o U' L ({ frames := 3, cells := 1, slots := 2, locals := 68 } : Room).cells ({ frames := 3, cells := 1, slots := 2, locals := 68 } : Room).slots
theorem pd__28__5b_CIILjava_2f_lang_2f_Void_3b__29_V : parseMethodDescriptor "([CIILjava/lang/Void;)V" = some ⟨[(.array .char), .int, .int, (.object "java/lang/Void")], none⟩ := by decide +kernel
set_option maxRecDepth 65536 in
set_option maxHeartbeats 40000000 in
theorem rmstr_2 (l : Launch) (Z : State) (a0 : Array Value) (hw : ∀ d ∈ tables_1, d.before a0 Z = true) (ws : List Jvm.Cond) (a1 : Addr) (a2 : Addr) (k : ClassId) (cs : Int32) (c0 : Int32) (c1 : Int32) (h0 : Heap) (n0 : Nat) (Z0 : n0 ≤ h0.size) (E_a1 : Exa Z h0 a1 "java/lang/String") (F_value_a1 : Fld Z h0 a1 "java/lang/String" "value" "[B" .null) (F_coder_a1 : Fld Z h0 a1 "java/lang/String" "coder" "B" (.int (0 : Int32))) (g_a1 : n0 ≤ a1) (O0 : Old Z n0 h0) (S_COMPACT_STRINGS : Sta Z Z.heap "java/lang/String" "COMPACT_STRINGS" "Z" (.int cs)) (hcs : ¬ cs = (0 : Int32)) (V_a2 : Arv Z h0 a2 k .char (2 : Int32) [(.int c0), (.int c1)] (.int (0 : Int32))) (hc0 : ¬ (255 : Int32) < c0) (hc1 : ¬ (255 : Int32) < c1) :
    MetFree l (⟨"java/lang/String", "<init>", "([C)V"⟩ : MethodName) (head1 (Jvm.Cond.code (⟨"java/lang/String", "<init>", "([C)V"⟩ : MethodName) jdk_42_method_3_code 2 none :: ws) ({ frames := 3, cells := 1, slots := 2, locals := 68 } : Room)) (fun a U => a = #[(.ref a1), (.ref a2)] ∧ Z.Warmed39 U.vm ∧ U.heap = h0) (fun _ _ _ _ _ => True) (fun _ U o U' => ∃ v L, o = .returned v ∧ Qstr_2 Z a1 a2 k cs c0 c1 h0 n0 v U'.heap L ∧ FrameEnd U o U' L ({ frames := 3, cells := 1, slots := 2, locals := 68 } : Room).cells ({ frames := 3, cells := 1, slots := 2, locals := 68 } : Room).slots) := by
  refine MetFree.of_bodySF (plainFor_of_name pn_java_lang_String) hisR ?_
  intro p e s m args below meth c s₁ Bd hml0 hP hK
  obtain ⟨rfl, hZ, hh⟩ := hP
  have hx := Bd.exec
  have hby := Bd.bytes
  have hml : c.maxLocals = 2 := hml0
  have hown : s.vm.findClass "java/lang/String" = some m.cls := findClass_of_methodNamed Bd.named
  have hnm := (name_of_methodNamed Bd.named Bd.method).1
  have X0 : Stand p l e ({ frames := 3, cells := 1, slots := 2, locals := 68 } : Room) s m #[(.ref a1), (.ref a2)] below meth c s₁ [] 0 0 := Stand.of_body Bd
  have e0 : s₁.heap = h0 := by rw [← hh, Bd.state]; rfl
  have es0 : s.heap = h0 := hh
  have N0 := Fr.nil n0
  show own_Fin p e below (Gstr_2 Z a1 a2 k cs c0 c1 h0 n0 s) (s₁.setTop (entryFrame m #[(.ref a1), (.ref a2)] 2))
  rw [ef_str_2 m a1 a2]
  have Kz := Keep.refl h0 [a1]
  refine own_go (XS.aloadN X0.here hx rfl (hb hby d1_0) rfl rfl (Steps.refl _)) ?_
  show own_Fin _ _ _ _ (s₁.setTop (mkF m 1 #[rv a1, rv a2] [(.ref a1)]))
  refine own_go (XS.aloadN X0.here hx rfl (hb hby d1_1) rfl rfl (Steps.refl _)) ?_
  show own_Fin _ _ _ _ (s₁.setTop (mkF m 2 #[rv a1, rv a2] [(.ref a2), (.ref a1)]))
  refine own_go (XS.iconst X0.here hx rfl (hb hby d1_2) (Steps.refl _)) ?_
  show own_Fin _ _ _ _ (s₁.setTop (mkF m 3 #[rv a1, rv a2] [(.int (0 : Int32)), (.ref a2), (.ref a1)]))
  refine own_go (XS.aloadN X0.here hx rfl (hb hby d1_3) rfl rfl (Steps.refl _)) ?_
  show own_Fin _ _ _ _ (s₁.setTop (mkF m 4 #[rv a1, rv a2] [(.ref a2), (.int (0 : Int32)), (.ref a2), (.ref a1)]))
  obtain ⟨cl20, Ar20, qa20, Sa20, Na20, Ha20, Ga20⟩ := id V_a2
  refine own_by (X0.arraylength hx (by rw [e0]; exact Ar20.1) (State.isArrayOf_alike hZ.alike Ar20.2.1) (g := (mkF m 4 #[rv a1, rv a2] [(.ref a2), (.int (0 : Int32)), (.ref a2), (.ref a1)])) rfl rfl (hb hby d1_4)) ?_
  rw [len_of Sa20 Na20]
  show own_Fin _ _ _ _ (s₁.setTop (mkF m 5 #[rv a1, rv a2] [(.int (2 : Int32)), (.int (0 : Int32)), (.ref a2), (.ref a1)]))
  refine own_go (XS.aconstNull X0.here hx rfl (hb hby d1_5) (Steps.refl _)) ?_
  show own_Fin _ _ _ _ (s₁.setTop (mkF m 6 #[rv a1, rv a2] [.null, (.int (2 : Int32)), (.int (0 : Int32)), (.ref a2), (.ref a1)]))
  obtain ⟨_, _, ⟨T21, L21, k21, n21⟩, -, X21, ⟨Lc21, hQ21, l21, y21, z21⟩, st21⟩ := X0.specialBack hx (y := (⟨"java/lang/String", "<init>", "([CIILjava/lang/Void;)V"⟩ : MethodName)) rfl hown (mvT hZ (hw _ (List.mem_of_getElem? (i := 8) rfl))) (mvT hZ (hw _ (List.mem_of_getElem? (i := 9) rfl))) (mvT hZ (hw _ (List.mem_of_getElem? (i := 11) rfl))) (by decide) (backOf (W := 0) (rmi4_2 l Z a0 hw [] a1 a2 k cs c0 c1 h0 n0 Z0 E_a1 F_value_a1 F_coder_a1 g_a1 O0 S_COMPACT_STRINGS hcs V_a2 hc0 hc1) hZ (hw _ (List.mem_of_getElem? (i := 11) rfl)) (hw _ (List.mem_of_getElem? (i := 4) rfl)) (by decide) (by decide)) (g := (mkF m 6 #[rv a1, rv a2] [.null, (.int (2 : Int32)), (.int (0 : Int32)), (.ref a2), (.ref a1)])) rfl (by rw [hml]; rfl) (Steps.refl _) (a := a1) (argsL := [(.ref a2), (.int (0 : Int32)), (.int (2 : Int32)), .null]) (rest := []) (lenOf pd__28__5b_CIILjava_2f_lang_2f_Void_3b__29_V rfl) rfl (by show 2 * 0 + _ ≤ _; exact Nat.le_of_eq rfl) (hb hby d1_6) (fun _ _ => ⟨rfl, e0, (by decide : 0 + 1 ≤ _), (by decide : 0 + 2 ≤ _)⟩)
  dsimp only [Pt.U, Pt.locs, Pt.cells, Pt.slots] at X21 l21 y21 z21 st21 hQ21
  subst l21 y21 z21
  refine own_go st21 ?_
  obtain ⟨b_21, kb_21, rfl, Nq21, K21, g_b_21, sb_b_21, r21_0, r21_1, r21_2, r21_3⟩ := hQ21
  have ne_a1_b_21 : a1 ≠ b_21 := Nat.ne_of_lt (Nat.lt_of_lt_of_le E_a1.lt sb_b_21)
  have ne_a2_b_21 : a2 ≠ b_21 := Nat.ne_of_lt (Nat.lt_of_lt_of_le V_a2.lt sb_b_21)
  have sz_b_21 : h0.size ≤ b_21 := Nat.le_trans Kz.1 sb_b_21
  have Od21 := O0.keep K21 (allS g_a1 all0)
  have E_a1_21 := E_a1.keep K21
  have V_a2_21 := V_a2.keep K21 (ninS (Ne.symm (Exa.neArv E_a1 V_a2 (hw _ (List.mem_of_getElem? (i := 3) rfl)))) nin0)
  have Z21 : n0 ≤ T21.heap.size := Nat.le_trans Z0 K21.1
  have Kt21 := Kz.trans K21 (allS (P := fun x => x ∈ _ ∨ _ ≤ x) (Or.inl (List.mem_of_getElem? (i := 0) rfl)) all0)
  have N21 := Fr.app N0 Nq21
  show own_Fin _ _ _ _ (T21.setTop (mkF m 9 #[rv a1, rv a2] []))
  obtain ⟨fs22, hr22, hrun22, hended22, hW22, hsame22⟩ := X21.leave (v := none) (fun _ => rfl)
  refine own_done (X21.returnOut hx Bd.returns (hb hby d1_9) hr22) hrun22 hended22 ⟨_, _, rfl, ?_, ⟨_, rfl⟩, hW22, hsame22.mono (by decide) (by decide)⟩
  show Qstr_2 Z a1 a2 k cs c0 c1 h0 n0 _ T21.heap _
  exact ⟨b_21, kb_21, rfl, N21, Kt21, g_b_21, sz_b_21, r21_0, r21_1, r21_2, r21_3⟩
theorem d8_0 : decode jdk_30_method_1_code 0 = .ok (.aload_n 0, 1) := by decide +kernel
theorem d8_1 : decode jdk_30_method_1_code 1 = .ok (.invokespecial 1, 3) := by decide +kernel
theorem d8_4 : decode jdk_30_method_1_code 4 = .ok (.return_, 1) := by decide +kernel
theorem pn_java_lang_Record : plainName "java/lang/Record" = true := by first | (simp [plainName, overriddenIn]; done) | decide +kernel
theorem ef_rec (m : MethodId) (x0 : Addr) : entryFrame m #[(.ref x0)] 1 = mkF m 0 #[.val (.ref x0)] [] := by first | (simp [entryFrame, mkF, argsToLocals, Value.category]; done) | rfl
def Qrec (Z : State) (a1 : Addr) (h0 : Heap) (n0 : Nat) (v : Option Value) (h : Heap) (L : List Loc) : Prop := v = none ∧ Fr n0 L ∧ h = h0
abbrev Grec (Z : State) (a1 : Addr) (h0 : Heap) (n0 : Nat) (s : State) : Outcome → State → Prop := fun o U' => ∃ v L, o = .returned v ∧ Qrec Z a1 h0 n0 v U'.heap L ∧ FrameEnd s o U' L ({ frames := 1, cells := 0, slots := 0, locals := 12 } : Room).cells ({ frames := 1, cells := 0, slots := 0, locals := 12 } : Room).slots
set_option maxRecDepth 65536 in
set_option maxHeartbeats 40000000 in
theorem rmrec (l : Launch) (Z : State) (a0 : Array Value) (hw : ∀ d ∈ tables_1, d.before a0 Z = true) (ws : List Jvm.Cond) (a1 : Addr) (h0 : Heap) (n0 : Nat) (Z0 : n0 ≤ h0.size)  :
    MetFree l (⟨"java/lang/Record", "<init>", "()V"⟩ : MethodName) (head1 (Jvm.Cond.code (⟨"java/lang/Record", "<init>", "()V"⟩ : MethodName) jdk_30_method_1_code 1 none :: ws) ({ frames := 1, cells := 0, slots := 0, locals := 12 } : Room)) (fun a U => a = #[(.ref a1)] ∧ Z.Warmed39 U.vm ∧ U.heap = h0) (fun _ _ _ _ _ => True) (fun _ U o U' => ∃ v L, o = .returned v ∧ Qrec Z a1 h0 n0 v U'.heap L ∧ FrameEnd U o U' L ({ frames := 1, cells := 0, slots := 0, locals := 12 } : Room).cells ({ frames := 1, cells := 0, slots := 0, locals := 12 } : Room).slots) := by
  refine MetFree.of_bodySF (plainFor_of_name pn_java_lang_Record) hisR ?_
  intro p e s m args below meth c s₁ Bd hml0 hP hK
  obtain ⟨rfl, hZ, hh⟩ := hP
  have hx := Bd.exec
  have hby := Bd.bytes
  have hml : c.maxLocals = 1 := hml0
  have hown : s.vm.findClass "java/lang/Record" = some m.cls := findClass_of_methodNamed Bd.named
  have hnm := (name_of_methodNamed Bd.named Bd.method).1
  have X0 : Stand p l e ({ frames := 1, cells := 0, slots := 0, locals := 12 } : Room) s m #[(.ref a1)] below meth c s₁ [] 0 0 := Stand.of_body Bd
  have e0 : s₁.heap = h0 := by rw [← hh, Bd.state]; rfl
  have es0 : s.heap = h0 := hh
  have N0 := Fr.nil n0
  show own_Fin p e below (Grec Z a1 h0 n0 s) (s₁.setTop (entryFrame m #[(.ref a1)] 1))
  rw [ef_rec m a1]
  refine own_go (XS.aloadN X0.here hx rfl (hb hby d8_0) rfl rfl (Steps.refl _)) ?_
  show own_Fin _ _ _ _ (s₁.setTop (mkF m 1 #[rv a1] [(.ref a1)]))
  obtain ⟨T23, X23, e23, st23⟩ := initO X0 hx hZ hown (hw _ (List.mem_of_getElem? (i := 45) rfl)) (hw _ (List.mem_of_getElem? (i := 13) rfl)) (hw _ (List.mem_of_getElem? (i := 14) rfl)) e0 (g := (mkF m 1 #[rv a1] [(.ref a1)])) rfl (by rw [hml]; rfl) rfl (hb hby d8_1) (by decide) (W := 0) (by show 2 * 0 + _ ≤ _; exact Nat.le_of_eq rfl) (by decide)
  refine own_by st23 ?_
  show own_Fin _ _ _ _ (T23.setTop (mkF m 4 #[rv a1] []))
  obtain ⟨fs24, hr24, hrun24, hended24, hW24, hsame24⟩ := X23.leave (v := none) (fun _ => rfl)
  refine own_done (X23.returnOut hx Bd.returns (hb hby d8_4) hr24) hrun24 hended24 ⟨_, _, rfl, ?_, ⟨_, rfl⟩, hW24, hsame24.mono (by decide) (by decide)⟩
  show Qrec Z a1 h0 n0 _ T23.heap _
  rw [e23]
  exact ⟨rfl, N0, rfl⟩
theorem d9_0 : decode jdk_31_method_11_code 0 = .ok (.aload_n 0, 1) := by decide +kernel
theorem d9_1 : decode jdk_31_method_11_code 1 = .ok (.ifnonnull 12, 3) := by decide +kernel
theorem d9_4 : decode jdk_31_method_11_code 4 = .ok (.new 84, 3) := by decide +kernel
theorem d9_7 : decode jdk_31_method_11_code 7 = .ok (.dup, 1) := by decide +kernel
theorem d9_8 : decode jdk_31_method_11_code 8 = .ok (.aload_n 1, 1) := by decide +kernel
theorem d9_9 : decode jdk_31_method_11_code 9 = .ok (.invokespecial 87, 3) := by decide +kernel
theorem d9_12 : decode jdk_31_method_11_code 12 = .ok (.athrow, 1) := by decide +kernel
theorem d9_13 : decode jdk_31_method_11_code 13 = .ok (.aload_n 0, 1) := by decide +kernel
theorem d9_14 : decode jdk_31_method_11_code 14 = .ok (.areturn, 1) := by decide +kernel
theorem pn_java_util_Objects : plainName "java/util/Objects" = true := by first | (simp [plainName, overriddenIn]; done) | decide +kernel
theorem ef_rq (m : MethodId) (x0 : Addr) (x1 : Addr) : entryFrame m #[(.ref x0), (.ref x1)] 2 = mkF m 0 #[.val (.ref x0), .val (.ref x1)] [] := by first | (simp [entryFrame, mkF, argsToLocals, Value.category]; done) | rfl
def Qrq (Z : State) (a1 : Addr) (a2 : Addr) (h0 : Heap) (n0 : Nat) (v : Option Value) (h : Heap) (L : List Loc) : Prop := v = some (.ref a1) ∧ Fr n0 L ∧ h = h0
abbrev Grq (Z : State) (a1 : Addr) (a2 : Addr) (h0 : Heap) (n0 : Nat) (s : State) : Outcome → State → Prop := fun o U' => ∃ v L, o = .returned v ∧ Qrq Z a1 a2 h0 n0 v U'.heap L ∧ FrameEnd s o U' L ({ frames := 0, cells := 0, slots := 0, locals := 0 } : Room).cells ({ frames := 0, cells := 0, slots := 0, locals := 0 } : Room).slots
set_option maxRecDepth 65536 in
set_option maxHeartbeats 40000000 in
theorem rmrq (l : Launch) (Z : State) (a0 : Array Value) (hw : ∀ d ∈ tables_1, d.before a0 Z = true) (ws : List Jvm.Cond) (a1 : Addr) (a2 : Addr) (h0 : Heap) (n0 : Nat) (Z0 : n0 ≤ h0.size)  :
    MetFree l (⟨"java/util/Objects", "requireNonNull", "(Ljava/lang/Object;Ljava/lang/String;)Ljava/lang/Object;"⟩ : MethodName) (head1 (Jvm.Cond.code (⟨"java/util/Objects", "requireNonNull", "(Ljava/lang/Object;Ljava/lang/String;)Ljava/lang/Object;"⟩ : MethodName) jdk_31_method_11_code 2 (some (.object "java/lang/Object")) :: ws) ({ frames := 0, cells := 0, slots := 0, locals := 0 } : Room)) (fun a U => a = #[(.ref a1), (.ref a2)] ∧ Z.Warmed39 U.vm ∧ U.heap = h0) (fun _ _ _ _ _ => True) (fun _ U o U' => ∃ v L, o = .returned v ∧ Qrq Z a1 a2 h0 n0 v U'.heap L ∧ FrameEnd U o U' L ({ frames := 0, cells := 0, slots := 0, locals := 0 } : Room).cells ({ frames := 0, cells := 0, slots := 0, locals := 0 } : Room).slots) := by
  refine MetFree.of_bodySF (plainFor_of_name pn_java_util_Objects) hisR ?_
  intro p e s m args below meth c s₁ Bd hml0 hP hK
  obtain ⟨rfl, hZ, hh⟩ := hP
  have hx := Bd.exec
  have hby := Bd.bytes
  have hml : c.maxLocals = 2 := hml0
  have hown : s.vm.findClass "java/util/Objects" = some m.cls := findClass_of_methodNamed Bd.named
  have hnm := (name_of_methodNamed Bd.named Bd.method).1
  have X0 : Stand p l e ({ frames := 0, cells := 0, slots := 0, locals := 0 } : Room) s m #[(.ref a1), (.ref a2)] below meth c s₁ [] 0 0 := Stand.of_body Bd
  have e0 : s₁.heap = h0 := by rw [← hh, Bd.state]; rfl
  have es0 : s.heap = h0 := hh
  have N0 := Fr.nil n0
  show own_Fin p e below (Grq Z a1 a2 h0 n0 s) (s₁.setTop (entryFrame m #[(.ref a1), (.ref a2)] 2))
  rw [ef_rq m a1 a2]
  refine own_go (XS.aloadN X0.here hx rfl (hb hby d9_0) rfl rfl (Steps.refl _)) ?_
  show own_Fin _ _ _ _ (s₁.setTop (mkF m 1 #[rv a1, rv a2] [(.ref a1)]))
  refine own_go (XS.ifnonnullYes X0.here hx rfl (pc0 := 1) (pc' := 13) rfl (hb hby d9_1) rfl (by decide) (by decide) (Steps.refl _)) ?_
  show own_Fin _ _ _ _ (s₁.setTop (mkF m 13 #[rv a1, rv a2] []))
  refine own_go (XS.aloadN X0.here hx rfl (hb hby d9_13) rfl rfl (Steps.refl _)) ?_
  show own_Fin _ _ _ _ (s₁.setTop (mkF m 14 #[rv a1, rv a2] [(.ref a1)]))
  obtain ⟨fs25, hr25, hrun25, hended25, hW25, hsame25⟩ := X0.leave (v := some (.ref a1)) (fun h => by rw [Bd.returns] at h; cases h)
  refine own_done (retOut X0 hx Bd.returns rfl (Or.inr (Or.inr (Or.inr (Or.inr ⟨rfl, rfl, rfl⟩)))) (hb hby d9_14) hr25) hrun25 hended25 ⟨_, _, rfl, ?_, ⟨_, rfl⟩, hW25, hsame25.mono (by decide) (by decide)⟩
  show Qrq Z a1 a2 h0 n0 _ s₁.heap _
  rw [e0]
  exact ⟨rfl, N0, rfl⟩
theorem d7_0 : decode prog_6_method_1_code 0 = .ok (.aload_n 0, 1) := by decide +kernel
theorem d7_1 : decode prog_6_method_1_code 1 = .ok (.invokespecial 1, 3) := by decide +kernel
theorem d7_4 : decode prog_6_method_1_code 4 = .ok (.aload_n 3, 1) := by decide +kernel
theorem d7_5 : decode prog_6_method_1_code 5 = .ok (.ldc 7, 2) := by decide +kernel
theorem d7_7 : decode prog_6_method_1_code 7 = .ok (.invokestatic 9, 3) := by decide +kernel
theorem d7_10 : decode prog_6_method_1_code 10 = .ok (.pop, 1) := by decide +kernel
theorem d7_11 : decode prog_6_method_1_code 11 = .ok (.aload 4, 2) := by decide +kernel
theorem d7_13 : decode prog_6_method_1_code 13 = .ok (.ldc 15, 2) := by decide +kernel
theorem d7_15 : decode prog_6_method_1_code 15 = .ok (.invokestatic 9, 3) := by decide +kernel
theorem d7_18 : decode prog_6_method_1_code 18 = .ok (.pop, 1) := by decide +kernel
theorem d7_19 : decode prog_6_method_1_code 19 = .ok (.iload_n 2, 1) := by decide +kernel
theorem d7_20 : decode prog_6_method_1_code 20 = .ok (.ifCond .ge 13, 3) := by decide +kernel
theorem d7_23 : decode prog_6_method_1_code 23 = .ok (.new 17, 3) := by decide +kernel
theorem d7_26 : decode prog_6_method_1_code 26 = .ok (.dup, 1) := by decide +kernel
theorem d7_27 : decode prog_6_method_1_code 27 = .ok (.ldc 19, 2) := by decide +kernel
theorem d7_29 : decode prog_6_method_1_code 29 = .ok (.invokespecial 21, 3) := by decide +kernel
theorem d7_32 : decode prog_6_method_1_code 32 = .ok (.athrow, 1) := by decide +kernel
theorem d7_33 : decode prog_6_method_1_code 33 = .ok (.aload_n 0, 1) := by decide +kernel
theorem d7_34 : decode prog_6_method_1_code 34 = .ok (.aload_n 1, 1) := by decide +kernel
theorem d7_35 : decode prog_6_method_1_code 35 = .ok (.putfield 24, 3) := by decide +kernel
theorem d7_38 : decode prog_6_method_1_code 38 = .ok (.aload_n 0, 1) := by decide +kernel
theorem d7_39 : decode prog_6_method_1_code 39 = .ok (.iload_n 2, 1) := by decide +kernel
theorem d7_40 : decode prog_6_method_1_code 40 = .ok (.putfield 30, 3) := by decide +kernel
theorem d7_43 : decode prog_6_method_1_code 43 = .ok (.aload_n 0, 1) := by decide +kernel
theorem d7_44 : decode prog_6_method_1_code 44 = .ok (.aload_n 3, 1) := by decide +kernel
theorem d7_45 : decode prog_6_method_1_code 45 = .ok (.putfield 34, 3) := by decide +kernel
theorem d7_48 : decode prog_6_method_1_code 48 = .ok (.aload_n 0, 1) := by decide +kernel
theorem d7_49 : decode prog_6_method_1_code 49 = .ok (.aload 4, 2) := by decide +kernel
theorem d7_51 : decode prog_6_method_1_code 51 = .ok (.putfield 38, 3) := by decide +kernel
theorem d7_54 : decode prog_6_method_1_code 54 = .ok (.return_, 1) := by decide +kernel
theorem pn_com_example_headwright_headwright_Diagnostic : plainName "com/example/headwright/headwright/Diagnostic" = true := by first | (simp [plainName, overriddenIn]; done) | decide +kernel
theorem ef_di_n (m : MethodId) (x0 : Addr) (x2 : Int32) (x3 : Addr) (x4 : Addr) : entryFrame m #[(.ref x0), .null, (.int x2), (.ref x3), (.ref x4)] 5 = mkF m 0 #[.val (.ref x0), .val .null, .val (.int x2), .val (.ref x3), .val (.ref x4)] [] := by first | (simp [entryFrame, mkF, argsToLocals, Value.category]; done) | rfl
def Qdi_n (Z : State) (a1 : Addr) (p3 : Int32) (a4 : Addr) (a5 : Addr) (h0 : Heap) (n0 : Nat) (v : Option Value) (h : Heap) (L : List Loc) : Prop := v = none ∧ Fr n0 L ∧ Keep h0 h [a1] ∧ Exa Z h a1 "com/example/headwright/headwright/Diagnostic" ∧ Fld Z h a1 "com/example/headwright/headwright/Diagnostic" "file" "Ljava/lang/String;" .null ∧ Fld Z h a1 "com/example/headwright/headwright/Diagnostic" "line" "I" (.int p3) ∧ Fld Z h a1 "com/example/headwright/headwright/Diagnostic" "severity" "Lcom/example/headwright/headwright/Diagnostic$Severity;" (.ref a4) ∧ Fld Z h a1 "com/example/headwright/headwright/Diagnostic" "message" "Ljava/lang/String;" (.ref a5)
abbrev Gdi_n (Z : State) (a1 : Addr) (p3 : Int32) (a4 : Addr) (a5 : Addr) (h0 : Heap) (n0 : Nat) (s : State) : Outcome → State → Prop := fun o U' => ∃ v L, o = .returned v ∧ Qdi_n Z a1 p3 a4 a5 h0 n0 v U'.heap L ∧ ReturnedEndW s o U' L ({ frames := 2, cells := 4, slots := 204, locals := 40 } : Room).cells ({ frames := 2, cells := 4, slots := 204, locals := 40 } : Room).slots
theorem pd__28__29_V : parseMethodDescriptor "()V" = some ⟨[], none⟩ := by decide +kernel
theorem pd__28_Ljava_2f_lang_2f_Object_3b_Ljava_2f_lang_2f_String_3b__29_Ljava_2f_lang_2f_Object_3b_ : parseMethodDescriptor "(Ljava/lang/Object;Ljava/lang/String;)Ljava/lang/Object;" = some ⟨[(.object "java/lang/Object"), (.object "java/lang/String")], some (.object "java/lang/Object")⟩ := by decide +kernel
set_option maxRecDepth 65536 in
set_option maxHeartbeats 40000000 in
theorem rmdi_n (l : Launch) (Z : State) (a0 : Array Value) (hw : ∀ d ∈ tables_1, d.before a0 Z = true) (ws : List Jvm.Cond) (a1 : Addr) (p3 : Int32) (a4 : Addr) (a5 : Addr) (h0 : Heap) (n0 : Nat) (Z0 : n0 ≤ h0.size) (E_a1 : Exa Z h0 a1 "com/example/headwright/headwright/Diagnostic") (F_file_a1 : Fld Z h0 a1 "com/example/headwright/headwright/Diagnostic" "file" "Ljava/lang/String;" .null) (F_line_a1 : Fld Z h0 a1 "com/example/headwright/headwright/Diagnostic" "line" "I" (.int (0 : Int32))) (F_severity_a1 : Fld Z h0 a1 "com/example/headwright/headwright/Diagnostic" "severity" "Lcom/example/headwright/headwright/Diagnostic$Severity;" .null) (F_message_a1 : Fld Z h0 a1 "com/example/headwright/headwright/Diagnostic" "message" "Ljava/lang/String;" .null) (g_a1 : n0 ≤ a1) (hln : ¬ p3 < (0 : Int32)) (E_a4 : Exa Z h0 a4 "com/example/headwright/headwright/Diagnostic$Severity") (E_a5 : Exa Z h0 a5 "java/lang/String") :
    MetFree l (⟨"com/example/headwright/headwright/Diagnostic", "<init>", "(Ljava/lang/String;ILcom/example/headwright/headwright/Diagnostic$Severity;Ljava/lang/String;)V"⟩ : MethodName) (head1 (Jvm.Cond.code (⟨"com/example/headwright/headwright/Diagnostic", "<init>", "(Ljava/lang/String;ILcom/example/headwright/headwright/Diagnostic$Severity;Ljava/lang/String;)V"⟩ : MethodName) prog_6_method_1_code 5 none :: ws) ({ frames := 2, cells := 4, slots := 204, locals := 40 } : Room)) (fun a U => a = #[(.ref a1), .null, (.int p3), (.ref a4), (.ref a5)] ∧ Z.Warmed39 U.vm ∧ U.heap = h0) (fun _ _ _ _ _ => True) (fun _ U o U' => ∃ v L, o = .returned v ∧ Qdi_n Z a1 p3 a4 a5 h0 n0 v U'.heap L ∧ ReturnedEndW U o U' L ({ frames := 2, cells := 4, slots := 204, locals := 40 } : Room).cells ({ frames := 2, cells := 4, slots := 204, locals := 40 } : Room).slots) := by
  refine MetFree.of_bodySF (plainFor_of_name pn_com_example_headwright_headwright_Diagnostic) hisR ?_
  intro p e s m args below meth c s₁ Bd hml0 hP hK
  obtain ⟨rfl, hZ, hh⟩ := hP
  have hx := Bd.exec
  have hby := Bd.bytes
  have hml : c.maxLocals = 5 := hml0
  have hown : s.vm.findClass "com/example/headwright/headwright/Diagnostic" = some m.cls := findClass_of_methodNamed Bd.named
  have hnm := (name_of_methodNamed Bd.named Bd.method).1
  have X0 : Stand p l e ({ frames := 2, cells := 4, slots := 204, locals := 40 } : Room) s m #[(.ref a1), .null, (.int p3), (.ref a4), (.ref a5)] below meth c s₁ [] 0 0 := Stand.of_body Bd
  have e0 : s₁.heap = h0 := by rw [← hh, Bd.state]; rfl
  have es0 : s.heap = h0 := hh
  have N0 := Fr.nil n0
  show own_Fin p e below (Gdi_n Z a1 p3 a4 a5 h0 n0 s) (s₁.setTop (entryFrame m #[(.ref a1), .null, (.int p3), (.ref a4), (.ref a5)] 5))
  rw [ef_di_n m a1 p3 a4 a5]
  have X0w : Stand p l e ({ frames := 2, cells := 4, slots := 204, locals := 40 } : Room) (s.setVm s.vm) m #[(.ref a1), .null, (.int p3), (.ref a4), (.ref a5)] below meth c s₁ [] 0 0 := X0
  have hS0 : s.Since s.vm 0 := (State.WarmedH.refl s).since 0
  have hk0 : 0 ≤ h0.size := Nat.zero_le _
  have Kz := Keep.refl h0 [a1]
  have wS : ∀ a ∈ Bundle.stringAtoms, a.before a0 Z = true := by
    intro d hd
    simp only [Bundle.stringAtoms, List.mem_cons, List.not_mem_nil, or_false] at hd
    rcases hd with rfl | rfl | rfl | rfl | rfl | rfl | rfl
    · exact (hw _ (List.mem_of_getElem? (i := 4) rfl))
    · exact (hw _ (List.mem_of_getElem? (i := 3) rfl))
    · exact (hw _ (List.mem_of_getElem? (i := 20) rfl))
    · exact (hw _ (List.mem_of_getElem? (i := 30) rfl))
    · exact (hw _ (List.mem_of_getElem? (i := 28) rfl))
    · exact (hw _ (List.mem_of_getElem? (i := 47) rfl))
    · exact (hw _ (List.mem_of_getElem? (i := 48) rfl))
  refine own_go (XS.aloadN X0w.here hx rfl (hb hby d7_0) rfl rfl (Steps.refl _)) ?_
  show own_Fin _ _ _ _ (s₁.setTop (mkF m 1 #[rv a1, .val .null, iv p3, rv a4, rv a5] [(.ref a1)]))
  obtain ⟨_, _, ⟨T26, L26, k26, n26⟩, -, X26, ⟨Lc26, hQ26, l26, y26, z26⟩, st26⟩ := X0w.specialBack hx (y := (⟨"java/lang/Record", "<init>", "()V"⟩ : MethodName)) rfl hown (mvT hZ (hw _ (List.mem_of_getElem? (i := 40) rfl))) (mvT hZ (hw _ (List.mem_of_getElem? (i := 41) rfl))) (mvT hZ (hw _ (List.mem_of_getElem? (i := 44) rfl))) (by decide) (backOf (W := 0) (rmrec l Z a0 hw [] a1 h0 n0 Z0) hZ (hw _ (List.mem_of_getElem? (i := 44) rfl)) (hw _ (List.mem_of_getElem? (i := 43) rfl)) (by decide) (by decide)) (g := (mkF m 1 #[rv a1, .val .null, iv p3, rv a4, rv a5] [(.ref a1)])) rfl (by rw [hml]; rfl) (Steps.refl _) (a := a1) (argsL := []) (rest := []) (lenOf pd__28__29_V rfl) rfl (by show 2 * 0 + _ ≤ _; exact Nat.le_of_eq rfl) (hb hby d7_1) (fun _ _ => ⟨rfl, e0, (by decide : 0 + 0 ≤ _), (by decide : 0 + 0 ≤ _)⟩)
  dsimp only [Pt.U, Pt.locs, Pt.cells, Pt.slots] at X26 l26 y26 z26 st26 hQ26
  subst l26 y26 z26
  obtain ⟨rfl, Nq26, e26⟩ := hQ26
  refine own_go st26 ?_
  have N26 := Fr.app N0 Nq26
  show own_Fin _ _ _ _ (T26.setTop (mkF m 4 #[rv a1, .val .null, iv p3, rv a4, rv a5] []))
  refine own_go (XS.aloadN X26.here hx rfl (hb hby d7_4) rfl rfl (Steps.refl _)) ?_
  show own_Fin _ _ _ _ (T26.setTop (mkF m 5 #[rv a1, .val .null, iv p3, rv a4, rv a5] [(.ref a4)]))
  obtain ⟨a27, T27, h27, k27, X27, e27, E27, hS27, hk27, hZ27, hown27, st27⟩ := ldcS (s := s) (vm0 := s.vm) X26 hx hZ hown (hw _ (List.mem_of_getElem? (i := 46) rfl)) wS e26 hS0 hk0 (g := (mkF m 5 #[rv a1, .val .null, iv p3, rv a4, rv a5] [(.ref a4)])) rfl (hb hby d7_5) (n := 100) (by decide) (by decide) (by decide) (by decide)
  refine own_by st27 ?_
  have E_a1_27 := E_a1.ext E27
  have F_file_a1_27 := F_file_a1.ext E27
  have F_line_a1_27 := F_line_a1.ext E27
  have F_severity_a1_27 := F_severity_a1.ext E27
  have F_message_a1_27 := F_message_a1.ext E27
  have E_a4_27 := E_a4.ext E27
  have E_a5_27 := E_a5.ext E27
  have Z27 : n0 ≤ h27.size := Nat.le_trans Z0 E27.1
  have K27 := Kz.ext E27
  show own_Fin _ _ _ _ (T27.setTop (mkF m 7 #[rv a1, .val .null, iv p3, rv a4, rv a5] [(.ref a27), (.ref a4)]))
  obtain ⟨_, _, ⟨T28, L28, k28, n28⟩, -, X28, ⟨Lc28, hQ28, l28, y28, z28⟩, st28⟩ := Jvm.LawKit.callS X27 hx (y := (⟨"java/util/Objects", "requireNonNull", "(Ljava/lang/Object;Ljava/lang/String;)Ljava/lang/Object;"⟩ : MethodName)) hown27 (mvT hZ27 (hw _ (List.mem_of_getElem? (i := 49) rfl))) (mvT hZ27 (hw _ (List.mem_of_getElem? (i := 50) rfl))) (mvT hZ27 (hw _ (List.mem_of_getElem? (i := 51) rfl))) (mvT hZ27 (hw _ (List.mem_of_getElem? (i := 52) rfl))) (by decide) (backOf (W := 0) (rmrq l Z a0 hw [] a4 a27 h27 n0 Z27) hZ27 (hw _ (List.mem_of_getElem? (i := 52) rfl)) (hw _ (List.mem_of_getElem? (i := 51) rfl)) (by decide) (by decide)) (g := (mkF m 7 #[rv a1, .val .null, iv p3, rv a4, rv a5] [(.ref a27), (.ref a4)])) rfl (by rw [hml]; rfl) (argsL := [(.ref a4), (.ref a27)]) (rest := []) (lenOf pd__28_Ljava_2f_lang_2f_Object_3b_Ljava_2f_lang_2f_String_3b__29_Ljava_2f_lang_2f_Object_3b_ rfl) rfl (by show 2 * 0 + _ ≤ _; exact Nat.le_of_eq rfl) (hb hby d7_7) (fun _ _ => ⟨rfl, e27, (by decide : 2 + 0 ≤ _), (by decide : 104 + 0 ≤ _)⟩)
  dsimp only [Pt.U, Pt.locs, Pt.cells, Pt.slots] at X28 l28 y28 z28 st28 hQ28
  subst l28 y28 z28
  obtain ⟨rfl, Nq28, e28⟩ := hQ28
  refine own_by st28 ?_
  have N28 := Fr.app N26 Nq28
  show own_Fin _ _ _ _ (T28.setTop (mkF m 10 #[rv a1, .val .null, iv p3, rv a4, rv a5] [(.ref a4)]))
  refine own_go (XS.pop X28.here hx rfl (hb hby d7_10) rfl rfl (Steps.refl _)) ?_
  show own_Fin _ _ _ _ (T28.setTop (mkF m 11 #[rv a1, .val .null, iv p3, rv a4, rv a5] []))
  refine own_go (XS.aload X28.here hx rfl (hb hby d7_11) rfl rfl (Steps.refl _)) ?_
  show own_Fin _ _ _ _ (T28.setTop (mkF m 13 #[rv a1, .val .null, iv p3, rv a4, rv a5] [(.ref a5)]))
  obtain ⟨a29, T29, h29, k29, X29, e29, E29, hS29, hk29, hZ29, hown29, st29⟩ := ldcS (s := s) (vm0 := T27.vm) X28 hx hZ27 hown27 (hw _ (List.mem_of_getElem? (i := 53) rfl)) wS e28 hS27 hk27 (g := (mkF m 13 #[rv a1, .val .null, iv p3, rv a4, rv a5] [(.ref a5)])) rfl (hb hby d7_13) (n := 96) (by decide) (by decide) (by decide) (by decide)
  refine own_by st29 ?_
  have E_a1_29 := E_a1_27.ext E29
  have F_file_a1_29 := F_file_a1_27.ext E29
  have F_line_a1_29 := F_line_a1_27.ext E29
  have F_severity_a1_29 := F_severity_a1_27.ext E29
  have F_message_a1_29 := F_message_a1_27.ext E29
  have E_a4_29 := E_a4_27.ext E29
  have E_a5_29 := E_a5_27.ext E29
  have Z29 : n0 ≤ h29.size := Nat.le_trans Z27 E29.1
  have K29 := K27.ext E29
  show own_Fin _ _ _ _ (T29.setTop (mkF m 15 #[rv a1, .val .null, iv p3, rv a4, rv a5] [(.ref a29), (.ref a5)]))
  obtain ⟨_, _, ⟨T30, L30, k30, n30⟩, -, X30, ⟨Lc30, hQ30, l30, y30, z30⟩, st30⟩ := Jvm.LawKit.callS X29 hx (y := (⟨"java/util/Objects", "requireNonNull", "(Ljava/lang/Object;Ljava/lang/String;)Ljava/lang/Object;"⟩ : MethodName)) hown29 (mvT hZ29 (hw _ (List.mem_of_getElem? (i := 49) rfl))) (mvT hZ29 (hw _ (List.mem_of_getElem? (i := 50) rfl))) (mvT hZ29 (hw _ (List.mem_of_getElem? (i := 51) rfl))) (mvT hZ29 (hw _ (List.mem_of_getElem? (i := 52) rfl))) (by decide) (backOf (W := 0) (rmrq l Z a0 hw [] a5 a29 h29 n0 Z29) hZ29 (hw _ (List.mem_of_getElem? (i := 52) rfl)) (hw _ (List.mem_of_getElem? (i := 51) rfl)) (by decide) (by decide)) (g := (mkF m 15 #[rv a1, .val .null, iv p3, rv a4, rv a5] [(.ref a29), (.ref a5)])) rfl (by rw [hml]; rfl) (argsL := [(.ref a5), (.ref a29)]) (rest := []) (lenOf pd__28_Ljava_2f_lang_2f_Object_3b_Ljava_2f_lang_2f_String_3b__29_Ljava_2f_lang_2f_Object_3b_ rfl) rfl (by show 2 * 0 + _ ≤ _; exact Nat.le_of_eq rfl) (hb hby d7_15) (fun _ _ => ⟨rfl, e29, (by decide : 4 + 0 ≤ _), (by decide : 204 + 0 ≤ _)⟩)
  dsimp only [Pt.U, Pt.locs, Pt.cells, Pt.slots] at X30 l30 y30 z30 st30 hQ30
  subst l30 y30 z30
  obtain ⟨rfl, Nq30, e30⟩ := hQ30
  refine own_by st30 ?_
  have N30 := Fr.app N28 Nq30
  show own_Fin _ _ _ _ (T30.setTop (mkF m 18 #[rv a1, .val .null, iv p3, rv a4, rv a5] [(.ref a5)]))
  refine own_go (XS.pop X30.here hx rfl (hb hby d7_18) rfl rfl (Steps.refl _)) ?_
  show own_Fin _ _ _ _ (T30.setTop (mkF m 19 #[rv a1, .val .null, iv p3, rv a4, rv a5] []))
  refine own_go (XS.iloadN X30.here hx rfl (hb hby d7_19) rfl (Steps.refl _)) ?_
  show own_Fin _ _ _ _ (T30.setTop (mkF m 20 #[rv a1, .val .null, iv p3, rv a4, rv a5] [(.int p3)]))
  refine own_go (XS.ifYes X30.here hx rfl (pc0 := 20) (pc' := 33) rfl (hb hby d7_20) rfl ((if0 _ _).trans (flt (show ¬ (p3 < (0 : Int32)) from hln)).2.1) (by decide) (by decide) (Steps.refl _)) ?_
  show own_Fin _ _ _ _ (T30.setTop (mkF m 33 #[rv a1, .val .null, iv p3, rv a4, rv a5] []))
  refine own_go (XS.aloadN X30.here hx rfl (hb hby d7_33) rfl rfl (Steps.refl _)) ?_
  show own_Fin _ _ _ _ (T30.setTop (mkF m 34 #[rv a1, .val .null, iv p3, rv a4, rv a5] [(.ref a1)]))
  refine own_go (XS.aloadN X30.here hx rfl (hb hby d7_34) rfl rfl (Steps.refl _)) ?_
  show own_Fin _ _ _ _ (T30.setTop (mkF m 35 #[rv a1, .val .null, iv p3, rv a4, rv a5] [.null, (.ref a1)]))
  obtain ⟨T31, h31, X31, e31, W31, st31⟩ := putF X30 hx hZ29 hown29 (host := "") (Or.inl (hw _ (List.mem_of_getElem? (i := 54) rfl))) Via.refl e30 F_file_a1_29 E_a1_29 (Or.inr ⟨(hw _ (List.mem_of_getElem? (i := 55) rfl)), rfl, hnm⟩) (hw _ (List.mem_of_getElem? (i := 35) rfl)) (ty := (.object "java/lang/String")) (by decide) rfl rfl (g := (mkF m 35 #[rv a1, .val .null, iv p3, rv a4, rv a5] [.null, (.ref a1)])) rfl rfl (hb hby d7_35)
  refine own_by st31 ?_
  have F_file_a1_31 := F_file_a1_29.same W31
  have E_a1_31 := E_a1_29.wr W31
  have F_line_a1_31 := F_line_a1_29.other W31 (Or.inr (slot_ne (Or.inr (hw _ (List.mem_of_getElem? (i := 57) rfl))) (Or.inr (hw _ (List.mem_of_getElem? (i := 55) rfl))) (by decide) (t := .int) (t' := (.object "java/lang/String")) (by decide) (by decide)))
  have F_severity_a1_31 := F_severity_a1_29.other W31 (Or.inr (slot_ne (Or.inr (hw _ (List.mem_of_getElem? (i := 59) rfl))) (Or.inr (hw _ (List.mem_of_getElem? (i := 55) rfl))) (by decide) (t := (.object "com/example/headwright/headwright/Diagnostic$Severity")) (t' := (.object "java/lang/String")) (by decide) (by decide)))
  have F_message_a1_31 := F_message_a1_29.other W31 (Or.inr (slot_ne (Or.inr (hw _ (List.mem_of_getElem? (i := 61) rfl))) (Or.inr (hw _ (List.mem_of_getElem? (i := 55) rfl))) (by decide) (t := (.object "java/lang/String")) (t' := (.object "java/lang/String")) (by decide) (by decide)))
  have E_a4_31 := E_a4_29.wr W31
  have E_a5_31 := E_a5_29.wr W31
  have N31 := Fr.snoc X31 N30 g_a1
  have Z31 : n0 ≤ h31.size := Nat.le_trans Z29 (Keep.of_wr W31).1
  have hk31 : k29 ≤ h31.size := Nat.le_trans hk29 (Keep.of_wr W31).1
  have K31 := K29.wr W31 (Or.inl (List.mem_of_getElem? (i := 0) rfl))
  show own_Fin _ _ _ _ (T31.setTop (mkF m 38 #[rv a1, .val .null, iv p3, rv a4, rv a5] []))
  refine own_go (XS.aloadN X31.here hx rfl (hb hby d7_38) rfl rfl (Steps.refl _)) ?_
  show own_Fin _ _ _ _ (T31.setTop (mkF m 39 #[rv a1, .val .null, iv p3, rv a4, rv a5] [(.ref a1)]))
  refine own_go (XS.iloadN X31.here hx rfl (hb hby d7_39) rfl (Steps.refl _)) ?_
  show own_Fin _ _ _ _ (T31.setTop (mkF m 40 #[rv a1, .val .null, iv p3, rv a4, rv a5] [(.int p3), (.ref a1)]))
  obtain ⟨T32, h32, X32, e32, W32, st32⟩ := putF X31 hx hZ29 hown29 (host := "") (Or.inl (hw _ (List.mem_of_getElem? (i := 56) rfl))) Via.refl e31 F_line_a1_31 E_a1_31 (Or.inr ⟨(hw _ (List.mem_of_getElem? (i := 57) rfl)), rfl, hnm⟩) (hw _ (List.mem_of_getElem? (i := 35) rfl)) (ty := .int) (by decide) rfl rfl (g := (mkF m 40 #[rv a1, .val .null, iv p3, rv a4, rv a5] [(.int p3), (.ref a1)])) rfl rfl (hb hby d7_40)
  refine own_by st32 ?_
  have F_line_a1_32 := F_line_a1_31.same W32
  have E_a1_32 := E_a1_31.wr W32
  have F_file_a1_32 := F_file_a1_31.other W32 (Or.inr (slot_ne (Or.inr (hw _ (List.mem_of_getElem? (i := 55) rfl))) (Or.inr (hw _ (List.mem_of_getElem? (i := 57) rfl))) (by decide) (t := (.object "java/lang/String")) (t' := .int) (by decide) (by decide)))
  have F_severity_a1_32 := F_severity_a1_31.other W32 (Or.inr (slot_ne (Or.inr (hw _ (List.mem_of_getElem? (i := 59) rfl))) (Or.inr (hw _ (List.mem_of_getElem? (i := 57) rfl))) (by decide) (t := (.object "com/example/headwright/headwright/Diagnostic$Severity")) (t' := .int) (by decide) (by decide)))
  have F_message_a1_32 := F_message_a1_31.other W32 (Or.inr (slot_ne (Or.inr (hw _ (List.mem_of_getElem? (i := 61) rfl))) (Or.inr (hw _ (List.mem_of_getElem? (i := 57) rfl))) (by decide) (t := (.object "java/lang/String")) (t' := .int) (by decide) (by decide)))
  have E_a4_32 := E_a4_31.wr W32
  have E_a5_32 := E_a5_31.wr W32
  have N32 := Fr.snoc X32 N31 g_a1
  have Z32 : n0 ≤ h32.size := Nat.le_trans Z31 (Keep.of_wr W32).1
  have hk32 : k29 ≤ h32.size := Nat.le_trans hk31 (Keep.of_wr W32).1
  have K32 := K31.wr W32 (Or.inl (List.mem_of_getElem? (i := 0) rfl))
  show own_Fin _ _ _ _ (T32.setTop (mkF m 43 #[rv a1, .val .null, iv p3, rv a4, rv a5] []))
  refine own_go (XS.aloadN X32.here hx rfl (hb hby d7_43) rfl rfl (Steps.refl _)) ?_
  show own_Fin _ _ _ _ (T32.setTop (mkF m 44 #[rv a1, .val .null, iv p3, rv a4, rv a5] [(.ref a1)]))
  refine own_go (XS.aloadN X32.here hx rfl (hb hby d7_44) rfl rfl (Steps.refl _)) ?_
  show own_Fin _ _ _ _ (T32.setTop (mkF m 45 #[rv a1, .val .null, iv p3, rv a4, rv a5] [(.ref a4), (.ref a1)]))
  obtain ⟨T33, h33, X33, e33, W33, st33⟩ := putF X32 hx hZ29 hown29 (host := "") (Or.inl (hw _ (List.mem_of_getElem? (i := 58) rfl))) Via.refl e32 F_severity_a1_32 E_a1_32 (Or.inr ⟨(hw _ (List.mem_of_getElem? (i := 59) rfl)), rfl, hnm⟩) (hw _ (List.mem_of_getElem? (i := 35) rfl)) (ty := (.object "com/example/headwright/headwright/Diagnostic$Severity")) (by decide) rfl rfl (g := (mkF m 45 #[rv a1, .val .null, iv p3, rv a4, rv a5] [(.ref a4), (.ref a1)])) rfl rfl (hb hby d7_45)
  refine own_by st33 ?_
  have F_severity_a1_33 := F_severity_a1_32.same W33
  have E_a1_33 := E_a1_32.wr W33
  have F_file_a1_33 := F_file_a1_32.other W33 (Or.inr (slot_ne (Or.inr (hw _ (List.mem_of_getElem? (i := 55) rfl))) (Or.inr (hw _ (List.mem_of_getElem? (i := 59) rfl))) (by decide) (t := (.object "java/lang/String")) (t' := (.object "com/example/headwright/headwright/Diagnostic$Severity")) (by decide) (by decide)))
  have F_line_a1_33 := F_line_a1_32.other W33 (Or.inr (slot_ne (Or.inr (hw _ (List.mem_of_getElem? (i := 57) rfl))) (Or.inr (hw _ (List.mem_of_getElem? (i := 59) rfl))) (by decide) (t := .int) (t' := (.object "com/example/headwright/headwright/Diagnostic$Severity")) (by decide) (by decide)))
  have F_message_a1_33 := F_message_a1_32.other W33 (Or.inr (slot_ne (Or.inr (hw _ (List.mem_of_getElem? (i := 61) rfl))) (Or.inr (hw _ (List.mem_of_getElem? (i := 59) rfl))) (by decide) (t := (.object "java/lang/String")) (t' := (.object "com/example/headwright/headwright/Diagnostic$Severity")) (by decide) (by decide)))
  have E_a4_33 := E_a4_32.wr W33
  have E_a5_33 := E_a5_32.wr W33
  have N33 := Fr.snoc X33 N32 g_a1
  have Z33 : n0 ≤ h33.size := Nat.le_trans Z32 (Keep.of_wr W33).1
  have hk33 : k29 ≤ h33.size := Nat.le_trans hk32 (Keep.of_wr W33).1
  have K33 := K32.wr W33 (Or.inl (List.mem_of_getElem? (i := 0) rfl))
  show own_Fin _ _ _ _ (T33.setTop (mkF m 48 #[rv a1, .val .null, iv p3, rv a4, rv a5] []))
  refine own_go (XS.aloadN X33.here hx rfl (hb hby d7_48) rfl rfl (Steps.refl _)) ?_
  show own_Fin _ _ _ _ (T33.setTop (mkF m 49 #[rv a1, .val .null, iv p3, rv a4, rv a5] [(.ref a1)]))
  refine own_go (XS.aload X33.here hx rfl (hb hby d7_49) rfl rfl (Steps.refl _)) ?_
  show own_Fin _ _ _ _ (T33.setTop (mkF m 51 #[rv a1, .val .null, iv p3, rv a4, rv a5] [(.ref a5), (.ref a1)]))
  obtain ⟨T34, h34, X34, e34, W34, st34⟩ := putF X33 hx hZ29 hown29 (host := "") (Or.inl (hw _ (List.mem_of_getElem? (i := 60) rfl))) Via.refl e33 F_message_a1_33 E_a1_33 (Or.inr ⟨(hw _ (List.mem_of_getElem? (i := 61) rfl)), rfl, hnm⟩) (hw _ (List.mem_of_getElem? (i := 35) rfl)) (ty := (.object "java/lang/String")) (by decide) rfl rfl (g := (mkF m 51 #[rv a1, .val .null, iv p3, rv a4, rv a5] [(.ref a5), (.ref a1)])) rfl rfl (hb hby d7_51)
  refine own_by st34 ?_
  have F_message_a1_34 := F_message_a1_33.same W34
  have E_a1_34 := E_a1_33.wr W34
  have F_file_a1_34 := F_file_a1_33.other W34 (Or.inr (slot_ne (Or.inr (hw _ (List.mem_of_getElem? (i := 55) rfl))) (Or.inr (hw _ (List.mem_of_getElem? (i := 61) rfl))) (by decide) (t := (.object "java/lang/String")) (t' := (.object "java/lang/String")) (by decide) (by decide)))
  have F_line_a1_34 := F_line_a1_33.other W34 (Or.inr (slot_ne (Or.inr (hw _ (List.mem_of_getElem? (i := 57) rfl))) (Or.inr (hw _ (List.mem_of_getElem? (i := 61) rfl))) (by decide) (t := .int) (t' := (.object "java/lang/String")) (by decide) (by decide)))
  have F_severity_a1_34 := F_severity_a1_33.other W34 (Or.inr (slot_ne (Or.inr (hw _ (List.mem_of_getElem? (i := 59) rfl))) (Or.inr (hw _ (List.mem_of_getElem? (i := 61) rfl))) (by decide) (t := (.object "com/example/headwright/headwright/Diagnostic$Severity")) (t' := (.object "java/lang/String")) (by decide) (by decide)))
  have E_a4_34 := E_a4_33.wr W34
  have E_a5_34 := E_a5_33.wr W34
  have N34 := Fr.snoc X34 N33 g_a1
  have Z34 : n0 ≤ h34.size := Nat.le_trans Z33 (Keep.of_wr W34).1
  have hk34 : k29 ≤ h34.size := Nat.le_trans hk33 (Keep.of_wr W34).1
  have K34 := K33.wr W34 (Or.inl (List.mem_of_getElem? (i := 0) rfl))
  show own_Fin _ _ _ _ (T34.setTop (mkF m 54 #[rv a1, .val .null, iv p3, rv a4, rv a5] []))
  obtain ⟨fs35, hr35, hrun35, hended35, hRW35⟩ := X34.leaveW (s := s) hS29 (n := k29) (by rw [e34]; exact hk34) (v := none) (fun _ => rfl)
  refine own_done (X34.returnOut hx Bd.returns (hb hby d7_54) hr35) hrun35 hended35 ⟨_, _, rfl, ?_, hRW35.1, hRW35.2.1, hRW35.2.2.1, hRW35.2.2.2.mono (by decide) (by decide)⟩
  show Qdi_n Z a1 p3 a4 a5 h0 n0 _ T34.heap _
  rw [e34]
  exact ⟨rfl, N34, K34, E_a1_34, F_file_a1_34, F_line_a1_34, F_severity_a1_34, F_message_a1_34⟩
theorem ef_di_r (m : MethodId) (x0 : Addr) (x1 : Addr) (x2 : Int32) (x3 : Addr) (x4 : Addr) : entryFrame m #[(.ref x0), (.ref x1), (.int x2), (.ref x3), (.ref x4)] 5 = mkF m 0 #[.val (.ref x0), .val (.ref x1), .val (.int x2), .val (.ref x3), .val (.ref x4)] [] := by first | (simp [entryFrame, mkF, argsToLocals, Value.category]; done) | rfl
def Qdi_r (Z : State) (a1 : Addr) (a2 : Addr) (p3 : Int32) (a4 : Addr) (a5 : Addr) (h0 : Heap) (n0 : Nat) (v : Option Value) (h : Heap) (L : List Loc) : Prop := v = none ∧ Fr n0 L ∧ Keep h0 h [a1] ∧ Exa Z h a1 "com/example/headwright/headwright/Diagnostic" ∧ Fld Z h a1 "com/example/headwright/headwright/Diagnostic" "file" "Ljava/lang/String;" (.ref a2) ∧ Fld Z h a1 "com/example/headwright/headwright/Diagnostic" "line" "I" (.int p3) ∧ Fld Z h a1 "com/example/headwright/headwright/Diagnostic" "severity" "Lcom/example/headwright/headwright/Diagnostic$Severity;" (.ref a4) ∧ Fld Z h a1 "com/example/headwright/headwright/Diagnostic" "message" "Ljava/lang/String;" (.ref a5)
abbrev Gdi_r (Z : State) (a1 : Addr) (a2 : Addr) (p3 : Int32) (a4 : Addr) (a5 : Addr) (h0 : Heap) (n0 : Nat) (s : State) : Outcome → State → Prop := fun o U' => ∃ v L, o = .returned v ∧ Qdi_r Z a1 a2 p3 a4 a5 h0 n0 v U'.heap L ∧ ReturnedEndW s o U' L ({ frames := 2, cells := 4, slots := 204, locals := 40 } : Room).cells ({ frames := 2, cells := 4, slots := 204, locals := 40 } : Room).slots
set_option maxRecDepth 65536 in
set_option maxHeartbeats 40000000 in
theorem rmdi_r (l : Launch) (Z : State) (a0 : Array Value) (hw : ∀ d ∈ tables_1, d.before a0 Z = true) (ws : List Jvm.Cond) (a1 : Addr) (a2 : Addr) (p3 : Int32) (a4 : Addr) (a5 : Addr) (h0 : Heap) (n0 : Nat) (Z0 : n0 ≤ h0.size) (E_a1 : Exa Z h0 a1 "com/example/headwright/headwright/Diagnostic") (F_file_a1 : Fld Z h0 a1 "com/example/headwright/headwright/Diagnostic" "file" "Ljava/lang/String;" .null) (F_line_a1 : Fld Z h0 a1 "com/example/headwright/headwright/Diagnostic" "line" "I" (.int (0 : Int32))) (F_severity_a1 : Fld Z h0 a1 "com/example/headwright/headwright/Diagnostic" "severity" "Lcom/example/headwright/headwright/Diagnostic$Severity;" .null) (F_message_a1 : Fld Z h0 a1 "com/example/headwright/headwright/Diagnostic" "message" "Ljava/lang/String;" .null) (g_a1 : n0 ≤ a1) (hln : ¬ p3 < (0 : Int32)) (E_a2 : Exa Z h0 a2 "java/lang/String") (E_a4 : Exa Z h0 a4 "com/example/headwright/headwright/Diagnostic$Severity") (E_a5 : Exa Z h0 a5 "java/lang/String") :
    MetFree l (⟨"com/example/headwright/headwright/Diagnostic", "<init>", "(Ljava/lang/String;ILcom/example/headwright/headwright/Diagnostic$Severity;Ljava/lang/String;)V"⟩ : MethodName) (head1 (Jvm.Cond.code (⟨"com/example/headwright/headwright/Diagnostic", "<init>", "(Ljava/lang/String;ILcom/example/headwright/headwright/Diagnostic$Severity;Ljava/lang/String;)V"⟩ : MethodName) prog_6_method_1_code 5 none :: ws) ({ frames := 2, cells := 4, slots := 204, locals := 40 } : Room)) (fun a U => a = #[(.ref a1), (.ref a2), (.int p3), (.ref a4), (.ref a5)] ∧ Z.Warmed39 U.vm ∧ U.heap = h0) (fun _ _ _ _ _ => True) (fun _ U o U' => ∃ v L, o = .returned v ∧ Qdi_r Z a1 a2 p3 a4 a5 h0 n0 v U'.heap L ∧ ReturnedEndW U o U' L ({ frames := 2, cells := 4, slots := 204, locals := 40 } : Room).cells ({ frames := 2, cells := 4, slots := 204, locals := 40 } : Room).slots) := by
  refine MetFree.of_bodySF (plainFor_of_name pn_com_example_headwright_headwright_Diagnostic) hisR ?_
  intro p e s m args below meth c s₁ Bd hml0 hP hK
  obtain ⟨rfl, hZ, hh⟩ := hP
  have hx := Bd.exec
  have hby := Bd.bytes
  have hml : c.maxLocals = 5 := hml0
  have hown : s.vm.findClass "com/example/headwright/headwright/Diagnostic" = some m.cls := findClass_of_methodNamed Bd.named
  have hnm := (name_of_methodNamed Bd.named Bd.method).1
  have X0 : Stand p l e ({ frames := 2, cells := 4, slots := 204, locals := 40 } : Room) s m #[(.ref a1), (.ref a2), (.int p3), (.ref a4), (.ref a5)] below meth c s₁ [] 0 0 := Stand.of_body Bd
  have e0 : s₁.heap = h0 := by rw [← hh, Bd.state]; rfl
  have es0 : s.heap = h0 := hh
  have N0 := Fr.nil n0
  show own_Fin p e below (Gdi_r Z a1 a2 p3 a4 a5 h0 n0 s) (s₁.setTop (entryFrame m #[(.ref a1), (.ref a2), (.int p3), (.ref a4), (.ref a5)] 5))
  rw [ef_di_r m a1 a2 p3 a4 a5]
  have X0w : Stand p l e ({ frames := 2, cells := 4, slots := 204, locals := 40 } : Room) (s.setVm s.vm) m #[(.ref a1), (.ref a2), (.int p3), (.ref a4), (.ref a5)] below meth c s₁ [] 0 0 := X0
  have hS0 : s.Since s.vm 0 := (State.WarmedH.refl s).since 0
  have hk0 : 0 ≤ h0.size := Nat.zero_le _
  have Kz := Keep.refl h0 [a1]
  have wS : ∀ a ∈ Bundle.stringAtoms, a.before a0 Z = true := by
    intro d hd
    simp only [Bundle.stringAtoms, List.mem_cons, List.not_mem_nil, or_false] at hd
    rcases hd with rfl | rfl | rfl | rfl | rfl | rfl | rfl
    · exact (hw _ (List.mem_of_getElem? (i := 4) rfl))
    · exact (hw _ (List.mem_of_getElem? (i := 3) rfl))
    · exact (hw _ (List.mem_of_getElem? (i := 20) rfl))
    · exact (hw _ (List.mem_of_getElem? (i := 30) rfl))
    · exact (hw _ (List.mem_of_getElem? (i := 28) rfl))
    · exact (hw _ (List.mem_of_getElem? (i := 47) rfl))
    · exact (hw _ (List.mem_of_getElem? (i := 48) rfl))
  refine own_go (XS.aloadN X0w.here hx rfl (hb hby d7_0) rfl rfl (Steps.refl _)) ?_
  show own_Fin _ _ _ _ (s₁.setTop (mkF m 1 #[rv a1, rv a2, iv p3, rv a4, rv a5] [(.ref a1)]))
  obtain ⟨_, _, ⟨T36, L36, k36, n36⟩, -, X36, ⟨Lc36, hQ36, l36, y36, z36⟩, st36⟩ := X0w.specialBack hx (y := (⟨"java/lang/Record", "<init>", "()V"⟩ : MethodName)) rfl hown (mvT hZ (hw _ (List.mem_of_getElem? (i := 40) rfl))) (mvT hZ (hw _ (List.mem_of_getElem? (i := 41) rfl))) (mvT hZ (hw _ (List.mem_of_getElem? (i := 44) rfl))) (by decide) (backOf (W := 0) (rmrec l Z a0 hw [] a1 h0 n0 Z0) hZ (hw _ (List.mem_of_getElem? (i := 44) rfl)) (hw _ (List.mem_of_getElem? (i := 43) rfl)) (by decide) (by decide)) (g := (mkF m 1 #[rv a1, rv a2, iv p3, rv a4, rv a5] [(.ref a1)])) rfl (by rw [hml]; rfl) (Steps.refl _) (a := a1) (argsL := []) (rest := []) (lenOf pd__28__29_V rfl) rfl (by show 2 * 0 + _ ≤ _; exact Nat.le_of_eq rfl) (hb hby d7_1) (fun _ _ => ⟨rfl, e0, (by decide : 0 + 0 ≤ _), (by decide : 0 + 0 ≤ _)⟩)
  dsimp only [Pt.U, Pt.locs, Pt.cells, Pt.slots] at X36 l36 y36 z36 st36 hQ36
  subst l36 y36 z36
  obtain ⟨rfl, Nq36, e36⟩ := hQ36
  refine own_go st36 ?_
  have N36 := Fr.app N0 Nq36
  show own_Fin _ _ _ _ (T36.setTop (mkF m 4 #[rv a1, rv a2, iv p3, rv a4, rv a5] []))
  refine own_go (XS.aloadN X36.here hx rfl (hb hby d7_4) rfl rfl (Steps.refl _)) ?_
  show own_Fin _ _ _ _ (T36.setTop (mkF m 5 #[rv a1, rv a2, iv p3, rv a4, rv a5] [(.ref a4)]))
  obtain ⟨a37, T37, h37, k37, X37, e37, E37, hS37, hk37, hZ37, hown37, st37⟩ := ldcS (s := s) (vm0 := s.vm) X36 hx hZ hown (hw _ (List.mem_of_getElem? (i := 46) rfl)) wS e36 hS0 hk0 (g := (mkF m 5 #[rv a1, rv a2, iv p3, rv a4, rv a5] [(.ref a4)])) rfl (hb hby d7_5) (n := 100) (by decide) (by decide) (by decide) (by decide)
  refine own_by st37 ?_
  have E_a1_37 := E_a1.ext E37
  have F_file_a1_37 := F_file_a1.ext E37
  have F_line_a1_37 := F_line_a1.ext E37
  have F_severity_a1_37 := F_severity_a1.ext E37
  have F_message_a1_37 := F_message_a1.ext E37
  have E_a2_37 := E_a2.ext E37
  have E_a4_37 := E_a4.ext E37
  have E_a5_37 := E_a5.ext E37
  have Z37 : n0 ≤ h37.size := Nat.le_trans Z0 E37.1
  have K37 := Kz.ext E37
  show own_Fin _ _ _ _ (T37.setTop (mkF m 7 #[rv a1, rv a2, iv p3, rv a4, rv a5] [(.ref a37), (.ref a4)]))
  obtain ⟨_, _, ⟨T38, L38, k38, n38⟩, -, X38, ⟨Lc38, hQ38, l38, y38, z38⟩, st38⟩ := Jvm.LawKit.callS X37 hx (y := (⟨"java/util/Objects", "requireNonNull", "(Ljava/lang/Object;Ljava/lang/String;)Ljava/lang/Object;"⟩ : MethodName)) hown37 (mvT hZ37 (hw _ (List.mem_of_getElem? (i := 49) rfl))) (mvT hZ37 (hw _ (List.mem_of_getElem? (i := 50) rfl))) (mvT hZ37 (hw _ (List.mem_of_getElem? (i := 51) rfl))) (mvT hZ37 (hw _ (List.mem_of_getElem? (i := 52) rfl))) (by decide) (backOf (W := 0) (rmrq l Z a0 hw [] a4 a37 h37 n0 Z37) hZ37 (hw _ (List.mem_of_getElem? (i := 52) rfl)) (hw _ (List.mem_of_getElem? (i := 51) rfl)) (by decide) (by decide)) (g := (mkF m 7 #[rv a1, rv a2, iv p3, rv a4, rv a5] [(.ref a37), (.ref a4)])) rfl (by rw [hml]; rfl) (argsL := [(.ref a4), (.ref a37)]) (rest := []) (lenOf pd__28_Ljava_2f_lang_2f_Object_3b_Ljava_2f_lang_2f_String_3b__29_Ljava_2f_lang_2f_Object_3b_ rfl) rfl (by show 2 * 0 + _ ≤ _; exact Nat.le_of_eq rfl) (hb hby d7_7) (fun _ _ => ⟨rfl, e37, (by decide : 2 + 0 ≤ _), (by decide : 104 + 0 ≤ _)⟩)
  dsimp only [Pt.U, Pt.locs, Pt.cells, Pt.slots] at X38 l38 y38 z38 st38 hQ38
  subst l38 y38 z38
  obtain ⟨rfl, Nq38, e38⟩ := hQ38
  refine own_by st38 ?_
  have N38 := Fr.app N36 Nq38
  show own_Fin _ _ _ _ (T38.setTop (mkF m 10 #[rv a1, rv a2, iv p3, rv a4, rv a5] [(.ref a4)]))
  refine own_go (XS.pop X38.here hx rfl (hb hby d7_10) rfl rfl (Steps.refl _)) ?_
  show own_Fin _ _ _ _ (T38.setTop (mkF m 11 #[rv a1, rv a2, iv p3, rv a4, rv a5] []))
  refine own_go (XS.aload X38.here hx rfl (hb hby d7_11) rfl rfl (Steps.refl _)) ?_
  show own_Fin _ _ _ _ (T38.setTop (mkF m 13 #[rv a1, rv a2, iv p3, rv a4, rv a5] [(.ref a5)]))
  obtain ⟨a39, T39, h39, k39, X39, e39, E39, hS39, hk39, hZ39, hown39, st39⟩ := ldcS (s := s) (vm0 := T37.vm) X38 hx hZ37 hown37 (hw _ (List.mem_of_getElem? (i := 53) rfl)) wS e38 hS37 hk37 (g := (mkF m 13 #[rv a1, rv a2, iv p3, rv a4, rv a5] [(.ref a5)])) rfl (hb hby d7_13) (n := 96) (by decide) (by decide) (by decide) (by decide)
  refine own_by st39 ?_
  have E_a1_39 := E_a1_37.ext E39
  have F_file_a1_39 := F_file_a1_37.ext E39
  have F_line_a1_39 := F_line_a1_37.ext E39
  have F_severity_a1_39 := F_severity_a1_37.ext E39
  have F_message_a1_39 := F_message_a1_37.ext E39
  have E_a2_39 := E_a2_37.ext E39
  have E_a4_39 := E_a4_37.ext E39
  have E_a5_39 := E_a5_37.ext E39
  have Z39 : n0 ≤ h39.size := Nat.le_trans Z37 E39.1
  have K39 := K37.ext E39
  show own_Fin _ _ _ _ (T39.setTop (mkF m 15 #[rv a1, rv a2, iv p3, rv a4, rv a5] [(.ref a39), (.ref a5)]))
  obtain ⟨_, _, ⟨T40, L40, k40, n40⟩, -, X40, ⟨Lc40, hQ40, l40, y40, z40⟩, st40⟩ := Jvm.LawKit.callS X39 hx (y := (⟨"java/util/Objects", "requireNonNull", "(Ljava/lang/Object;Ljava/lang/String;)Ljava/lang/Object;"⟩ : MethodName)) hown39 (mvT hZ39 (hw _ (List.mem_of_getElem? (i := 49) rfl))) (mvT hZ39 (hw _ (List.mem_of_getElem? (i := 50) rfl))) (mvT hZ39 (hw _ (List.mem_of_getElem? (i := 51) rfl))) (mvT hZ39 (hw _ (List.mem_of_getElem? (i := 52) rfl))) (by decide) (backOf (W := 0) (rmrq l Z a0 hw [] a5 a39 h39 n0 Z39) hZ39 (hw _ (List.mem_of_getElem? (i := 52) rfl)) (hw _ (List.mem_of_getElem? (i := 51) rfl)) (by decide) (by decide)) (g := (mkF m 15 #[rv a1, rv a2, iv p3, rv a4, rv a5] [(.ref a39), (.ref a5)])) rfl (by rw [hml]; rfl) (argsL := [(.ref a5), (.ref a39)]) (rest := []) (lenOf pd__28_Ljava_2f_lang_2f_Object_3b_Ljava_2f_lang_2f_String_3b__29_Ljava_2f_lang_2f_Object_3b_ rfl) rfl (by show 2 * 0 + _ ≤ _; exact Nat.le_of_eq rfl) (hb hby d7_15) (fun _ _ => ⟨rfl, e39, (by decide : 4 + 0 ≤ _), (by decide : 204 + 0 ≤ _)⟩)
  dsimp only [Pt.U, Pt.locs, Pt.cells, Pt.slots] at X40 l40 y40 z40 st40 hQ40
  subst l40 y40 z40
  obtain ⟨rfl, Nq40, e40⟩ := hQ40
  refine own_by st40 ?_
  have N40 := Fr.app N38 Nq40
  show own_Fin _ _ _ _ (T40.setTop (mkF m 18 #[rv a1, rv a2, iv p3, rv a4, rv a5] [(.ref a5)]))
  refine own_go (XS.pop X40.here hx rfl (hb hby d7_18) rfl rfl (Steps.refl _)) ?_
  show own_Fin _ _ _ _ (T40.setTop (mkF m 19 #[rv a1, rv a2, iv p3, rv a4, rv a5] []))
  refine own_go (XS.iloadN X40.here hx rfl (hb hby d7_19) rfl (Steps.refl _)) ?_
  show own_Fin _ _ _ _ (T40.setTop (mkF m 20 #[rv a1, rv a2, iv p3, rv a4, rv a5] [(.int p3)]))
  refine own_go (XS.ifYes X40.here hx rfl (pc0 := 20) (pc' := 33) rfl (hb hby d7_20) rfl ((if0 _ _).trans (flt (show ¬ (p3 < (0 : Int32)) from hln)).2.1) (by decide) (by decide) (Steps.refl _)) ?_
  show own_Fin _ _ _ _ (T40.setTop (mkF m 33 #[rv a1, rv a2, iv p3, rv a4, rv a5] []))
  refine own_go (XS.aloadN X40.here hx rfl (hb hby d7_33) rfl rfl (Steps.refl _)) ?_
  show own_Fin _ _ _ _ (T40.setTop (mkF m 34 #[rv a1, rv a2, iv p3, rv a4, rv a5] [(.ref a1)]))
  refine own_go (XS.aloadN X40.here hx rfl (hb hby d7_34) rfl rfl (Steps.refl _)) ?_
  show own_Fin _ _ _ _ (T40.setTop (mkF m 35 #[rv a1, rv a2, iv p3, rv a4, rv a5] [(.ref a2), (.ref a1)]))
  obtain ⟨T41, h41, X41, e41, W41, st41⟩ := putF X40 hx hZ39 hown39 (host := "") (Or.inl (hw _ (List.mem_of_getElem? (i := 54) rfl))) Via.refl e40 F_file_a1_39 E_a1_39 (Or.inr ⟨(hw _ (List.mem_of_getElem? (i := 55) rfl)), rfl, hnm⟩) (hw _ (List.mem_of_getElem? (i := 35) rfl)) (ty := (.object "java/lang/String")) (by decide) rfl rfl (g := (mkF m 35 #[rv a1, rv a2, iv p3, rv a4, rv a5] [(.ref a2), (.ref a1)])) rfl rfl (hb hby d7_35)
  refine own_by st41 ?_
  have F_file_a1_41 := F_file_a1_39.same W41
  have E_a1_41 := E_a1_39.wr W41
  have F_line_a1_41 := F_line_a1_39.other W41 (Or.inr (slot_ne (Or.inr (hw _ (List.mem_of_getElem? (i := 57) rfl))) (Or.inr (hw _ (List.mem_of_getElem? (i := 55) rfl))) (by decide) (t := .int) (t' := (.object "java/lang/String")) (by decide) (by decide)))
  have F_severity_a1_41 := F_severity_a1_39.other W41 (Or.inr (slot_ne (Or.inr (hw _ (List.mem_of_getElem? (i := 59) rfl))) (Or.inr (hw _ (List.mem_of_getElem? (i := 55) rfl))) (by decide) (t := (.object "com/example/headwright/headwright/Diagnostic$Severity")) (t' := (.object "java/lang/String")) (by decide) (by decide)))
  have F_message_a1_41 := F_message_a1_39.other W41 (Or.inr (slot_ne (Or.inr (hw _ (List.mem_of_getElem? (i := 61) rfl))) (Or.inr (hw _ (List.mem_of_getElem? (i := 55) rfl))) (by decide) (t := (.object "java/lang/String")) (t' := (.object "java/lang/String")) (by decide) (by decide)))
  have E_a2_41 := E_a2_39.wr W41
  have E_a4_41 := E_a4_39.wr W41
  have E_a5_41 := E_a5_39.wr W41
  have N41 := Fr.snoc X41 N40 g_a1
  have Z41 : n0 ≤ h41.size := Nat.le_trans Z39 (Keep.of_wr W41).1
  have hk41 : k39 ≤ h41.size := Nat.le_trans hk39 (Keep.of_wr W41).1
  have K41 := K39.wr W41 (Or.inl (List.mem_of_getElem? (i := 0) rfl))
  show own_Fin _ _ _ _ (T41.setTop (mkF m 38 #[rv a1, rv a2, iv p3, rv a4, rv a5] []))
  refine own_go (XS.aloadN X41.here hx rfl (hb hby d7_38) rfl rfl (Steps.refl _)) ?_
  show own_Fin _ _ _ _ (T41.setTop (mkF m 39 #[rv a1, rv a2, iv p3, rv a4, rv a5] [(.ref a1)]))
  refine own_go (XS.iloadN X41.here hx rfl (hb hby d7_39) rfl (Steps.refl _)) ?_
  show own_Fin _ _ _ _ (T41.setTop (mkF m 40 #[rv a1, rv a2, iv p3, rv a4, rv a5] [(.int p3), (.ref a1)]))
  obtain ⟨T42, h42, X42, e42, W42, st42⟩ := putF X41 hx hZ39 hown39 (host := "") (Or.inl (hw _ (List.mem_of_getElem? (i := 56) rfl))) Via.refl e41 F_line_a1_41 E_a1_41 (Or.inr ⟨(hw _ (List.mem_of_getElem? (i := 57) rfl)), rfl, hnm⟩) (hw _ (List.mem_of_getElem? (i := 35) rfl)) (ty := .int) (by decide) rfl rfl (g := (mkF m 40 #[rv a1, rv a2, iv p3, rv a4, rv a5] [(.int p3), (.ref a1)])) rfl rfl (hb hby d7_40)
  refine own_by st42 ?_
  have F_line_a1_42 := F_line_a1_41.same W42
  have E_a1_42 := E_a1_41.wr W42
  have F_file_a1_42 := F_file_a1_41.other W42 (Or.inr (slot_ne (Or.inr (hw _ (List.mem_of_getElem? (i := 55) rfl))) (Or.inr (hw _ (List.mem_of_getElem? (i := 57) rfl))) (by decide) (t := (.object "java/lang/String")) (t' := .int) (by decide) (by decide)))
  have F_severity_a1_42 := F_severity_a1_41.other W42 (Or.inr (slot_ne (Or.inr (hw _ (List.mem_of_getElem? (i := 59) rfl))) (Or.inr (hw _ (List.mem_of_getElem? (i := 57) rfl))) (by decide) (t := (.object "com/example/headwright/headwright/Diagnostic$Severity")) (t' := .int) (by decide) (by decide)))
  have F_message_a1_42 := F_message_a1_41.other W42 (Or.inr (slot_ne (Or.inr (hw _ (List.mem_of_getElem? (i := 61) rfl))) (Or.inr (hw _ (List.mem_of_getElem? (i := 57) rfl))) (by decide) (t := (.object "java/lang/String")) (t' := .int) (by decide) (by decide)))
  have E_a2_42 := E_a2_41.wr W42
  have E_a4_42 := E_a4_41.wr W42
  have E_a5_42 := E_a5_41.wr W42
  have N42 := Fr.snoc X42 N41 g_a1
  have Z42 : n0 ≤ h42.size := Nat.le_trans Z41 (Keep.of_wr W42).1
  have hk42 : k39 ≤ h42.size := Nat.le_trans hk41 (Keep.of_wr W42).1
  have K42 := K41.wr W42 (Or.inl (List.mem_of_getElem? (i := 0) rfl))
  show own_Fin _ _ _ _ (T42.setTop (mkF m 43 #[rv a1, rv a2, iv p3, rv a4, rv a5] []))
  refine own_go (XS.aloadN X42.here hx rfl (hb hby d7_43) rfl rfl (Steps.refl _)) ?_
  show own_Fin _ _ _ _ (T42.setTop (mkF m 44 #[rv a1, rv a2, iv p3, rv a4, rv a5] [(.ref a1)]))
  refine own_go (XS.aloadN X42.here hx rfl (hb hby d7_44) rfl rfl (Steps.refl _)) ?_
  show own_Fin _ _ _ _ (T42.setTop (mkF m 45 #[rv a1, rv a2, iv p3, rv a4, rv a5] [(.ref a4), (.ref a1)]))
  obtain ⟨T43, h43, X43, e43, W43, st43⟩ := putF X42 hx hZ39 hown39 (host := "") (Or.inl (hw _ (List.mem_of_getElem? (i := 58) rfl))) Via.refl e42 F_severity_a1_42 E_a1_42 (Or.inr ⟨(hw _ (List.mem_of_getElem? (i := 59) rfl)), rfl, hnm⟩) (hw _ (List.mem_of_getElem? (i := 35) rfl)) (ty := (.object "com/example/headwright/headwright/Diagnostic$Severity")) (by decide) rfl rfl (g := (mkF m 45 #[rv a1, rv a2, iv p3, rv a4, rv a5] [(.ref a4), (.ref a1)])) rfl rfl (hb hby d7_45)
  refine own_by st43 ?_
  have F_severity_a1_43 := F_severity_a1_42.same W43
  have E_a1_43 := E_a1_42.wr W43
  have F_file_a1_43 := F_file_a1_42.other W43 (Or.inr (slot_ne (Or.inr (hw _ (List.mem_of_getElem? (i := 55) rfl))) (Or.inr (hw _ (List.mem_of_getElem? (i := 59) rfl))) (by decide) (t := (.object "java/lang/String")) (t' := (.object "com/example/headwright/headwright/Diagnostic$Severity")) (by decide) (by decide)))
  have F_line_a1_43 := F_line_a1_42.other W43 (Or.inr (slot_ne (Or.inr (hw _ (List.mem_of_getElem? (i := 57) rfl))) (Or.inr (hw _ (List.mem_of_getElem? (i := 59) rfl))) (by decide) (t := .int) (t' := (.object "com/example/headwright/headwright/Diagnostic$Severity")) (by decide) (by decide)))
  have F_message_a1_43 := F_message_a1_42.other W43 (Or.inr (slot_ne (Or.inr (hw _ (List.mem_of_getElem? (i := 61) rfl))) (Or.inr (hw _ (List.mem_of_getElem? (i := 59) rfl))) (by decide) (t := (.object "java/lang/String")) (t' := (.object "com/example/headwright/headwright/Diagnostic$Severity")) (by decide) (by decide)))
  have E_a2_43 := E_a2_42.wr W43
  have E_a4_43 := E_a4_42.wr W43
  have E_a5_43 := E_a5_42.wr W43
  have N43 := Fr.snoc X43 N42 g_a1
  have Z43 : n0 ≤ h43.size := Nat.le_trans Z42 (Keep.of_wr W43).1
  have hk43 : k39 ≤ h43.size := Nat.le_trans hk42 (Keep.of_wr W43).1
  have K43 := K42.wr W43 (Or.inl (List.mem_of_getElem? (i := 0) rfl))
  show own_Fin _ _ _ _ (T43.setTop (mkF m 48 #[rv a1, rv a2, iv p3, rv a4, rv a5] []))
  refine own_go (XS.aloadN X43.here hx rfl (hb hby d7_48) rfl rfl (Steps.refl _)) ?_
  show own_Fin _ _ _ _ (T43.setTop (mkF m 49 #[rv a1, rv a2, iv p3, rv a4, rv a5] [(.ref a1)]))
  refine own_go (XS.aload X43.here hx rfl (hb hby d7_49) rfl rfl (Steps.refl _)) ?_
  show own_Fin _ _ _ _ (T43.setTop (mkF m 51 #[rv a1, rv a2, iv p3, rv a4, rv a5] [(.ref a5), (.ref a1)]))
  obtain ⟨T44, h44, X44, e44, W44, st44⟩ := putF X43 hx hZ39 hown39 (host := "") (Or.inl (hw _ (List.mem_of_getElem? (i := 60) rfl))) Via.refl e43 F_message_a1_43 E_a1_43 (Or.inr ⟨(hw _ (List.mem_of_getElem? (i := 61) rfl)), rfl, hnm⟩) (hw _ (List.mem_of_getElem? (i := 35) rfl)) (ty := (.object "java/lang/String")) (by decide) rfl rfl (g := (mkF m 51 #[rv a1, rv a2, iv p3, rv a4, rv a5] [(.ref a5), (.ref a1)])) rfl rfl (hb hby d7_51)
  refine own_by st44 ?_
  have F_message_a1_44 := F_message_a1_43.same W44
  have E_a1_44 := E_a1_43.wr W44
  have F_file_a1_44 := F_file_a1_43.other W44 (Or.inr (slot_ne (Or.inr (hw _ (List.mem_of_getElem? (i := 55) rfl))) (Or.inr (hw _ (List.mem_of_getElem? (i := 61) rfl))) (by decide) (t := (.object "java/lang/String")) (t' := (.object "java/lang/String")) (by decide) (by decide)))
  have F_line_a1_44 := F_line_a1_43.other W44 (Or.inr (slot_ne (Or.inr (hw _ (List.mem_of_getElem? (i := 57) rfl))) (Or.inr (hw _ (List.mem_of_getElem? (i := 61) rfl))) (by decide) (t := .int) (t' := (.object "java/lang/String")) (by decide) (by decide)))
  have F_severity_a1_44 := F_severity_a1_43.other W44 (Or.inr (slot_ne (Or.inr (hw _ (List.mem_of_getElem? (i := 59) rfl))) (Or.inr (hw _ (List.mem_of_getElem? (i := 61) rfl))) (by decide) (t := (.object "com/example/headwright/headwright/Diagnostic$Severity")) (t' := (.object "java/lang/String")) (by decide) (by decide)))
  have E_a2_44 := E_a2_43.wr W44
  have E_a4_44 := E_a4_43.wr W44
  have E_a5_44 := E_a5_43.wr W44
  have N44 := Fr.snoc X44 N43 g_a1
  have Z44 : n0 ≤ h44.size := Nat.le_trans Z43 (Keep.of_wr W44).1
  have hk44 : k39 ≤ h44.size := Nat.le_trans hk43 (Keep.of_wr W44).1
  have K44 := K43.wr W44 (Or.inl (List.mem_of_getElem? (i := 0) rfl))
  show own_Fin _ _ _ _ (T44.setTop (mkF m 54 #[rv a1, rv a2, iv p3, rv a4, rv a5] []))
  obtain ⟨fs45, hr45, hrun45, hended45, hRW45⟩ := X44.leaveW (s := s) hS39 (n := k39) (by rw [e44]; exact hk44) (v := none) (fun _ => rfl)
  refine own_done (X44.returnOut hx Bd.returns (hb hby d7_54) hr45) hrun45 hended45 ⟨_, _, rfl, ?_, hRW45.1, hRW45.2.1, hRW45.2.2.1, hRW45.2.2.2.mono (by decide) (by decide)⟩
  show Qdi_r Z a1 a2 p3 a4 a5 h0 n0 _ T44.heap _
  rw [e44]
  exact ⟨rfl, N44, K44, E_a1_44, F_file_a1_44, F_line_a1_44, F_severity_a1_44, F_message_a1_44⟩
theorem d10_0 : decode prog_6_method_4_code 0 = .ok (.aload_n 0, 1) := by decide +kernel
theorem d10_1 : decode prog_6_method_4_code 1 = .ok (.getfield 34, 3) := by decide +kernel
theorem d10_4 : decode prog_6_method_4_code 4 = .ok (.getstatic 41, 3) := by decide +kernel
theorem d10_7 : decode prog_6_method_4_code 7 = .ok (.if_acmp .ne 7, 3) := by decide +kernel
theorem d10_10 : decode prog_6_method_4_code 10 = .ok (.iconst 1, 1) := by decide +kernel
theorem d10_11 : decode prog_6_method_4_code 11 = .ok (.goto 4, 3) := by decide +kernel
theorem d10_14 : decode prog_6_method_4_code 14 = .ok (.iconst 0, 1) := by decide +kernel
theorem d10_15 : decode prog_6_method_4_code 15 = .ok (.ireturn, 1) := by decide +kernel
theorem ef_ie_E (m : MethodId) (x0 : Addr) : entryFrame m #[(.ref x0)] 1 = mkF m 0 #[.val (.ref x0)] [] := by first | (simp [entryFrame, mkF, argsToLocals, Value.category]; done) | rfl
def Qie_E (Z : State) (a1 : Addr) (aE : Addr) (h0 : Heap) (n0 : Nat) (v : Option Value) (h : Heap) (L : List Loc) : Prop := v = some (.int (1 : Int32)) ∧ Fr n0 L ∧ h = h0
abbrev Gie_E (Z : State) (a1 : Addr) (aE : Addr) (h0 : Heap) (n0 : Nat) (s : State) : Outcome → State → Prop := fun o U' => ∃ v L, o = .returned v ∧ Qie_E Z a1 aE h0 n0 v U'.heap L ∧ FrameEnd s o U' L ({ frames := 0, cells := 0, slots := 0, locals := 0 } : Room).cells ({ frames := 0, cells := 0, slots := 0, locals := 0 } : Room).slots
set_option maxRecDepth 65536 in
set_option maxHeartbeats 40000000 in
theorem rmie_E (l : Launch) (Z : State) (a0 : Array Value) (hw : ∀ d ∈ tables_1, d.before a0 Z = true) (ws : List Jvm.Cond) (a1 : Addr) (aE : Addr) (h0 : Heap) (n0 : Nat) (Z0 : n0 ≤ h0.size) (F_severity_a1 : Fld Z h0 a1 "com/example/headwright/headwright/Diagnostic" "severity" "Lcom/example/headwright/headwright/Diagnostic$Severity;" (.ref aE)) (O0 : Old Z n0 h0) (S_ERROR : Sta Z Z.heap "com/example/headwright/headwright/Diagnostic$Severity" "ERROR" "Lcom/example/headwright/headwright/Diagnostic$Severity;" (.ref aE)) :
    MetFree l (⟨"com/example/headwright/headwright/Diagnostic", "isError", "()Z"⟩ : MethodName) (head1 (Jvm.Cond.code (⟨"com/example/headwright/headwright/Diagnostic", "isError", "()Z"⟩ : MethodName) prog_6_method_4_code 1 (some .boolean) :: ws) ({ frames := 0, cells := 0, slots := 0, locals := 0 } : Room)) (fun a U => a = #[(.ref a1)] ∧ Z.Warmed39 U.vm ∧ U.heap = h0) (fun _ _ _ _ _ => True) (fun _ U o U' => ∃ v L, o = .returned v ∧ Qie_E Z a1 aE h0 n0 v U'.heap L ∧ FrameEnd U o U' L ({ frames := 0, cells := 0, slots := 0, locals := 0 } : Room).cells ({ frames := 0, cells := 0, slots := 0, locals := 0 } : Room).slots) := by
  refine MetFree.of_bodySF (plainFor_of_name pn_com_example_headwright_headwright_Diagnostic) hisR ?_
  intro p e s m args below meth c s₁ Bd hml0 hP hK
  obtain ⟨rfl, hZ, hh⟩ := hP
  have hx := Bd.exec
  have hby := Bd.bytes
  have hml : c.maxLocals = 1 := hml0
  have hown : s.vm.findClass "com/example/headwright/headwright/Diagnostic" = some m.cls := findClass_of_methodNamed Bd.named
  have hnm := (name_of_methodNamed Bd.named Bd.method).1
  have X0 : Stand p l e ({ frames := 0, cells := 0, slots := 0, locals := 0 } : Room) s m #[(.ref a1)] below meth c s₁ [] 0 0 := Stand.of_body Bd
  have e0 : s₁.heap = h0 := by rw [← hh, Bd.state]; rfl
  have es0 : s.heap = h0 := hh
  have N0 := Fr.nil n0
  show own_Fin p e below (Gie_E Z a1 aE h0 n0 s) (s₁.setTop (entryFrame m #[(.ref a1)] 1))
  rw [ef_ie_E m a1]
  refine own_go (XS.aloadN X0.here hx rfl (hb hby d10_0) rfl rfl (Steps.refl _)) ?_
  show own_Fin _ _ _ _ (s₁.setTop (mkF m 1 #[rv a1] [(.ref a1)]))
  obtain ⟨T46, X46, e46, st46⟩ := getF X0 hx hZ hown (host := "") (Or.inl (hw _ (List.mem_of_getElem? (i := 58) rfl))) Via.refl e0 F_severity_a1 (g := (mkF m 1 #[rv a1] [(.ref a1)])) rfl rfl (hb hby d10_1)
  refine own_by st46 ?_
  show own_Fin _ _ _ _ (T46.setTop (mkF m 4 #[rv a1] [(.ref aE)]))
  obtain ⟨T47, X47, e47, st47⟩ := getS2 X46 hx hZ hown (host := "") (Or.inl (hw _ (List.mem_of_getElem? (i := 67) rfl))) Via.refl e46 (S_ERROR.ext O0.2) (g := (mkF m 4 #[rv a1] [(.ref aE)])) rfl (hb hby d10_4)
  refine own_by st47 ?_
  show own_Fin _ _ _ _ (T47.setTop (mkF m 7 #[rv a1] [(.ref aE), (.ref aE)]))
  refine own_go (Jvm.RoadKit.acmp (g := (mkF m 7 #[rv a1] [(.ref aE), (.ref aE)])) X47 hx rfl rfl rfl (pc0 := 7) (pc' := 10) (same := true) rfl (hb hby d10_7) rfl (decide_eq_true rfl) (by decide) (by decide) (Steps.refl _)) ?_
  show own_Fin _ _ _ _ (T47.setTop (mkF m 10 #[rv a1] []))
  refine own_go (XS.iconst X47.here hx rfl (hb hby d10_10) (Steps.refl _)) ?_
  show own_Fin _ _ _ _ (T47.setTop (mkF m 11 #[rv a1] [(.int (1 : Int32))]))
  refine own_go (XS.goto X47.here hx rfl (pc0 := 11) (pc' := 15) rfl (hb hby d10_11) (by decide) (by decide) (Steps.refl _)) ?_
  show own_Fin _ _ _ _ (T47.setTop (mkF m 15 #[rv a1] [(.int (1 : Int32))]))
  obtain ⟨fs48, hr48, hrun48, hended48, hW48, hsame48⟩ := X47.leave (v := some (.int (1 : Int32))) (fun h => by rw [Bd.returns] at h; cases h)
  refine own_done (retN X47 hx (t := .boolean) Bd.returns (by simp) (hb hby d10_15) hr48) hrun48 hended48 ⟨_, _, rfl, ?_, ⟨_, rfl⟩, hW48, hsame48.mono (by decide) (by decide)⟩
  show Qie_E Z a1 aE h0 n0 _ T47.heap _
  rw [e47]
  exact ⟨rfl, N0, rfl⟩
theorem ef_ie_W (m : MethodId) (x0 : Addr) : entryFrame m #[(.ref x0)] 1 = mkF m 0 #[.val (.ref x0)] [] := by first | (simp [entryFrame, mkF, argsToLocals, Value.category]; done) | rfl
def Qie_W (Z : State) (a1 : Addr) (aE : Addr) (aW : Addr) (h0 : Heap) (n0 : Nat) (v : Option Value) (h : Heap) (L : List Loc) : Prop := v = some (.int (0 : Int32)) ∧ Fr n0 L ∧ h = h0
abbrev Gie_W (Z : State) (a1 : Addr) (aE : Addr) (aW : Addr) (h0 : Heap) (n0 : Nat) (s : State) : Outcome → State → Prop := fun o U' => ∃ v L, o = .returned v ∧ Qie_W Z a1 aE aW h0 n0 v U'.heap L ∧ FrameEnd s o U' L ({ frames := 0, cells := 0, slots := 0, locals := 0 } : Room).cells ({ frames := 0, cells := 0, slots := 0, locals := 0 } : Room).slots
set_option maxRecDepth 65536 in
set_option maxHeartbeats 40000000 in
theorem rmie_W (l : Launch) (Z : State) (a0 : Array Value) (hw : ∀ d ∈ tables_1, d.before a0 Z = true) (ws : List Jvm.Cond) (a1 : Addr) (aE : Addr) (aW : Addr) (h0 : Heap) (n0 : Nat) (Z0 : n0 ≤ h0.size) (F_severity_a1 : Fld Z h0 a1 "com/example/headwright/headwright/Diagnostic" "severity" "Lcom/example/headwright/headwright/Diagnostic$Severity;" (.ref aW)) (O0 : Old Z n0 h0) (S_ERROR : Sta Z Z.heap "com/example/headwright/headwright/Diagnostic$Severity" "ERROR" "Lcom/example/headwright/headwright/Diagnostic$Severity;" (.ref aE)) (neWE : ¬ aW = aE) :
    MetFree l (⟨"com/example/headwright/headwright/Diagnostic", "isError", "()Z"⟩ : MethodName) (head1 (Jvm.Cond.code (⟨"com/example/headwright/headwright/Diagnostic", "isError", "()Z"⟩ : MethodName) prog_6_method_4_code 1 (some .boolean) :: ws) ({ frames := 0, cells := 0, slots := 0, locals := 0 } : Room)) (fun a U => a = #[(.ref a1)] ∧ Z.Warmed39 U.vm ∧ U.heap = h0) (fun _ _ _ _ _ => True) (fun _ U o U' => ∃ v L, o = .returned v ∧ Qie_W Z a1 aE aW h0 n0 v U'.heap L ∧ FrameEnd U o U' L ({ frames := 0, cells := 0, slots := 0, locals := 0 } : Room).cells ({ frames := 0, cells := 0, slots := 0, locals := 0 } : Room).slots) := by
  refine MetFree.of_bodySF (plainFor_of_name pn_com_example_headwright_headwright_Diagnostic) hisR ?_
  intro p e s m args below meth c s₁ Bd hml0 hP hK
  obtain ⟨rfl, hZ, hh⟩ := hP
  have hx := Bd.exec
  have hby := Bd.bytes
  have hml : c.maxLocals = 1 := hml0
  have hown : s.vm.findClass "com/example/headwright/headwright/Diagnostic" = some m.cls := findClass_of_methodNamed Bd.named
  have hnm := (name_of_methodNamed Bd.named Bd.method).1
  have X0 : Stand p l e ({ frames := 0, cells := 0, slots := 0, locals := 0 } : Room) s m #[(.ref a1)] below meth c s₁ [] 0 0 := Stand.of_body Bd
  have e0 : s₁.heap = h0 := by rw [← hh, Bd.state]; rfl
  have es0 : s.heap = h0 := hh
  have N0 := Fr.nil n0
  show own_Fin p e below (Gie_W Z a1 aE aW h0 n0 s) (s₁.setTop (entryFrame m #[(.ref a1)] 1))
  rw [ef_ie_W m a1]
  refine own_go (XS.aloadN X0.here hx rfl (hb hby d10_0) rfl rfl (Steps.refl _)) ?_
  show own_Fin _ _ _ _ (s₁.setTop (mkF m 1 #[rv a1] [(.ref a1)]))
  obtain ⟨T49, X49, e49, st49⟩ := getF X0 hx hZ hown (host := "") (Or.inl (hw _ (List.mem_of_getElem? (i := 58) rfl))) Via.refl e0 F_severity_a1 (g := (mkF m 1 #[rv a1] [(.ref a1)])) rfl rfl (hb hby d10_1)
  refine own_by st49 ?_
  show own_Fin _ _ _ _ (T49.setTop (mkF m 4 #[rv a1] [(.ref aW)]))
  obtain ⟨T50, X50, e50, st50⟩ := getS2 X49 hx hZ hown (host := "") (Or.inl (hw _ (List.mem_of_getElem? (i := 67) rfl))) Via.refl e49 (S_ERROR.ext O0.2) (g := (mkF m 4 #[rv a1] [(.ref aW)])) rfl (hb hby d10_4)
  refine own_by st50 ?_
  show own_Fin _ _ _ _ (T50.setTop (mkF m 7 #[rv a1] [(.ref aE), (.ref aW)]))
  refine own_go (Jvm.RoadKit.acmp (g := (mkF m 7 #[rv a1] [(.ref aE), (.ref aW)])) X50 hx rfl rfl rfl (pc0 := 7) (pc' := 14) (same := false) rfl (hb hby d10_7) rfl (decide_eq_false fun q => neWE (Value.ref.inj q)) (by decide) (by decide) (Steps.refl _)) ?_
  show own_Fin _ _ _ _ (T50.setTop (mkF m 14 #[rv a1] []))
  refine own_go (XS.iconst X50.here hx rfl (hb hby d10_14) (Steps.refl _)) ?_
  show own_Fin _ _ _ _ (T50.setTop (mkF m 15 #[rv a1] [(.int (0 : Int32))]))
  obtain ⟨fs51, hr51, hrun51, hended51, hW51, hsame51⟩ := X50.leave (v := some (.int (0 : Int32))) (fun h => by rw [Bd.returns] at h; cases h)
  refine own_done (retN X50 hx (t := .boolean) Bd.returns (by simp) (hb hby d10_15) hr51) hrun51 hended51 ⟨_, _, rfl, ?_, ⟨_, rfl⟩, hW51, hsame51.mono (by decide) (by decide)⟩
  show Qie_W Z a1 aE aW h0 n0 _ T50.heap _
  rw [e50]
  exact ⟨rfl, N0, rfl⟩
theorem own_ln (x : Int32) : ¬ x &&& (2147483647 : Int32) < (0 : Int32) := by
  have h1 : (x &&& (2147483647 : Int32)).toInt = x.toInt % (2 ^ 31 : Nat) := c_mask x 2147483647 31 (by decide) (by decide)
  rw [Int32.lt_iff_toInt_lt, h1]
  have : (0 : Int32).toInt = 0 := rfl
  omega
theorem pn_com_example_headwright_headwright_DiagnosticIsErrorPinLaw : plainName "com/example/headwright/headwright/DiagnosticIsErrorPinLaw" = true := by first | (simp [plainName, overriddenIn]; done) | decide +kernel
theorem ef_0 (m : MethodId) (x0 : Int32) (x1 : Int32) (x2 : Int32) (x3 : Int32) : entryFrame m #[(.int x0), (.int x1), (.int x2), (.int x3)] maxLocals = mkF m 0 #[.val (.int x0), .val (.int x1), .val (.int x2), .val (.int x3), .unset, .unset, .unset, .unset, .unset, .unset, .unset, .unset] [] := by first | (simp [entryFrame, mkF, argsToLocals, Value.category, maxLocals]; done) | rfl
def Q0 (Z : State) (p1 : Int32) (p2 : Int32) (p3 : Int32) (p4 : Int32) (aE : Addr) (aW : Addr) (cs : Int32) (h0 : Heap) (n0 : Nat) (v : Option Value) (h : Heap) (L : List Loc) : Prop := v = some (.int 1) ∧ Fr n0 L
abbrev G0 (Z : State) (p1 : Int32) (p2 : Int32) (p3 : Int32) (p4 : Int32) (aE : Addr) (aW : Addr) (cs : Int32) (h0 : Heap) (n0 : Nat) (s : State) : Outcome → State → Prop := fun o U' => ∃ v L, o = .returned v ∧ Q0 Z p1 p2 p3 p4 aE aW cs h0 n0 v U'.heap L ∧ ReturnedEndW s o U' L 32 2176
theorem pd__28__5b_C_29_V : parseMethodDescriptor "([C)V" = some ⟨[(.array .char)], none⟩ := by decide +kernel
theorem pd__28_Ljava_2f_lang_2f_String_3b_ILcom_2f_example_2f_headwright_2f_headwright_2f_Diagnostic_24_Severity_3b_Ljava_2f_lang_2f_String_3b__29_V : parseMethodDescriptor "(Ljava/lang/String;ILcom/example/headwright/headwright/Diagnostic$Severity;Ljava/lang/String;)V" = some ⟨[(.object "java/lang/String"), .int, (.object "com/example/headwright/headwright/Diagnostic$Severity"), (.object "java/lang/String")], none⟩ := by decide +kernel
theorem pd__28__29_Z : parseMethodDescriptor "()Z" = some ⟨[], some .boolean⟩ := by decide +kernel
set_option maxRecDepth 65536 in
set_option maxHeartbeats 40000000 in
theorem rm0 (l : Launch) (Z : State) (a0 : Array Value) (hw : ∀ d ∈ tables_1, d.before a0 Z = true) (ws : List Jvm.Cond) (p1 : Int32) (p2 : Int32) (p3 : Int32) (p4 : Int32) (aE : Addr) (aW : Addr) (cs : Int32) (h0 : Heap) (n0 : Nat) (Z0 : n0 ≤ h0.size) (O0 : Old Z n0 h0) (S_COMPACT_STRINGS : Sta Z Z.heap "java/lang/String" "COMPACT_STRINGS" "Z" (.int cs)) (S_ERROR : Sta Z Z.heap "com/example/headwright/headwright/Diagnostic$Severity" "ERROR" "Lcom/example/headwright/headwright/Diagnostic$Severity;" (.ref aE)) (S_WARNING : Sta Z Z.heap "com/example/headwright/headwright/Diagnostic$Severity" "WARNING" "Lcom/example/headwright/headwright/Diagnostic$Severity;" (.ref aW)) (E_aE : Exa Z h0 aE "com/example/headwright/headwright/Diagnostic$Severity") (E_aW : Exa Z h0 aW "com/example/headwright/headwright/Diagnostic$Severity") (neWE : ¬ aW = aE) (hcs : ¬ cs = (0 : Int32)) (hn0 : n0 = h0.size) :
    MetFree l x (head1 (Jvm.Cond.code x code maxLocals ret :: ws) room_1) (fun a U => a = #[(.int p1), (.int p2), (.int p3), (.int p4)] ∧ (Z.Warmed39 U.vm ∧ Z = U) ∧ U.heap = h0) (fun _ _ _ _ _ => True) (fun _ U o U' => ∃ v L, o = .returned v ∧ Q0 Z p1 p2 p3 p4 aE aW cs h0 n0 v U'.heap L ∧ ReturnedEndW U o U' L 32 2176) := by
  refine MetFree.of_bodySF (plainFor_of_name pn_com_example_headwright_headwright_DiagnosticIsErrorPinLaw) hisR ?_
  intro p e s m args below meth c s₁ Bd hml0 hP hK
  obtain ⟨rfl, ⟨hZ, hZs⟩, hh⟩ := hP
  have hx := Bd.exec
  have hby := Bd.bytes
  have hml : c.maxLocals = 12 := hml0
  have hown : s.vm.findClass "com/example/headwright/headwright/DiagnosticIsErrorPinLaw" = some m.cls := findClass_of_methodNamed Bd.named
  have hnm := (name_of_methodNamed Bd.named Bd.method).1
  have X0 : Stand p l e room_1 s m #[(.int p1), (.int p2), (.int p3), (.int p4)] below meth c s₁ [] 0 0 := Stand.of_body Bd
  have e0 : s₁.heap = h0 := by rw [← hh, Bd.state]; rfl
  have es0 : s.heap = h0 := hh
  have N0 := Fr.nil n0
  show own_Fin p e below (G0 Z p1 p2 p3 p4 aE aW cs h0 n0 s) (s₁.setTop (entryFrame m #[(.int p1), (.int p2), (.int p3), (.int p4)] maxLocals))
  rw [ef_0 m p1 p2 p3 p4]
  have X0w : Stand p l e room_1 (s.setVm s.vm) m #[(.int p1), (.int p2), (.int p3), (.int p4)] below meth c s₁ [] 0 0 := X0
  have hS0 : s.Since s.vm 0 := (State.WarmedH.refl s).since 0
  have hk0 : 0 ≤ h0.size := Nat.zero_le _
  have IB0 : IB Z s.vm [] := hZs ▸ IB.start
  refine own_go (XS.iloadN X0w.here hx rfl (hb hby at_0) rfl (Steps.refl _)) ?_
  show own_Fin _ _ _ _ (s₁.setTop (mkF m 1 #[iv p1, iv p2, iv p3, iv p4, .unset, .unset, .unset, .unset, .unset, .unset, .unset, .unset] [(.int p1)]))
  refine own_go (XS.iconst X0w.here hx rfl (hb hby at_1) (Steps.refl _)) ?_
  show own_Fin _ _ _ _ (s₁.setTop (mkF m 2 #[iv p1, iv p2, iv p3, iv p4, .unset, .unset, .unset, .unset, .unset, .unset, .unset, .unset] [(.int (1 : Int32)), (.int p1)]))
  refine own_go (XS.iand X0w.here hx rfl (hb hby at_2) rfl (Steps.refl _)) ?_
  show own_Fin _ _ _ _ (s₁.setTop (mkF m 3 #[iv p1, iv p2, iv p3, iv p4, .unset, .unset, .unset, .unset, .unset, .unset, .unset, .unset] [(.int (p1 &&& (1 : Int32)))]))
  by_cases c3_52 : (p1 &&& (1 : Int32)) = (0 : Int32)
  · refine own_go (XS.ifYes X0w.here hx rfl (pc0 := 3) (pc' := 10) rfl (hb hby at_3) rfl ((if0 _ _).trans (teq c3_52).1) (by decide) (by decide) (Steps.refl _)) ?_
    show own_Fin _ _ _ _ (s₁.setTop (mkF m 10 #[iv p1, iv p2, iv p3, iv p4, .unset, .unset, .unset, .unset, .unset, .unset, .unset, .unset] []))
    refine own_go (XS.iconst X0w.here hx rfl (hb hby at_10) (Steps.refl _)) ?_
    show own_Fin _ _ _ _ (s₁.setTop (mkF m 11 #[iv p1, iv p2, iv p3, iv p4, .unset, .unset, .unset, .unset, .unset, .unset, .unset, .unset] [(.int (0 : Int32))]))
    refine own_go (XS.istore X0w.here hx rfl (hb hby at_11) rfl rfl (Steps.refl _)) ?_
    show own_Fin _ _ _ _ (s₁.setTop (mkF m 13 #[iv p1, iv p2, iv p3, iv p4, iv (0 : Int32), .unset, .unset, .unset, .unset, .unset, .unset, .unset] []))
    refine own_go (XS.iloadN X0w.here hx rfl (hb hby at_13) rfl (Steps.refl _)) ?_
    show own_Fin _ _ _ _ (s₁.setTop (mkF m 14 #[iv p1, iv p2, iv p3, iv p4, iv (0 : Int32), .unset, .unset, .unset, .unset, .unset, .unset, .unset] [(.int p1)]))
    refine own_go (XS.iconst X0w.here hx rfl (hb hby at_14) (Steps.refl _)) ?_
    show own_Fin _ _ _ _ (s₁.setTop (mkF m 15 #[iv p1, iv p2, iv p3, iv p4, iv (0 : Int32), .unset, .unset, .unset, .unset, .unset, .unset, .unset] [(.int (2 : Int32)), (.int p1)]))
    refine own_go (XS.iand X0w.here hx rfl (hb hby at_15) rfl (Steps.refl _)) ?_
    show own_Fin _ _ _ _ (s₁.setTop (mkF m 16 #[iv p1, iv p2, iv p3, iv p4, iv (0 : Int32), .unset, .unset, .unset, .unset, .unset, .unset, .unset] [(.int (p1 &&& (2 : Int32)))]))
    by_cases c16_53 : (p1 &&& (2 : Int32)) = (0 : Int32)
    · refine own_go (XS.ifYes X0w.here hx rfl (pc0 := 16) (pc' := 23) rfl (hb hby at_16) rfl ((if0 _ _).trans (teq c16_53).1) (by decide) (by decide) (Steps.refl _)) ?_
      show own_Fin _ _ _ _ (s₁.setTop (mkF m 23 #[iv p1, iv p2, iv p3, iv p4, iv (0 : Int32), .unset, .unset, .unset, .unset, .unset, .unset, .unset] []))
      refine own_go (XS.iconst X0w.here hx rfl (hb hby at_23) (Steps.refl _)) ?_
      show own_Fin _ _ _ _ (s₁.setTop (mkF m 24 #[iv p1, iv p2, iv p3, iv p4, iv (0 : Int32), .unset, .unset, .unset, .unset, .unset, .unset, .unset] [(.int (0 : Int32))]))
      refine own_go (XS.istore X0w.here hx rfl (hb hby at_24) rfl rfl (Steps.refl _)) ?_
      show own_Fin _ _ _ _ (s₁.setTop (mkF m 26 #[iv p1, iv p2, iv p3, iv p4, iv (0 : Int32), iv (0 : Int32), .unset, .unset, .unset, .unset, .unset, .unset] []))
      refine own_go (XS.iloadN X0w.here hx rfl (hb hby at_26) rfl (Steps.refl _)) ?_
      show own_Fin _ _ _ _ (s₁.setTop (mkF m 27 #[iv p1, iv p2, iv p3, iv p4, iv (0 : Int32), iv (0 : Int32), .unset, .unset, .unset, .unset, .unset, .unset] [(.int p2)]))
      refine own_by (X0w.ldcInt hx hown (mvT hZ (hw _ (List.mem_of_getElem? (i := 0) rfl))) (g := (mkF m 27 #[iv p1, iv p2, iv p3, iv p4, iv (0 : Int32), iv (0 : Int32), .unset, .unset, .unset, .unset, .unset, .unset] [(.int p2)])) rfl (hb hby at_27)) ?_
      show own_Fin _ _ _ _ (s₁.setTop (mkF m 29 #[iv p1, iv p2, iv p3, iv p4, iv (0 : Int32), iv (0 : Int32), .unset, .unset, .unset, .unset, .unset, .unset] [(.int (2147483647 : Int32)), (.int p2)]))
      refine own_go (XS.iand X0w.here hx rfl (hb hby at_29) rfl (Steps.refl _)) ?_
      show own_Fin _ _ _ _ (s₁.setTop (mkF m 30 #[iv p1, iv p2, iv p3, iv p4, iv (0 : Int32), iv (0 : Int32), .unset, .unset, .unset, .unset, .unset, .unset] [(.int (p2 &&& (2147483647 : Int32)))]))
      refine own_go (XS.istore X0w.here hx rfl (hb hby at_30) rfl rfl (Steps.refl _)) ?_
      show own_Fin _ _ _ _ (s₁.setTop (mkF m 32 #[iv p1, iv p2, iv p3, iv p4, iv (0 : Int32), iv (0 : Int32), iv (p2 &&& (2147483647 : Int32)), .unset, .unset, .unset, .unset, .unset] []))
      generalize hz_v6_54 : (p2 &&& (2147483647 : Int32)) = v6_54
      refine own_go (XS.aconstNull X0w.here hx rfl (hb hby at_32) (Steps.refl _)) ?_
      show own_Fin _ _ _ _ (s₁.setTop (mkF m 33 #[iv p1, iv p2, iv p3, iv p4, iv (0 : Int32), iv (0 : Int32), iv v6_54, .unset, .unset, .unset, .unset, .unset] [.null]))
      refine own_go (XS.astore X0w.here hx rfl (hb hby at_33) rfl rfl rfl (Steps.refl _)) ?_
      show own_Fin _ _ _ _ (s₁.setTop (mkF m 35 #[iv p1, iv p2, iv p3, iv p4, iv (0 : Int32), iv (0 : Int32), iv v6_54, .val .null, .unset, .unset, .unset, .unset] []))
      refine own_go (XS.iload X0w.here hx rfl (hb hby at_35) rfl (Steps.refl _)) ?_
      show own_Fin _ _ _ _ (s₁.setTop (mkF m 37 #[iv p1, iv p2, iv p3, iv p4, iv (0 : Int32), iv (0 : Int32), iv v6_54, .val .null, .unset, .unset, .unset, .unset] [(.int (0 : Int32))]))
      refine own_go (XS.ifNo X0w.here hx rfl (hb hby at_37) rfl ((if0 _ _).trans (teq (by decide : (0 : Int32) = (0 : Int32))).2) (Steps.refl _)) ?_
      show own_Fin _ _ _ _ (s₁.setTop (mkF m 40 #[iv p1, iv p2, iv p3, iv p4, iv (0 : Int32), iv (0 : Int32), iv v6_54, .val .null, .unset, .unset, .unset, .unset] []))
      refine own_go (XS.iconst X0w.here hx rfl (hb hby at_40) (Steps.refl _)) ?_
      show own_Fin _ _ _ _ (s₁.setTop (mkF m 41 #[iv p1, iv p2, iv p3, iv p4, iv (0 : Int32), iv (0 : Int32), iv v6_54, .val .null, .unset, .unset, .unset, .unset] [(.int (2 : Int32))]))
      obtain ⟨T55, h55, k55, X55, e55, E55, A55, st55⟩ := newP X0w hx hZ (hw _ (List.mem_of_getElem? (i := 1) rfl)) e0 (g := (mkF m 41 #[iv p1, iv p2, iv p3, iv p4, iv (0 : Int32), iv (0 : Int32), iv v6_54, .val .null, .unset, .unset, .unset, .unset] [(.int (2 : Int32))])) rfl (hb hby at_41) rfl (by decide) (cap := 2) (by decide) (by decide) (by decide) (by decide)
      obtain ⟨b55, g55⟩ : ∃ z, z = h0.size := ⟨_, rfl⟩
      rw [← g55] at A55 st55
      refine own_by st55 ?_
      have ne_aE_b55 : aE ≠ b55 := Nat.ne_of_lt (Nat.lt_of_lt_of_eq E_aE.lt g55.symm)
      have ne_aW_b55 : aW ≠ b55 := Nat.ne_of_lt (Nat.lt_of_lt_of_eq E_aW.lt g55.symm)
      have Od55 := O0.ext E55
      have E_aE_55 := E_aE.ext E55
      have E_aW_55 := E_aW.ext E55
      have g_b55 : n0 ≤ b55 := Nat.le_trans Z0 (Nat.le_of_eq g55.symm)
      have Z55 : n0 ≤ h55.size := Nat.le_trans Z0 E55.1
      have hk55 : 0 ≤ h55.size := Nat.le_trans hk0 E55.1
      have V_b55 : Arv Z h55 b55 k55 .char (2 : Int32) [(.int (0 : Int32)), (.int (0 : Int32))] (.int (0 : Int32)) := (Arv.new A55 (by decide)).pad (pad_rep [] (.int (0 : Int32)) 2)
      show own_Fin _ _ _ _ (T55.setTop (mkF m 43 #[iv p1, iv p2, iv p3, iv p4, iv (0 : Int32), iv (0 : Int32), iv v6_54, .val .null, .unset, .unset, .unset, .unset] [(.ref b55)]))
      refine own_go (XS.astore X55.here hx rfl (hb hby at_43) rfl rfl rfl (Steps.refl _)) ?_
      show own_Fin _ _ _ _ (T55.setTop (mkF m 45 #[iv p1, iv p2, iv p3, iv p4, iv (0 : Int32), iv (0 : Int32), iv v6_54, .val .null, rv b55, .unset, .unset, .unset] []))
      refine own_go (XS.aload X55.here hx rfl (hb hby at_45) rfl rfl (Steps.refl _)) ?_
      show own_Fin _ _ _ _ (T55.setTop (mkF m 47 #[iv p1, iv p2, iv p3, iv p4, iv (0 : Int32), iv (0 : Int32), iv v6_54, .val .null, rv b55, .unset, .unset, .unset] [(.ref b55)]))
      refine own_go (XS.iconst X55.here hx rfl (hb hby at_47) (Steps.refl _)) ?_
      show own_Fin _ _ _ _ (T55.setTop (mkF m 48 #[iv p1, iv p2, iv p3, iv p4, iv (0 : Int32), iv (0 : Int32), iv v6_54, .val .null, rv b55, .unset, .unset, .unset] [(.int (0 : Int32)), (.ref b55)]))
      refine own_go (XS.iloadN X55.here hx rfl (hb hby at_48) rfl (Steps.refl _)) ?_
      show own_Fin _ _ _ _ (T55.setTop (mkF m 49 #[iv p1, iv p2, iv p3, iv p4, iv (0 : Int32), iv (0 : Int32), iv v6_54, .val .null, rv b55, .unset, .unset, .unset] [(.int p3), (.int (0 : Int32)), (.ref b55)]))
      refine own_go (XS.sipush X55.here hx rfl (hb hby at_49) (Steps.refl _)) ?_
      show own_Fin _ _ _ _ (T55.setTop (mkF m 52 #[iv p1, iv p2, iv p3, iv p4, iv (0 : Int32), iv (0 : Int32), iv v6_54, .val .null, rv b55, .unset, .unset, .unset] [(.int (255 : Int32)), (.int p3), (.int (0 : Int32)), (.ref b55)]))
      refine own_go (XS.iand X55.here hx rfl (hb hby at_52) rfl (Steps.refl _)) ?_
      show own_Fin _ _ _ _ (T55.setTop (mkF m 53 #[iv p1, iv p2, iv p3, iv p4, iv (0 : Int32), iv (0 : Int32), iv v6_54, .val .null, rv b55, .unset, .unset, .unset] [(.int (p3 &&& (255 : Int32))), (.int (0 : Int32)), (.ref b55)]))
      refine own_go (XS.i2c X55.here hx rfl (hb hby at_53) rfl (Steps.refl _)) ?_
      show own_Fin _ _ _ _ (T55.setTop (mkF m 54 #[iv p1, iv p2, iv p3, iv p4, iv (0 : Int32), iv (0 : Int32), iv v6_54, .val .null, rv b55, .unset, .unset, .unset] [(.int ((p3 &&& (255 : Int32)).toUInt32.toUInt16.toUInt32.toInt32)), (.int (0 : Int32)), (.ref b55)]))
      obtain ⟨cl56, Ar56, qa56, Sa56, Na56, Ha56, Ga56⟩ := id V_b55
      have hin56 : ¬ ((0 : Int32) < 0 ∨ cl56.slots.size ≤ ((0 : Int32)).toNatClampNeg) := inb_of Sa56 ⟨by decide, by decide⟩
      obtain ⟨T57, h57, X57, e57, W57, st57⟩ := stC X55 hx hZ e55 Ar56 (j := (0 : Int32)) hin56 (g := (mkF m 54 #[iv p1, iv p2, iv p3, iv p4, iv (0 : Int32), iv (0 : Int32), iv v6_54, .val .null, rv b55, .unset, .unset, .unset] [(.int ((p3 &&& (255 : Int32)).toUInt32.toUInt16.toUInt32.toInt32)), (.int (0 : Int32)), (.ref b55)])) rfl rfl (hb hby at_54)
      refine own_by st57 ?_
      have hnr57 : nar .char ((p3 &&& (255 : Int32)).toUInt32.toUInt16.toUInt32.toInt32) = (p3 &&& (255 : Int32)) := own_nc _
      rw [hnr57] at W57
      have V_b55_57 : Arv Z h57 b55 k55 .char (2 : Int32) [(.int (p3 &&& (255 : Int32))), (.int (0 : Int32))] (.int (0 : Int32)) := Arv.set Ar56 qa56 Sa56 Na56 Ha56 Ga56 (hnr57 ▸ fits_nar_char ((p3 &&& (255 : Int32)).toUInt32.toUInt16.toUInt32.toInt32)) W57 0 rfl (Nat.le_of_ble_eq_true rfl)
      have Od57 := Od55.wr W57 g_b55
      have E_aE_57 := E_aE_55.wr W57
      have E_aW_57 := E_aW_55.wr W57
      have N57 := Fr.snoc X57 N0 g_b55
      have Z57 : n0 ≤ h57.size := Nat.le_trans Z55 (Keep.of_wr W57).1
      have hk57 : 0 ≤ h57.size := Nat.le_trans hk55 (Keep.of_wr W57).1
      show own_Fin _ _ _ _ (T57.setTop (mkF m 55 #[iv p1, iv p2, iv p3, iv p4, iv (0 : Int32), iv (0 : Int32), iv v6_54, .val .null, rv b55, .unset, .unset, .unset] []))
      refine own_go (XS.aload X57.here hx rfl (hb hby at_55) rfl rfl (Steps.refl _)) ?_
      show own_Fin _ _ _ _ (T57.setTop (mkF m 57 #[iv p1, iv p2, iv p3, iv p4, iv (0 : Int32), iv (0 : Int32), iv v6_54, .val .null, rv b55, .unset, .unset, .unset] [(.ref b55)]))
      refine own_go (XS.iconst X57.here hx rfl (hb hby at_57) (Steps.refl _)) ?_
      show own_Fin _ _ _ _ (T57.setTop (mkF m 58 #[iv p1, iv p2, iv p3, iv p4, iv (0 : Int32), iv (0 : Int32), iv v6_54, .val .null, rv b55, .unset, .unset, .unset] [(.int (1 : Int32)), (.ref b55)]))
      refine own_go (XS.iloadN X57.here hx rfl (hb hby at_58) rfl (Steps.refl _)) ?_
      show own_Fin _ _ _ _ (T57.setTop (mkF m 59 #[iv p1, iv p2, iv p3, iv p4, iv (0 : Int32), iv (0 : Int32), iv v6_54, .val .null, rv b55, .unset, .unset, .unset] [(.int p3), (.int (1 : Int32)), (.ref b55)]))
      refine own_go (XS.bipush X57.here hx rfl (hb hby at_59) (Steps.refl _)) ?_
      show own_Fin _ _ _ _ (T57.setTop (mkF m 61 #[iv p1, iv p2, iv p3, iv p4, iv (0 : Int32), iv (0 : Int32), iv v6_54, .val .null, rv b55, .unset, .unset, .unset] [(.int (8 : Int32)), (.int p3), (.int (1 : Int32)), (.ref b55)]))
      refine own_go (XS.iushr X57.here hx rfl (hb hby at_61) rfl (Steps.refl _)) ?_
      show own_Fin _ _ _ _ (T57.setTop (mkF m 62 #[iv p1, iv p2, iv p3, iv p4, iv (0 : Int32), iv (0 : Int32), iv v6_54, .val .null, rv b55, .unset, .unset, .unset] [(.int ((p3.toUInt32 >>> ((8 : Int32) &&& 31).toUInt32).toInt32)), (.int (1 : Int32)), (.ref b55)]))
      refine own_go (XS.sipush X57.here hx rfl (hb hby at_62) (Steps.refl _)) ?_
      show own_Fin _ _ _ _ (T57.setTop (mkF m 65 #[iv p1, iv p2, iv p3, iv p4, iv (0 : Int32), iv (0 : Int32), iv v6_54, .val .null, rv b55, .unset, .unset, .unset] [(.int (255 : Int32)), (.int ((p3.toUInt32 >>> ((8 : Int32) &&& 31).toUInt32).toInt32)), (.int (1 : Int32)), (.ref b55)]))
      refine own_go (XS.iand X57.here hx rfl (hb hby at_65) rfl (Steps.refl _)) ?_
      show own_Fin _ _ _ _ (T57.setTop (mkF m 66 #[iv p1, iv p2, iv p3, iv p4, iv (0 : Int32), iv (0 : Int32), iv v6_54, .val .null, rv b55, .unset, .unset, .unset] [(.int (((p3.toUInt32 >>> ((8 : Int32) &&& 31).toUInt32).toInt32) &&& (255 : Int32))), (.int (1 : Int32)), (.ref b55)]))
      refine own_go (XS.i2c X57.here hx rfl (hb hby at_66) rfl (Steps.refl _)) ?_
      show own_Fin _ _ _ _ (T57.setTop (mkF m 67 #[iv p1, iv p2, iv p3, iv p4, iv (0 : Int32), iv (0 : Int32), iv v6_54, .val .null, rv b55, .unset, .unset, .unset] [(.int ((((p3.toUInt32 >>> ((8 : Int32) &&& 31).toUInt32).toInt32) &&& (255 : Int32)).toUInt32.toUInt16.toUInt32.toInt32)), (.int (1 : Int32)), (.ref b55)]))
      obtain ⟨cl58, Ar58, qa58, Sa58, Na58, Ha58, Ga58⟩ := id V_b55_57
      have hin58 : ¬ ((1 : Int32) < 0 ∨ cl58.slots.size ≤ ((1 : Int32)).toNatClampNeg) := inb_of Sa58 ⟨by decide, by decide⟩
      obtain ⟨T59, h59, X59, e59, W59, st59⟩ := stC X57 hx hZ e57 Ar58 (j := (1 : Int32)) hin58 (g := (mkF m 67 #[iv p1, iv p2, iv p3, iv p4, iv (0 : Int32), iv (0 : Int32), iv v6_54, .val .null, rv b55, .unset, .unset, .unset] [(.int ((((p3.toUInt32 >>> ((8 : Int32) &&& 31).toUInt32).toInt32) &&& (255 : Int32)).toUInt32.toUInt16.toUInt32.toInt32)), (.int (1 : Int32)), (.ref b55)])) rfl rfl (hb hby at_67)
      refine own_by st59 ?_
      have hnr59 : nar .char ((((p3.toUInt32 >>> ((8 : Int32) &&& 31).toUInt32).toInt32) &&& (255 : Int32)).toUInt32.toUInt16.toUInt32.toInt32) = (((p3.toUInt32 >>> ((8 : Int32) &&& 31).toUInt32).toInt32) &&& (255 : Int32)) := own_nc _
      rw [hnr59] at W59
      have V_b55_59 : Arv Z h59 b55 k55 .char (2 : Int32) [(.int (p3 &&& (255 : Int32))), (.int (((p3.toUInt32 >>> ((8 : Int32) &&& 31).toUInt32).toInt32) &&& (255 : Int32)))] (.int (0 : Int32)) := Arv.set Ar58 qa58 Sa58 Na58 Ha58 Ga58 (hnr59 ▸ fits_nar_char ((((p3.toUInt32 >>> ((8 : Int32) &&& 31).toUInt32).toInt32) &&& (255 : Int32)).toUInt32.toUInt16.toUInt32.toInt32)) W59 1 rfl (Nat.le_of_ble_eq_true rfl)
      have Od59 := Od57.wr W59 g_b55
      have E_aE_59 := E_aE_57.wr W59
      have E_aW_59 := E_aW_57.wr W59
      have N59 := Fr.snoc X59 N57 g_b55
      have Z59 : n0 ≤ h59.size := Nat.le_trans Z57 (Keep.of_wr W59).1
      have hk59 : 0 ≤ h59.size := Nat.le_trans hk57 (Keep.of_wr W59).1
      show own_Fin _ _ _ _ (T59.setTop (mkF m 68 #[iv p1, iv p2, iv p3, iv p4, iv (0 : Int32), iv (0 : Int32), iv v6_54, .val .null, rv b55, .unset, .unset, .unset] []))
      obtain ⟨T60, h60, X60, e60, E60, A60, D60, U60, st60⟩ := newO X59 hx hZ hown (hw _ (List.mem_of_getElem? (i := 2) rfl)) (hw _ (List.mem_of_getElem? (i := 3) rfl)) (hw _ (List.mem_of_getElem? (i := 4) rfl)) e59 (g := (mkF m 68 #[iv p1, iv p2, iv p3, iv p4, iv (0 : Int32), iv (0 : Int32), iv v6_54, .val .null, rv b55, .unset, .unset, .unset] [])) rfl (hb hby at_68) (by decide) (by decide)
      obtain ⟨b60, g60⟩ : ∃ z, z = h59.size := ⟨_, rfl⟩
      rw [← g60] at A60 D60 U60 st60
      refine own_by st60 ?_
      have ne_aE_b60 : aE ≠ b60 := Nat.ne_of_lt (Nat.lt_of_lt_of_eq E_aE_59.lt g60.symm)
      have ne_aW_b60 : aW ≠ b60 := Nat.ne_of_lt (Nat.lt_of_lt_of_eq E_aW_59.lt g60.symm)
      have ne_b55_b60 : b55 ≠ b60 := Nat.ne_of_lt (Nat.lt_of_lt_of_eq V_b55_59.lt g60.symm)
      have Od60 := Od59.ext E60
      have E_aE_60 := E_aE_59.ext E60
      have E_aW_60 := E_aW_59.ext E60
      have V_b55_60 := V_b55_59.ext E60
      have g_b60 : n0 ≤ b60 := Nat.le_trans Z59 (Nat.le_of_eq g60.symm)
      have Z60 : n0 ≤ h60.size := Nat.le_trans Z59 E60.1
      have hk60 : 0 ≤ h60.size := Nat.le_trans hk59 E60.1
      have E_b60 := A60
      have F_coder_b60 : Fld Z h60 b60 "java/lang/String" "coder" "B" (.int (0 : Int32)) := D60 (Or.inr (hw _ (List.mem_of_getElem? (i := 28) rfl))) (ty := .byte) (by decide)
      have F_value_b60 : Fld Z h60 b60 "java/lang/String" "value" "[B" .null := D60 (Or.inr (hw _ (List.mem_of_getElem? (i := 30) rfl))) (ty := (.array .byte)) (by decide)
      show own_Fin _ _ _ _ (T60.setTop (mkF m 71 #[iv p1, iv p2, iv p3, iv p4, iv (0 : Int32), iv (0 : Int32), iv v6_54, .val .null, rv b55, .unset, .unset, .unset] [(.ref b60)]))
      refine own_go (XS.dup X60.here hx rfl (hb hby at_71) rfl rfl (Steps.refl _)) ?_
      show own_Fin _ _ _ _ (T60.setTop (mkF m 72 #[iv p1, iv p2, iv p3, iv p4, iv (0 : Int32), iv (0 : Int32), iv v6_54, .val .null, rv b55, .unset, .unset, .unset] [(.ref b60), (.ref b60)]))
      refine own_go (XS.aload X60.here hx rfl (hb hby at_72) rfl rfl (Steps.refl _)) ?_
      show own_Fin _ _ _ _ (T60.setTop (mkF m 74 #[iv p1, iv p2, iv p3, iv p4, iv (0 : Int32), iv (0 : Int32), iv v6_54, .val .null, rv b55, .unset, .unset, .unset] [(.ref b55), (.ref b60), (.ref b60)]))
      obtain ⟨_, _, ⟨T61, L61, k61, n61⟩, -, X61, ⟨Lc61, hQ61, l61, y61, z61⟩, st61⟩ := X60.specialBack hx (y := (⟨"java/lang/String", "<init>", "([C)V"⟩ : MethodName)) rfl hown (mvT hZ (hw _ (List.mem_of_getElem? (i := 5) rfl))) (mvT hZ (hw _ (List.mem_of_getElem? (i := 6) rfl))) (mvT hZ (hw _ (List.mem_of_getElem? (i := 7) rfl))) (by decide) (backOf (W := 1) (rmstr_2 l Z a0 hw [] b60 b55 k55 cs (p3 &&& (255 : Int32)) (((p3.toUInt32 >>> ((8 : Int32) &&& 31).toUInt32).toInt32) &&& (255 : Int32)) h60 n0 Z60 E_b60 F_value_b60 F_coder_b60 g_b60 Od60 S_COMPACT_STRINGS hcs V_b55_60 (own_lt p3) (own_lt ((p3.toUInt32 >>> ((8 : Int32) &&& 31).toUInt32).toInt32))) hZ (hw _ (List.mem_of_getElem? (i := 7) rfl)) (hw _ (List.mem_of_getElem? (i := 4) rfl)) (by decide) (by decide)) (g := (mkF m 74 #[iv p1, iv p2, iv p3, iv p4, iv (0 : Int32), iv (0 : Int32), iv v6_54, .val .null, rv b55, .unset, .unset, .unset] [(.ref b55), (.ref b60), (.ref b60)])) rfl (by rw [hml]; rfl) (Steps.refl _) (a := b60) (argsL := [(.ref b55)]) (rest := [(.ref b60)]) (lenOf pd__28__5b_C_29_V rfl) rfl (by show 2 * 0 + _ ≤ _; exact Nat.le_of_eq rfl) (hb hby at_74) (fun _ _ => ⟨rfl, e60, (by decide : 2 + 1 ≤ _), (by decide : 6 + 2 ≤ _)⟩)
      dsimp only [Pt.U, Pt.locs, Pt.cells, Pt.slots] at X61 l61 y61 z61 st61 hQ61
      subst l61 y61 z61
      refine own_go st61 ?_
      obtain ⟨b_61, kb_61, rfl, Nq61, K61, g_b_61, sb_b_61, r61_0, r61_1, r61_2, r61_3⟩ := hQ61
      have ne_aE_b_61 : aE ≠ b_61 := Nat.ne_of_lt (Nat.lt_of_lt_of_le E_aE_60.lt sb_b_61)
      have ne_aW_b_61 : aW ≠ b_61 := Nat.ne_of_lt (Nat.lt_of_lt_of_le E_aW_60.lt sb_b_61)
      have ne_b55_b_61 : b55 ≠ b_61 := Nat.ne_of_lt (Nat.lt_of_lt_of_le V_b55_60.lt sb_b_61)
      have ne_b60_b_61 : b60 ≠ b_61 := Nat.ne_of_lt (Nat.lt_of_lt_of_le E_b60.lt sb_b_61)
      have Od61 := Od60.keep K61 (allS g_b60 all0)
      have E_aE_61 := E_aE_60.keep K61
      have E_aW_61 := E_aW_60.keep K61
      have V_b55_61 := V_b55_60.keep K61 (ninS ne_b55_b60 nin0)
      have E_b60_61 := E_b60.keep K61
      have Z61 : n0 ≤ T61.heap.size := Nat.le_trans Z60 K61.1
      have hk61 : 0 ≤ T61.heap.size := Nat.le_trans hk60 K61.1
      have N61 := Fr.app N59 Nq61
      show own_Fin _ _ _ _ (T61.setTop (mkF m 77 #[iv p1, iv p2, iv p3, iv p4, iv (0 : Int32), iv (0 : Int32), iv v6_54, .val .null, rv b55, .unset, .unset, .unset] [(.ref b60)]))
      refine own_go (XS.astore X61.here hx rfl (hb hby at_77) rfl rfl rfl (Steps.refl _)) ?_
      show own_Fin _ _ _ _ (T61.setTop (mkF m 79 #[iv p1, iv p2, iv p3, iv p4, iv (0 : Int32), iv (0 : Int32), iv v6_54, rv b60, rv b55, .unset, .unset, .unset] []))
      refine own_go (XS.iconst X61.here hx rfl (hb hby at_79) (Steps.refl _)) ?_
      show own_Fin _ _ _ _ (T61.setTop (mkF m 80 #[iv p1, iv p2, iv p3, iv p4, iv (0 : Int32), iv (0 : Int32), iv v6_54, rv b60, rv b55, .unset, .unset, .unset] [(.int (2 : Int32))]))
      obtain ⟨T62, h62, k62, X62, e62, E62, A62, st62⟩ := newP X61 hx hZ (hw _ (List.mem_of_getElem? (i := 1) rfl)) rfl (g := (mkF m 80 #[iv p1, iv p2, iv p3, iv p4, iv (0 : Int32), iv (0 : Int32), iv v6_54, rv b60, rv b55, .unset, .unset, .unset] [(.int (2 : Int32))])) rfl (hb hby at_80) rfl (by decide) (cap := 2) (by decide) (by decide) (by decide) (by decide)
      obtain ⟨b62, g62⟩ : ∃ z, z = T61.heap.size := ⟨_, rfl⟩
      rw [← g62] at A62 st62
      refine own_by st62 ?_
      have ne_aE_b62 : aE ≠ b62 := Nat.ne_of_lt (Nat.lt_of_lt_of_eq E_aE_61.lt g62.symm)
      have ne_aW_b62 : aW ≠ b62 := Nat.ne_of_lt (Nat.lt_of_lt_of_eq E_aW_61.lt g62.symm)
      have ne_b55_b62 : b55 ≠ b62 := Nat.ne_of_lt (Nat.lt_of_lt_of_eq V_b55_61.lt g62.symm)
      have ne_b60_b62 : b60 ≠ b62 := Nat.ne_of_lt (Nat.lt_of_lt_of_eq r61_0.lt g62.symm)
      have ne_b_61_b62 : b_61 ≠ b62 := Nat.ne_of_lt (Nat.lt_of_lt_of_eq r61_3.lt g62.symm)
      have Od62 := Od61.ext E62
      have E_aE_62 := E_aE_61.ext E62
      have E_aW_62 := E_aW_61.ext E62
      have V_b55_62 := V_b55_61.ext E62
      have r61_0_62 := r61_0.ext E62
      have r61_1_62 := r61_1.ext E62
      have r61_2_62 := r61_2.ext E62
      have r61_3_62 := r61_3.ext E62
      have g_b62 : n0 ≤ b62 := Nat.le_trans Z61 (Nat.le_of_eq g62.symm)
      have Z62 : n0 ≤ h62.size := Nat.le_trans Z61 E62.1
      have hk62 : 0 ≤ h62.size := Nat.le_trans hk61 E62.1
      have V_b62 : Arv Z h62 b62 k62 .char (2 : Int32) [(.int (0 : Int32)), (.int (0 : Int32))] (.int (0 : Int32)) := (Arv.new A62 (by decide)).pad (pad_rep [] (.int (0 : Int32)) 2)
      show own_Fin _ _ _ _ (T62.setTop (mkF m 82 #[iv p1, iv p2, iv p3, iv p4, iv (0 : Int32), iv (0 : Int32), iv v6_54, rv b60, rv b55, .unset, .unset, .unset] [(.ref b62)]))
      refine own_go (XS.astore X62.here hx rfl (hb hby at_82) rfl rfl rfl (Steps.refl _)) ?_
      show own_Fin _ _ _ _ (T62.setTop (mkF m 84 #[iv p1, iv p2, iv p3, iv p4, iv (0 : Int32), iv (0 : Int32), iv v6_54, rv b60, rv b62, .unset, .unset, .unset] []))
      refine own_go (XS.aload X62.here hx rfl (hb hby at_84) rfl rfl (Steps.refl _)) ?_
      show own_Fin _ _ _ _ (T62.setTop (mkF m 86 #[iv p1, iv p2, iv p3, iv p4, iv (0 : Int32), iv (0 : Int32), iv v6_54, rv b60, rv b62, .unset, .unset, .unset] [(.ref b62)]))
      refine own_go (XS.iconst X62.here hx rfl (hb hby at_86) (Steps.refl _)) ?_
      show own_Fin _ _ _ _ (T62.setTop (mkF m 87 #[iv p1, iv p2, iv p3, iv p4, iv (0 : Int32), iv (0 : Int32), iv v6_54, rv b60, rv b62, .unset, .unset, .unset] [(.int (0 : Int32)), (.ref b62)]))
      refine own_go (XS.iloadN X62.here hx rfl (hb hby at_87) rfl (Steps.refl _)) ?_
      show own_Fin _ _ _ _ (T62.setTop (mkF m 88 #[iv p1, iv p2, iv p3, iv p4, iv (0 : Int32), iv (0 : Int32), iv v6_54, rv b60, rv b62, .unset, .unset, .unset] [(.int p4), (.int (0 : Int32)), (.ref b62)]))
      refine own_go (XS.sipush X62.here hx rfl (hb hby at_88) (Steps.refl _)) ?_
      show own_Fin _ _ _ _ (T62.setTop (mkF m 91 #[iv p1, iv p2, iv p3, iv p4, iv (0 : Int32), iv (0 : Int32), iv v6_54, rv b60, rv b62, .unset, .unset, .unset] [(.int (255 : Int32)), (.int p4), (.int (0 : Int32)), (.ref b62)]))
      refine own_go (XS.iand X62.here hx rfl (hb hby at_91) rfl (Steps.refl _)) ?_
      show own_Fin _ _ _ _ (T62.setTop (mkF m 92 #[iv p1, iv p2, iv p3, iv p4, iv (0 : Int32), iv (0 : Int32), iv v6_54, rv b60, rv b62, .unset, .unset, .unset] [(.int (p4 &&& (255 : Int32))), (.int (0 : Int32)), (.ref b62)]))
      refine own_go (XS.i2c X62.here hx rfl (hb hby at_92) rfl (Steps.refl _)) ?_
      show own_Fin _ _ _ _ (T62.setTop (mkF m 93 #[iv p1, iv p2, iv p3, iv p4, iv (0 : Int32), iv (0 : Int32), iv v6_54, rv b60, rv b62, .unset, .unset, .unset] [(.int ((p4 &&& (255 : Int32)).toUInt32.toUInt16.toUInt32.toInt32)), (.int (0 : Int32)), (.ref b62)]))
      obtain ⟨cl63, Ar63, qa63, Sa63, Na63, Ha63, Ga63⟩ := id V_b62
      have hin63 : ¬ ((0 : Int32) < 0 ∨ cl63.slots.size ≤ ((0 : Int32)).toNatClampNeg) := inb_of Sa63 ⟨by decide, by decide⟩
      obtain ⟨T64, h64, X64, e64, W64, st64⟩ := stC X62 hx hZ e62 Ar63 (j := (0 : Int32)) hin63 (g := (mkF m 93 #[iv p1, iv p2, iv p3, iv p4, iv (0 : Int32), iv (0 : Int32), iv v6_54, rv b60, rv b62, .unset, .unset, .unset] [(.int ((p4 &&& (255 : Int32)).toUInt32.toUInt16.toUInt32.toInt32)), (.int (0 : Int32)), (.ref b62)])) rfl rfl (hb hby at_93)
      refine own_by st64 ?_
      have hnr64 : nar .char ((p4 &&& (255 : Int32)).toUInt32.toUInt16.toUInt32.toInt32) = (p4 &&& (255 : Int32)) := own_nc _
      rw [hnr64] at W64
      have V_b62_64 : Arv Z h64 b62 k62 .char (2 : Int32) [(.int (p4 &&& (255 : Int32))), (.int (0 : Int32))] (.int (0 : Int32)) := Arv.set Ar63 qa63 Sa63 Na63 Ha63 Ga63 (hnr64 ▸ fits_nar_char ((p4 &&& (255 : Int32)).toUInt32.toUInt16.toUInt32.toInt32)) W64 0 rfl (Nat.le_of_ble_eq_true rfl)
      have Od64 := Od62.wr W64 g_b62
      have E_aE_64 := E_aE_62.wr W64
      have E_aW_64 := E_aW_62.wr W64
      have V_b55_64 := V_b55_62.other W64 ne_b55_b62
      have r61_0_64 := r61_0_62.wr W64
      have r61_1_64 := r61_1_62.other W64 (Or.inl ne_b60_b62)
      have r61_2_64 := r61_2_62.other W64 (Or.inl ne_b60_b62)
      have r61_3_64 := r61_3_62.other W64 ne_b_61_b62
      have N64 := Fr.snoc X64 N61 g_b62
      have Z64 : n0 ≤ h64.size := Nat.le_trans Z62 (Keep.of_wr W64).1
      have hk64 : 0 ≤ h64.size := Nat.le_trans hk62 (Keep.of_wr W64).1
      show own_Fin _ _ _ _ (T64.setTop (mkF m 94 #[iv p1, iv p2, iv p3, iv p4, iv (0 : Int32), iv (0 : Int32), iv v6_54, rv b60, rv b62, .unset, .unset, .unset] []))
      refine own_go (XS.aload X64.here hx rfl (hb hby at_94) rfl rfl (Steps.refl _)) ?_
      show own_Fin _ _ _ _ (T64.setTop (mkF m 96 #[iv p1, iv p2, iv p3, iv p4, iv (0 : Int32), iv (0 : Int32), iv v6_54, rv b60, rv b62, .unset, .unset, .unset] [(.ref b62)]))
      refine own_go (XS.iconst X64.here hx rfl (hb hby at_96) (Steps.refl _)) ?_
      show own_Fin _ _ _ _ (T64.setTop (mkF m 97 #[iv p1, iv p2, iv p3, iv p4, iv (0 : Int32), iv (0 : Int32), iv v6_54, rv b60, rv b62, .unset, .unset, .unset] [(.int (1 : Int32)), (.ref b62)]))
      refine own_go (XS.iloadN X64.here hx rfl (hb hby at_97) rfl (Steps.refl _)) ?_
      show own_Fin _ _ _ _ (T64.setTop (mkF m 98 #[iv p1, iv p2, iv p3, iv p4, iv (0 : Int32), iv (0 : Int32), iv v6_54, rv b60, rv b62, .unset, .unset, .unset] [(.int p4), (.int (1 : Int32)), (.ref b62)]))
      refine own_go (XS.bipush X64.here hx rfl (hb hby at_98) (Steps.refl _)) ?_
      show own_Fin _ _ _ _ (T64.setTop (mkF m 100 #[iv p1, iv p2, iv p3, iv p4, iv (0 : Int32), iv (0 : Int32), iv v6_54, rv b60, rv b62, .unset, .unset, .unset] [(.int (8 : Int32)), (.int p4), (.int (1 : Int32)), (.ref b62)]))
      refine own_go (XS.iushr X64.here hx rfl (hb hby at_100) rfl (Steps.refl _)) ?_
      show own_Fin _ _ _ _ (T64.setTop (mkF m 101 #[iv p1, iv p2, iv p3, iv p4, iv (0 : Int32), iv (0 : Int32), iv v6_54, rv b60, rv b62, .unset, .unset, .unset] [(.int ((p4.toUInt32 >>> ((8 : Int32) &&& 31).toUInt32).toInt32)), (.int (1 : Int32)), (.ref b62)]))
      refine own_go (XS.sipush X64.here hx rfl (hb hby at_101) (Steps.refl _)) ?_
      show own_Fin _ _ _ _ (T64.setTop (mkF m 104 #[iv p1, iv p2, iv p3, iv p4, iv (0 : Int32), iv (0 : Int32), iv v6_54, rv b60, rv b62, .unset, .unset, .unset] [(.int (255 : Int32)), (.int ((p4.toUInt32 >>> ((8 : Int32) &&& 31).toUInt32).toInt32)), (.int (1 : Int32)), (.ref b62)]))
      refine own_go (XS.iand X64.here hx rfl (hb hby at_104) rfl (Steps.refl _)) ?_
      show own_Fin _ _ _ _ (T64.setTop (mkF m 105 #[iv p1, iv p2, iv p3, iv p4, iv (0 : Int32), iv (0 : Int32), iv v6_54, rv b60, rv b62, .unset, .unset, .unset] [(.int (((p4.toUInt32 >>> ((8 : Int32) &&& 31).toUInt32).toInt32) &&& (255 : Int32))), (.int (1 : Int32)), (.ref b62)]))
      refine own_go (XS.i2c X64.here hx rfl (hb hby at_105) rfl (Steps.refl _)) ?_
      show own_Fin _ _ _ _ (T64.setTop (mkF m 106 #[iv p1, iv p2, iv p3, iv p4, iv (0 : Int32), iv (0 : Int32), iv v6_54, rv b60, rv b62, .unset, .unset, .unset] [(.int ((((p4.toUInt32 >>> ((8 : Int32) &&& 31).toUInt32).toInt32) &&& (255 : Int32)).toUInt32.toUInt16.toUInt32.toInt32)), (.int (1 : Int32)), (.ref b62)]))
      obtain ⟨cl65, Ar65, qa65, Sa65, Na65, Ha65, Ga65⟩ := id V_b62_64
      have hin65 : ¬ ((1 : Int32) < 0 ∨ cl65.slots.size ≤ ((1 : Int32)).toNatClampNeg) := inb_of Sa65 ⟨by decide, by decide⟩
      obtain ⟨T66, h66, X66, e66, W66, st66⟩ := stC X64 hx hZ e64 Ar65 (j := (1 : Int32)) hin65 (g := (mkF m 106 #[iv p1, iv p2, iv p3, iv p4, iv (0 : Int32), iv (0 : Int32), iv v6_54, rv b60, rv b62, .unset, .unset, .unset] [(.int ((((p4.toUInt32 >>> ((8 : Int32) &&& 31).toUInt32).toInt32) &&& (255 : Int32)).toUInt32.toUInt16.toUInt32.toInt32)), (.int (1 : Int32)), (.ref b62)])) rfl rfl (hb hby at_106)
      refine own_by st66 ?_
      have hnr66 : nar .char ((((p4.toUInt32 >>> ((8 : Int32) &&& 31).toUInt32).toInt32) &&& (255 : Int32)).toUInt32.toUInt16.toUInt32.toInt32) = (((p4.toUInt32 >>> ((8 : Int32) &&& 31).toUInt32).toInt32) &&& (255 : Int32)) := own_nc _
      rw [hnr66] at W66
      have V_b62_66 : Arv Z h66 b62 k62 .char (2 : Int32) [(.int (p4 &&& (255 : Int32))), (.int (((p4.toUInt32 >>> ((8 : Int32) &&& 31).toUInt32).toInt32) &&& (255 : Int32)))] (.int (0 : Int32)) := Arv.set Ar65 qa65 Sa65 Na65 Ha65 Ga65 (hnr66 ▸ fits_nar_char ((((p4.toUInt32 >>> ((8 : Int32) &&& 31).toUInt32).toInt32) &&& (255 : Int32)).toUInt32.toUInt16.toUInt32.toInt32)) W66 1 rfl (Nat.le_of_ble_eq_true rfl)
      have Od66 := Od64.wr W66 g_b62
      have E_aE_66 := E_aE_64.wr W66
      have E_aW_66 := E_aW_64.wr W66
      have V_b55_66 := V_b55_64.other W66 ne_b55_b62
      have r61_0_66 := r61_0_64.wr W66
      have r61_1_66 := r61_1_64.other W66 (Or.inl ne_b60_b62)
      have r61_2_66 := r61_2_64.other W66 (Or.inl ne_b60_b62)
      have r61_3_66 := r61_3_64.other W66 ne_b_61_b62
      have N66 := Fr.snoc X66 N64 g_b62
      have Z66 : n0 ≤ h66.size := Nat.le_trans Z64 (Keep.of_wr W66).1
      have hk66 : 0 ≤ h66.size := Nat.le_trans hk64 (Keep.of_wr W66).1
      show own_Fin _ _ _ _ (T66.setTop (mkF m 107 #[iv p1, iv p2, iv p3, iv p4, iv (0 : Int32), iv (0 : Int32), iv v6_54, rv b60, rv b62, .unset, .unset, .unset] []))
      obtain ⟨T67, h67, X67, e67, E67, A67, D67, U67, st67⟩ := newO X66 hx hZ hown (hw _ (List.mem_of_getElem? (i := 2) rfl)) (hw _ (List.mem_of_getElem? (i := 3) rfl)) (hw _ (List.mem_of_getElem? (i := 4) rfl)) e66 (g := (mkF m 107 #[iv p1, iv p2, iv p3, iv p4, iv (0 : Int32), iv (0 : Int32), iv v6_54, rv b60, rv b62, .unset, .unset, .unset] [])) rfl (hb hby at_107) (by decide) (by decide)
      obtain ⟨b67, g67⟩ : ∃ z, z = h66.size := ⟨_, rfl⟩
      rw [← g67] at A67 D67 U67 st67
      refine own_by st67 ?_
      have ne_aE_b67 : aE ≠ b67 := Nat.ne_of_lt (Nat.lt_of_lt_of_eq E_aE_66.lt g67.symm)
      have ne_aW_b67 : aW ≠ b67 := Nat.ne_of_lt (Nat.lt_of_lt_of_eq E_aW_66.lt g67.symm)
      have ne_b55_b67 : b55 ≠ b67 := Nat.ne_of_lt (Nat.lt_of_lt_of_eq V_b55_66.lt g67.symm)
      have ne_b60_b67 : b60 ≠ b67 := Nat.ne_of_lt (Nat.lt_of_lt_of_eq r61_0_66.lt g67.symm)
      have ne_b_61_b67 : b_61 ≠ b67 := Nat.ne_of_lt (Nat.lt_of_lt_of_eq r61_3_66.lt g67.symm)
      have ne_b62_b67 : b62 ≠ b67 := Nat.ne_of_lt (Nat.lt_of_lt_of_eq V_b62_66.lt g67.symm)
      have Od67 := Od66.ext E67
      have E_aE_67 := E_aE_66.ext E67
      have E_aW_67 := E_aW_66.ext E67
      have V_b55_67 := V_b55_66.ext E67
      have r61_0_67 := r61_0_66.ext E67
      have r61_1_67 := r61_1_66.ext E67
      have r61_2_67 := r61_2_66.ext E67
      have r61_3_67 := r61_3_66.ext E67
      have V_b62_67 := V_b62_66.ext E67
      have g_b67 : n0 ≤ b67 := Nat.le_trans Z66 (Nat.le_of_eq g67.symm)
      have Z67 : n0 ≤ h67.size := Nat.le_trans Z66 E67.1
      have hk67 : 0 ≤ h67.size := Nat.le_trans hk66 E67.1
      have E_b67 := A67
      have F_coder_b67 : Fld Z h67 b67 "java/lang/String" "coder" "B" (.int (0 : Int32)) := D67 (Or.inr (hw _ (List.mem_of_getElem? (i := 28) rfl))) (ty := .byte) (by decide)
      have F_value_b67 : Fld Z h67 b67 "java/lang/String" "value" "[B" .null := D67 (Or.inr (hw _ (List.mem_of_getElem? (i := 30) rfl))) (ty := (.array .byte)) (by decide)
      show own_Fin _ _ _ _ (T67.setTop (mkF m 110 #[iv p1, iv p2, iv p3, iv p4, iv (0 : Int32), iv (0 : Int32), iv v6_54, rv b60, rv b62, .unset, .unset, .unset] [(.ref b67)]))
      refine own_go (XS.dup X67.here hx rfl (hb hby at_110) rfl rfl (Steps.refl _)) ?_
      show own_Fin _ _ _ _ (T67.setTop (mkF m 111 #[iv p1, iv p2, iv p3, iv p4, iv (0 : Int32), iv (0 : Int32), iv v6_54, rv b60, rv b62, .unset, .unset, .unset] [(.ref b67), (.ref b67)]))
      refine own_go (XS.aload X67.here hx rfl (hb hby at_111) rfl rfl (Steps.refl _)) ?_
      show own_Fin _ _ _ _ (T67.setTop (mkF m 113 #[iv p1, iv p2, iv p3, iv p4, iv (0 : Int32), iv (0 : Int32), iv v6_54, rv b60, rv b62, .unset, .unset, .unset] [(.ref b62), (.ref b67), (.ref b67)]))
      obtain ⟨_, _, ⟨T68, L68, k68, n68⟩, -, X68, ⟨Lc68, hQ68, l68, y68, z68⟩, st68⟩ := X67.specialBack hx (y := (⟨"java/lang/String", "<init>", "([C)V"⟩ : MethodName)) rfl hown (mvT hZ (hw _ (List.mem_of_getElem? (i := 5) rfl))) (mvT hZ (hw _ (List.mem_of_getElem? (i := 6) rfl))) (mvT hZ (hw _ (List.mem_of_getElem? (i := 7) rfl))) (by decide) (backOf (W := 1) (rmstr_2 l Z a0 hw [] b67 b62 k62 cs (p4 &&& (255 : Int32)) (((p4.toUInt32 >>> ((8 : Int32) &&& 31).toUInt32).toInt32) &&& (255 : Int32)) h67 n0 Z67 E_b67 F_value_b67 F_coder_b67 g_b67 Od67 S_COMPACT_STRINGS hcs V_b62_67 (own_lt p4) (own_lt ((p4.toUInt32 >>> ((8 : Int32) &&& 31).toUInt32).toInt32))) hZ (hw _ (List.mem_of_getElem? (i := 7) rfl)) (hw _ (List.mem_of_getElem? (i := 4) rfl)) (by decide) (by decide)) (g := (mkF m 113 #[iv p1, iv p2, iv p3, iv p4, iv (0 : Int32), iv (0 : Int32), iv v6_54, rv b60, rv b62, .unset, .unset, .unset] [(.ref b62), (.ref b67), (.ref b67)])) rfl (by rw [hml]; rfl) (Steps.refl _) (a := b67) (argsL := [(.ref b62)]) (rest := [(.ref b67)]) (lenOf pd__28__5b_C_29_V rfl) rfl (by show 2 * 0 + _ ≤ _; exact Nat.le_of_eq rfl) (hb hby at_113) (fun _ _ => ⟨rfl, e67, (by decide : 5 + 1 ≤ _), (by decide : 14 + 2 ≤ _)⟩)
      dsimp only [Pt.U, Pt.locs, Pt.cells, Pt.slots] at X68 l68 y68 z68 st68 hQ68
      subst l68 y68 z68
      refine own_go st68 ?_
      obtain ⟨b_68, kb_68, rfl, Nq68, K68, g_b_68, sb_b_68, r68_0, r68_1, r68_2, r68_3⟩ := hQ68
      have ne_aE_b_68 : aE ≠ b_68 := Nat.ne_of_lt (Nat.lt_of_lt_of_le E_aE_67.lt sb_b_68)
      have ne_aW_b_68 : aW ≠ b_68 := Nat.ne_of_lt (Nat.lt_of_lt_of_le E_aW_67.lt sb_b_68)
      have ne_b55_b_68 : b55 ≠ b_68 := Nat.ne_of_lt (Nat.lt_of_lt_of_le V_b55_67.lt sb_b_68)
      have ne_b60_b_68 : b60 ≠ b_68 := Nat.ne_of_lt (Nat.lt_of_lt_of_le r61_0_67.lt sb_b_68)
      have ne_b_61_b_68 : b_61 ≠ b_68 := Nat.ne_of_lt (Nat.lt_of_lt_of_le r61_3_67.lt sb_b_68)
      have ne_b62_b_68 : b62 ≠ b_68 := Nat.ne_of_lt (Nat.lt_of_lt_of_le V_b62_67.lt sb_b_68)
      have ne_b67_b_68 : b67 ≠ b_68 := Nat.ne_of_lt (Nat.lt_of_lt_of_le E_b67.lt sb_b_68)
      have Od68 := Od67.keep K68 (allS g_b67 all0)
      have E_aE_68 := E_aE_67.keep K68
      have E_aW_68 := E_aW_67.keep K68
      have V_b55_68 := V_b55_67.keep K68 (ninS ne_b55_b67 nin0)
      have r61_0_68 := r61_0_67.keep K68
      have r61_1_68 := r61_1_67.keep K68 (ninS ne_b60_b67 nin0)
      have r61_2_68 := r61_2_67.keep K68 (ninS ne_b60_b67 nin0)
      have r61_3_68 := r61_3_67.keep K68 (ninS ne_b_61_b67 nin0)
      have V_b62_68 := V_b62_67.keep K68 (ninS ne_b62_b67 nin0)
      have E_b67_68 := E_b67.keep K68
      have Z68 : n0 ≤ T68.heap.size := Nat.le_trans Z67 K68.1
      have hk68 : 0 ≤ T68.heap.size := Nat.le_trans hk67 K68.1
      have N68 := Fr.app N66 Nq68
      show own_Fin _ _ _ _ (T68.setTop (mkF m 116 #[iv p1, iv p2, iv p3, iv p4, iv (0 : Int32), iv (0 : Int32), iv v6_54, rv b60, rv b62, .unset, .unset, .unset] [(.ref b67)]))
      refine own_go (XS.astore X68.here hx rfl (hb hby at_116) rfl rfl rfl (Steps.refl _)) ?_
      show own_Fin _ _ _ _ (T68.setTop (mkF m 118 #[iv p1, iv p2, iv p3, iv p4, iv (0 : Int32), iv (0 : Int32), iv v6_54, rv b60, rv b62, rv b67, .unset, .unset] []))
      refine own_go (XS.iload X68.here hx rfl (hb hby at_118) rfl (Steps.refl _)) ?_
      show own_Fin _ _ _ _ (T68.setTop (mkF m 120 #[iv p1, iv p2, iv p3, iv p4, iv (0 : Int32), iv (0 : Int32), iv v6_54, rv b60, rv b62, rv b67, .unset, .unset] [(.int (0 : Int32))]))
      refine own_go (XS.ifYes X68.here hx rfl (pc0 := 120) (pc' := 129) rfl (hb hby at_120) rfl ((if0 _ _).trans (teq (by decide : (0 : Int32) = (0 : Int32))).1) (by decide) (by decide) (Steps.refl _)) ?_
      show own_Fin _ _ _ _ (T68.setTop (mkF m 129 #[iv p1, iv p2, iv p3, iv p4, iv (0 : Int32), iv (0 : Int32), iv v6_54, rv b60, rv b62, rv b67, .unset, .unset] []))
      obtain ⟨T69, X69, e69, st69⟩ := getS2 X68 hx hZ hown (host := "") (Or.inl (hw _ (List.mem_of_getElem? (i := 31) rfl))) Via.refl rfl (S_WARNING.ext Od68.2) (g := (mkF m 129 #[iv p1, iv p2, iv p3, iv p4, iv (0 : Int32), iv (0 : Int32), iv v6_54, rv b60, rv b62, rv b67, .unset, .unset] [])) rfl (hb hby at_129)
      refine own_by st69 ?_
      show own_Fin _ _ _ _ (T69.setTop (mkF m 132 #[iv p1, iv p2, iv p3, iv p4, iv (0 : Int32), iv (0 : Int32), iv v6_54, rv b60, rv b62, rv b67, .unset, .unset] [(.ref aW)]))
      refine own_go (XS.astore X69.here hx rfl (hb hby at_132) rfl rfl rfl (Steps.refl _)) ?_
      show own_Fin _ _ _ _ (T69.setTop (mkF m 134 #[iv p1, iv p2, iv p3, iv p4, iv (0 : Int32), iv (0 : Int32), iv v6_54, rv b60, rv b62, rv b67, rv aW, .unset] []))
      obtain ⟨T70, h70, X70, e70, E70, A70, D70, U70, st70⟩ := newO X69 hx hZ hown (hw _ (List.mem_of_getElem? (i := 34) rfl)) (hw _ (List.mem_of_getElem? (i := 35) rfl)) (hw _ (List.mem_of_getElem? (i := 36) rfl)) e69 (g := (mkF m 134 #[iv p1, iv p2, iv p3, iv p4, iv (0 : Int32), iv (0 : Int32), iv v6_54, rv b60, rv b62, rv b67, rv aW, .unset] [])) rfl (hb hby at_134) (by decide) (by decide)
      obtain ⟨b70, g70⟩ : ∃ z, z = T68.heap.size := ⟨_, rfl⟩
      rw [← g70] at A70 D70 U70 st70
      refine own_by st70 ?_
      have ne_aE_b70 : aE ≠ b70 := Nat.ne_of_lt (Nat.lt_of_lt_of_eq E_aE_68.lt g70.symm)
      have ne_aW_b70 : aW ≠ b70 := Nat.ne_of_lt (Nat.lt_of_lt_of_eq E_aW_68.lt g70.symm)
      have ne_b55_b70 : b55 ≠ b70 := Nat.ne_of_lt (Nat.lt_of_lt_of_eq V_b55_68.lt g70.symm)
      have ne_b60_b70 : b60 ≠ b70 := Nat.ne_of_lt (Nat.lt_of_lt_of_eq r61_0_68.lt g70.symm)
      have ne_b_61_b70 : b_61 ≠ b70 := Nat.ne_of_lt (Nat.lt_of_lt_of_eq r61_3_68.lt g70.symm)
      have ne_b62_b70 : b62 ≠ b70 := Nat.ne_of_lt (Nat.lt_of_lt_of_eq V_b62_68.lt g70.symm)
      have ne_b67_b70 : b67 ≠ b70 := Nat.ne_of_lt (Nat.lt_of_lt_of_eq r68_0.lt g70.symm)
      have ne_b_68_b70 : b_68 ≠ b70 := Nat.ne_of_lt (Nat.lt_of_lt_of_eq r68_3.lt g70.symm)
      have Od70 := Od68.ext E70
      have E_aE_70 := E_aE_68.ext E70
      have E_aW_70 := E_aW_68.ext E70
      have V_b55_70 := V_b55_68.ext E70
      have r61_0_70 := r61_0_68.ext E70
      have r61_1_70 := r61_1_68.ext E70
      have r61_2_70 := r61_2_68.ext E70
      have r61_3_70 := r61_3_68.ext E70
      have V_b62_70 := V_b62_68.ext E70
      have r68_0_70 := r68_0.ext E70
      have r68_1_70 := r68_1.ext E70
      have r68_2_70 := r68_2.ext E70
      have r68_3_70 := r68_3.ext E70
      have g_b70 : n0 ≤ b70 := Nat.le_trans Z68 (Nat.le_of_eq g70.symm)
      have Z70 : n0 ≤ h70.size := Nat.le_trans Z68 E70.1
      have hk70 : 0 ≤ h70.size := Nat.le_trans hk68 E70.1
      have E_b70 := A70
      have F_file_b70 : Fld Z h70 b70 "com/example/headwright/headwright/Diagnostic" "file" "Ljava/lang/String;" .null := D70 (Or.inr (hw _ (List.mem_of_getElem? (i := 55) rfl))) (ty := (.object "java/lang/String")) (by decide)
      have F_line_b70 : Fld Z h70 b70 "com/example/headwright/headwright/Diagnostic" "line" "I" (.int (0 : Int32)) := D70 (Or.inr (hw _ (List.mem_of_getElem? (i := 57) rfl))) (ty := .int) (by decide)
      have F_severity_b70 : Fld Z h70 b70 "com/example/headwright/headwright/Diagnostic" "severity" "Lcom/example/headwright/headwright/Diagnostic$Severity;" .null := D70 (Or.inr (hw _ (List.mem_of_getElem? (i := 59) rfl))) (ty := (.object "com/example/headwright/headwright/Diagnostic$Severity")) (by decide)
      have F_message_b70 : Fld Z h70 b70 "com/example/headwright/headwright/Diagnostic" "message" "Ljava/lang/String;" .null := D70 (Or.inr (hw _ (List.mem_of_getElem? (i := 61) rfl))) (ty := (.object "java/lang/String")) (by decide)
      show own_Fin _ _ _ _ (T70.setTop (mkF m 137 #[iv p1, iv p2, iv p3, iv p4, iv (0 : Int32), iv (0 : Int32), iv v6_54, rv b60, rv b62, rv b67, rv aW, .unset] [(.ref b70)]))
      refine own_go (XS.dup X70.here hx rfl (hb hby at_137) rfl rfl (Steps.refl _)) ?_
      show own_Fin _ _ _ _ (T70.setTop (mkF m 138 #[iv p1, iv p2, iv p3, iv p4, iv (0 : Int32), iv (0 : Int32), iv v6_54, rv b60, rv b62, rv b67, rv aW, .unset] [(.ref b70), (.ref b70)]))
      refine own_go (XS.aload X70.here hx rfl (hb hby at_138) rfl rfl (Steps.refl _)) ?_
      show own_Fin _ _ _ _ (T70.setTop (mkF m 140 #[iv p1, iv p2, iv p3, iv p4, iv (0 : Int32), iv (0 : Int32), iv v6_54, rv b60, rv b62, rv b67, rv aW, .unset] [(.ref b60), (.ref b70), (.ref b70)]))
      refine own_go (XS.iload X70.here hx rfl (hb hby at_140) rfl (Steps.refl _)) ?_
      show own_Fin _ _ _ _ (T70.setTop (mkF m 142 #[iv p1, iv p2, iv p3, iv p4, iv (0 : Int32), iv (0 : Int32), iv v6_54, rv b60, rv b62, rv b67, rv aW, .unset] [(.int v6_54), (.ref b60), (.ref b70), (.ref b70)]))
      refine own_go (XS.aload X70.here hx rfl (hb hby at_142) rfl rfl (Steps.refl _)) ?_
      show own_Fin _ _ _ _ (T70.setTop (mkF m 144 #[iv p1, iv p2, iv p3, iv p4, iv (0 : Int32), iv (0 : Int32), iv v6_54, rv b60, rv b62, rv b67, rv aW, .unset] [(.ref aW), (.int v6_54), (.ref b60), (.ref b70), (.ref b70)]))
      refine own_go (XS.aload X70.here hx rfl (hb hby at_144) rfl rfl (Steps.refl _)) ?_
      show own_Fin _ _ _ _ (T70.setTop (mkF m 146 #[iv p1, iv p2, iv p3, iv p4, iv (0 : Int32), iv (0 : Int32), iv v6_54, rv b60, rv b62, rv b67, rv aW, .unset] [(.ref b67), (.ref aW), (.int v6_54), (.ref b60), (.ref b70), (.ref b70)]))
      obtain ⟨_, _, ⟨T71, L71, k71, n71⟩, -, X71, hs271, hgr71, ⟨Lc71, hQ71, l71, y71, z71⟩, st71⟩ := X70.specialBackS hx (y := (⟨"com/example/headwright/headwright/Diagnostic", "<init>", "(Ljava/lang/String;ILcom/example/headwright/headwright/Diagnostic$Severity;Ljava/lang/String;)V"⟩ : MethodName)) rfl hown (mvT hZ (hw _ (List.mem_of_getElem? (i := 37) rfl))) (mvT hZ (hw _ (List.mem_of_getElem? (i := 38) rfl))) (mvT hZ (hw _ (List.mem_of_getElem? (i := 39) rfl))) (by decide) (backOfS (W := 1) (rmdi_r l Z a0 hw [] b70 b60 v6_54 aW b67 h70 n0 Z70 E_b70 F_file_b70 F_line_b70 F_severity_b70 F_message_b70 g_b70 (by rw [← hz_v6_54]; exact own_ln p2) r61_0_70 E_aW_70 r68_0_70) hZ (hw _ (List.mem_of_getElem? (i := 39) rfl)) (hw _ (List.mem_of_getElem? (i := 36) rfl)) (by decide) (by decide)) (g := (mkF m 146 #[iv p1, iv p2, iv p3, iv p4, iv (0 : Int32), iv (0 : Int32), iv v6_54, rv b60, rv b62, rv b67, rv aW, .unset] [(.ref b67), (.ref aW), (.int v6_54), (.ref b60), (.ref b70), (.ref b70)])) rfl (by rw [hml]; rfl) (Steps.refl _) (a := b70) (argsL := [(.ref b60), (.int v6_54), (.ref aW), (.ref b67)]) (rest := [(.ref b70)]) (lenOf pd__28_Ljava_2f_lang_2f_String_3b_ILcom_2f_example_2f_headwright_2f_headwright_2f_Diagnostic_24_Severity_3b_Ljava_2f_lang_2f_String_3b__29_V rfl) rfl (by show 2 * 0 + _ ≤ _; exact Nat.le_of_eq rfl) (hb hby at_146) (fun _ _ => ⟨rfl, e70, (by decide : 7 + 4 ≤ _), (by decide : 20 + 204 ≤ _)⟩)
      dsimp only [Pt.U, Pt.locs, Pt.cells, Pt.slots] at X71 l71 y71 z71 st71 hQ71 hs271 hgr71
      subst l71 y71 z71
      obtain ⟨Xr71, hS71, hZ71, hown71⟩ := rebS hS0 (show 0 ≤ T70.heap.size by rw [e70]; exact hk70) X71 hs271 hgr71 hZ hown
      refine own_go st71 ?_
      obtain ⟨rfl, Nq71, K71, r71_0, r71_1, r71_2, r71_3, r71_4⟩ := hQ71
      have Od71 := Od70.keep K71 (allS g_b70 all0)
      have E_aE_71 := E_aE_70.keep K71
      have E_aW_71 := E_aW_70.keep K71
      have V_b55_71 := V_b55_70.keep K71 (ninS ne_b55_b70 nin0)
      have r61_0_71 := r61_0_70.keep K71
      have r61_1_71 := r61_1_70.keep K71 (ninS ne_b60_b70 nin0)
      have r61_2_71 := r61_2_70.keep K71 (ninS ne_b60_b70 nin0)
      have r61_3_71 := r61_3_70.keep K71 (ninS ne_b_61_b70 nin0)
      have V_b62_71 := V_b62_70.keep K71 (ninS ne_b62_b70 nin0)
      have r68_0_71 := r68_0_70.keep K71
      have r68_1_71 := r68_1_70.keep K71 (ninS ne_b67_b70 nin0)
      have r68_2_71 := r68_2_70.keep K71 (ninS ne_b67_b70 nin0)
      have r68_3_71 := r68_3_70.keep K71 (ninS ne_b_68_b70 nin0)
      have E_b70_71 := E_b70.keep K71
      have Z71 : n0 ≤ T71.heap.size := Nat.le_trans Z70 K71.1
      have hk71 : 0 ≤ T71.heap.size := Nat.le_trans hk70 K71.1
      have hkr71 : T71.heap.size ≤ T71.heap.size := Nat.le_refl _
      have N71 := Fr.app N68 Nq71
      show own_Fin _ _ _ _ (T71.setTop (mkF m 149 #[iv p1, iv p2, iv p3, iv p4, iv (0 : Int32), iv (0 : Int32), iv v6_54, rv b60, rv b62, rv b67, rv aW, .unset] [(.ref b70)]))
      refine own_go (XS.astore Xr71.here hx rfl (hb hby at_149) rfl rfl rfl (Steps.refl _)) ?_
      show own_Fin _ _ _ _ (T71.setTop (mkF m 151 #[iv p1, iv p2, iv p3, iv p4, iv (0 : Int32), iv (0 : Int32), iv v6_54, rv b60, rv b62, rv b67, rv aW, rv b70] []))
      refine own_go (XS.aload Xr71.here hx rfl (hb hby at_151) rfl rfl (Steps.refl _)) ?_
      show own_Fin _ _ _ _ (T71.setTop (mkF m 153 #[iv p1, iv p2, iv p3, iv p4, iv (0 : Int32), iv (0 : Int32), iv v6_54, rv b60, rv b62, rv b67, rv aW, rv b70] [(.ref b70)]))
      obtain ⟨cq72, kq72, q72a, q72b, q72c⟩ := isOf hZ71 rfl r71_0
      obtain ⟨_, _, ⟨T72, L72, k72, n72⟩, -, X72, ⟨Lc72, hQ72, l72, y72, z72⟩, st72⟩ := Xr71.virtualBack hx (y := (⟨"com/example/headwright/headwright/Diagnostic", "isError", "()Z"⟩ : MethodName)) (z := (⟨"com/example/headwright/headwright/Diagnostic", "isError", "()Z"⟩ : MethodName)) hown71 (mvT hZ71 (hw _ (List.mem_of_getElem? (i := 62) rfl))) (mvT hZ71 (hw _ (List.mem_of_getElem? (i := 63) rfl))) (notFace_of_selects (args := #[]) (mvT hZ71 (hw _ (List.mem_of_getElem? (i := 65) rfl)))) (mvT hZ71 (hw _ (List.mem_of_getElem? (i := 65) rfl))) (mvT hZ71 (hw _ (List.mem_of_getElem? (i := 64) rfl))) (by decide) (backOf (W := 0) (rmie_W l Z a0 hw [] b70 aE aW T71.heap n0 Z71 r71_3 Od71 S_ERROR neWE) hZ71 (hw _ (List.mem_of_getElem? (i := 66) rfl)) (hw _ (List.mem_of_getElem? (i := 36) rfl)) (by decide) (by decide)) q72a q72c (g := (mkF m 153 #[iv p1, iv p2, iv p3, iv p4, iv (0 : Int32), iv (0 : Int32), iv v6_54, rv b60, rv b62, rv b67, rv aW, rv b70] [(.ref b70)])) rfl (by rw [hml]; rfl) (Steps.refl _) (argsL := []) (rest := []) (lenOf pd__28__29_Z rfl) rfl (by show 2 * 0 + _ ≤ _; exact Nat.le_of_eq rfl) (hb hby at_153) (fun _ _ => ⟨rfl, rfl, (by decide : 11 + 0 ≤ _), (by decide : 224 + 0 ≤ _)⟩)
      dsimp only [Pt.U, Pt.locs, Pt.cells, Pt.slots] at X72 l72 y72 z72 st72 hQ72
      subst l72 y72 z72
      obtain ⟨rfl, Nq72, e72⟩ := hQ72
      refine own_go st72 ?_
      have N72 := Fr.app N71 Nq72
      show own_Fin _ _ _ _ (T72.setTop (mkF m 156 #[iv p1, iv p2, iv p3, iv p4, iv (0 : Int32), iv (0 : Int32), iv v6_54, rv b60, rv b62, rv b67, rv aW, rv b70] [(.int (0 : Int32))]))
      refine own_go (XS.iload X72.here hx rfl (hb hby at_156) rfl (Steps.refl _)) ?_
      show own_Fin _ _ _ _ (T72.setTop (mkF m 158 #[iv p1, iv p2, iv p3, iv p4, iv (0 : Int32), iv (0 : Int32), iv v6_54, rv b60, rv b62, rv b67, rv aW, rv b70] [(.int (0 : Int32)), (.int (0 : Int32))]))
      refine own_go (XS.icmpNo X72.here hx rfl (hb hby at_158) rfl (teq (by decide : (0 : Int32) = (0 : Int32))).2 (Steps.refl _)) ?_
      show own_Fin _ _ _ _ (T72.setTop (mkF m 161 #[iv p1, iv p2, iv p3, iv p4, iv (0 : Int32), iv (0 : Int32), iv v6_54, rv b60, rv b62, rv b67, rv aW, rv b70] []))
      refine own_go (XS.iconst X72.here hx rfl (hb hby at_161) (Steps.refl _)) ?_
      show own_Fin _ _ _ _ (T72.setTop (mkF m 162 #[iv p1, iv p2, iv p3, iv p4, iv (0 : Int32), iv (0 : Int32), iv v6_54, rv b60, rv b62, rv b67, rv aW, rv b70] [(.int (1 : Int32))]))
      refine own_go (XS.goto X72.here hx rfl (pc0 := 162) (pc' := 166) rfl (hb hby at_162) (by decide) (by decide) (Steps.refl _)) ?_
      show own_Fin _ _ _ _ (T72.setTop (mkF m 166 #[iv p1, iv p2, iv p3, iv p4, iv (0 : Int32), iv (0 : Int32), iv v6_54, rv b60, rv b62, rv b67, rv aW, rv b70] [(.int (1 : Int32))]))
      obtain ⟨fs73, hr73, hrun73, hended73, hRW73⟩ := X72.leaveW (s := s) hS71 (n := T71.heap.size) (by rw [e72]; exact hkr71) (v := some (.int (1 : Int32))) (fun h => by rw [Bd.returns] at h; cases h)
      refine own_done (retN X72 hx (t := .boolean) Bd.returns (by simp) (hb hby at_166) hr73) hrun73 hended73 ⟨_, _, rfl, ?_, hRW73.1, hRW73.2.1, hRW73.2.2.1, hRW73.2.2.2.mono (by decide) (by decide)⟩
      show Q0 Z p1 p2 p3 p4 aE aW cs h0 n0 _ T72.heap _
      rw [e72]
      exact ⟨rfl, N72⟩
    · refine own_go (XS.ifNo X0w.here hx rfl (hb hby at_16) rfl ((if0 _ _).trans (feq c16_53).1) (Steps.refl _)) ?_
      show own_Fin _ _ _ _ (s₁.setTop (mkF m 19 #[iv p1, iv p2, iv p3, iv p4, iv (0 : Int32), .unset, .unset, .unset, .unset, .unset, .unset, .unset] []))
      refine own_go (XS.iconst X0w.here hx rfl (hb hby at_19) (Steps.refl _)) ?_
      show own_Fin _ _ _ _ (s₁.setTop (mkF m 20 #[iv p1, iv p2, iv p3, iv p4, iv (0 : Int32), .unset, .unset, .unset, .unset, .unset, .unset, .unset] [(.int (1 : Int32))]))
      refine own_go (XS.goto X0w.here hx rfl (pc0 := 20) (pc' := 24) rfl (hb hby at_20) (by decide) (by decide) (Steps.refl _)) ?_
      show own_Fin _ _ _ _ (s₁.setTop (mkF m 24 #[iv p1, iv p2, iv p3, iv p4, iv (0 : Int32), .unset, .unset, .unset, .unset, .unset, .unset, .unset] [(.int (1 : Int32))]))
      refine own_go (XS.istore X0w.here hx rfl (hb hby at_24) rfl rfl (Steps.refl _)) ?_
      show own_Fin _ _ _ _ (s₁.setTop (mkF m 26 #[iv p1, iv p2, iv p3, iv p4, iv (0 : Int32), iv (1 : Int32), .unset, .unset, .unset, .unset, .unset, .unset] []))
      refine own_go (XS.iloadN X0w.here hx rfl (hb hby at_26) rfl (Steps.refl _)) ?_
      show own_Fin _ _ _ _ (s₁.setTop (mkF m 27 #[iv p1, iv p2, iv p3, iv p4, iv (0 : Int32), iv (1 : Int32), .unset, .unset, .unset, .unset, .unset, .unset] [(.int p2)]))
      refine own_by (X0w.ldcInt hx hown (mvT hZ (hw _ (List.mem_of_getElem? (i := 0) rfl))) (g := (mkF m 27 #[iv p1, iv p2, iv p3, iv p4, iv (0 : Int32), iv (1 : Int32), .unset, .unset, .unset, .unset, .unset, .unset] [(.int p2)])) rfl (hb hby at_27)) ?_
      show own_Fin _ _ _ _ (s₁.setTop (mkF m 29 #[iv p1, iv p2, iv p3, iv p4, iv (0 : Int32), iv (1 : Int32), .unset, .unset, .unset, .unset, .unset, .unset] [(.int (2147483647 : Int32)), (.int p2)]))
      refine own_go (XS.iand X0w.here hx rfl (hb hby at_29) rfl (Steps.refl _)) ?_
      show own_Fin _ _ _ _ (s₁.setTop (mkF m 30 #[iv p1, iv p2, iv p3, iv p4, iv (0 : Int32), iv (1 : Int32), .unset, .unset, .unset, .unset, .unset, .unset] [(.int (p2 &&& (2147483647 : Int32)))]))
      refine own_go (XS.istore X0w.here hx rfl (hb hby at_30) rfl rfl (Steps.refl _)) ?_
      show own_Fin _ _ _ _ (s₁.setTop (mkF m 32 #[iv p1, iv p2, iv p3, iv p4, iv (0 : Int32), iv (1 : Int32), iv (p2 &&& (2147483647 : Int32)), .unset, .unset, .unset, .unset, .unset] []))
      generalize hz_v6_74 : (p2 &&& (2147483647 : Int32)) = v6_74
      refine own_go (XS.aconstNull X0w.here hx rfl (hb hby at_32) (Steps.refl _)) ?_
      show own_Fin _ _ _ _ (s₁.setTop (mkF m 33 #[iv p1, iv p2, iv p3, iv p4, iv (0 : Int32), iv (1 : Int32), iv v6_74, .unset, .unset, .unset, .unset, .unset] [.null]))
      refine own_go (XS.astore X0w.here hx rfl (hb hby at_33) rfl rfl rfl (Steps.refl _)) ?_
      show own_Fin _ _ _ _ (s₁.setTop (mkF m 35 #[iv p1, iv p2, iv p3, iv p4, iv (0 : Int32), iv (1 : Int32), iv v6_74, .val .null, .unset, .unset, .unset, .unset] []))
      refine own_go (XS.iload X0w.here hx rfl (hb hby at_35) rfl (Steps.refl _)) ?_
      show own_Fin _ _ _ _ (s₁.setTop (mkF m 37 #[iv p1, iv p2, iv p3, iv p4, iv (0 : Int32), iv (1 : Int32), iv v6_74, .val .null, .unset, .unset, .unset, .unset] [(.int (1 : Int32))]))
      refine own_go (XS.ifYes X0w.here hx rfl (pc0 := 37) (pc' := 79) rfl (hb hby at_37) rfl ((if0 _ _).trans (feq (by decide : ¬ ((1 : Int32) = (0 : Int32)))).2) (by decide) (by decide) (Steps.refl _)) ?_
      show own_Fin _ _ _ _ (s₁.setTop (mkF m 79 #[iv p1, iv p2, iv p3, iv p4, iv (0 : Int32), iv (1 : Int32), iv v6_74, .val .null, .unset, .unset, .unset, .unset] []))
      refine own_go (XS.iconst X0w.here hx rfl (hb hby at_79) (Steps.refl _)) ?_
      show own_Fin _ _ _ _ (s₁.setTop (mkF m 80 #[iv p1, iv p2, iv p3, iv p4, iv (0 : Int32), iv (1 : Int32), iv v6_74, .val .null, .unset, .unset, .unset, .unset] [(.int (2 : Int32))]))
      obtain ⟨T75, h75, k75, X75, e75, E75, A75, st75⟩ := newP X0w hx hZ (hw _ (List.mem_of_getElem? (i := 1) rfl)) e0 (g := (mkF m 80 #[iv p1, iv p2, iv p3, iv p4, iv (0 : Int32), iv (1 : Int32), iv v6_74, .val .null, .unset, .unset, .unset, .unset] [(.int (2 : Int32))])) rfl (hb hby at_80) rfl (by decide) (cap := 2) (by decide) (by decide) (by decide) (by decide)
      obtain ⟨b75, g75⟩ : ∃ z, z = h0.size := ⟨_, rfl⟩
      rw [← g75] at A75 st75
      refine own_by st75 ?_
      have ne_aE_b75 : aE ≠ b75 := Nat.ne_of_lt (Nat.lt_of_lt_of_eq E_aE.lt g75.symm)
      have ne_aW_b75 : aW ≠ b75 := Nat.ne_of_lt (Nat.lt_of_lt_of_eq E_aW.lt g75.symm)
      have Od75 := O0.ext E75
      have E_aE_75 := E_aE.ext E75
      have E_aW_75 := E_aW.ext E75
      have g_b75 : n0 ≤ b75 := Nat.le_trans Z0 (Nat.le_of_eq g75.symm)
      have Z75 : n0 ≤ h75.size := Nat.le_trans Z0 E75.1
      have hk75 : 0 ≤ h75.size := Nat.le_trans hk0 E75.1
      have V_b75 : Arv Z h75 b75 k75 .char (2 : Int32) [(.int (0 : Int32)), (.int (0 : Int32))] (.int (0 : Int32)) := (Arv.new A75 (by decide)).pad (pad_rep [] (.int (0 : Int32)) 2)
      show own_Fin _ _ _ _ (T75.setTop (mkF m 82 #[iv p1, iv p2, iv p3, iv p4, iv (0 : Int32), iv (1 : Int32), iv v6_74, .val .null, .unset, .unset, .unset, .unset] [(.ref b75)]))
      refine own_go (XS.astore X75.here hx rfl (hb hby at_82) rfl rfl rfl (Steps.refl _)) ?_
      show own_Fin _ _ _ _ (T75.setTop (mkF m 84 #[iv p1, iv p2, iv p3, iv p4, iv (0 : Int32), iv (1 : Int32), iv v6_74, .val .null, rv b75, .unset, .unset, .unset] []))
      refine own_go (XS.aload X75.here hx rfl (hb hby at_84) rfl rfl (Steps.refl _)) ?_
      show own_Fin _ _ _ _ (T75.setTop (mkF m 86 #[iv p1, iv p2, iv p3, iv p4, iv (0 : Int32), iv (1 : Int32), iv v6_74, .val .null, rv b75, .unset, .unset, .unset] [(.ref b75)]))
      refine own_go (XS.iconst X75.here hx rfl (hb hby at_86) (Steps.refl _)) ?_
      show own_Fin _ _ _ _ (T75.setTop (mkF m 87 #[iv p1, iv p2, iv p3, iv p4, iv (0 : Int32), iv (1 : Int32), iv v6_74, .val .null, rv b75, .unset, .unset, .unset] [(.int (0 : Int32)), (.ref b75)]))
      refine own_go (XS.iloadN X75.here hx rfl (hb hby at_87) rfl (Steps.refl _)) ?_
      show own_Fin _ _ _ _ (T75.setTop (mkF m 88 #[iv p1, iv p2, iv p3, iv p4, iv (0 : Int32), iv (1 : Int32), iv v6_74, .val .null, rv b75, .unset, .unset, .unset] [(.int p4), (.int (0 : Int32)), (.ref b75)]))
      refine own_go (XS.sipush X75.here hx rfl (hb hby at_88) (Steps.refl _)) ?_
      show own_Fin _ _ _ _ (T75.setTop (mkF m 91 #[iv p1, iv p2, iv p3, iv p4, iv (0 : Int32), iv (1 : Int32), iv v6_74, .val .null, rv b75, .unset, .unset, .unset] [(.int (255 : Int32)), (.int p4), (.int (0 : Int32)), (.ref b75)]))
      refine own_go (XS.iand X75.here hx rfl (hb hby at_91) rfl (Steps.refl _)) ?_
      show own_Fin _ _ _ _ (T75.setTop (mkF m 92 #[iv p1, iv p2, iv p3, iv p4, iv (0 : Int32), iv (1 : Int32), iv v6_74, .val .null, rv b75, .unset, .unset, .unset] [(.int (p4 &&& (255 : Int32))), (.int (0 : Int32)), (.ref b75)]))
      refine own_go (XS.i2c X75.here hx rfl (hb hby at_92) rfl (Steps.refl _)) ?_
      show own_Fin _ _ _ _ (T75.setTop (mkF m 93 #[iv p1, iv p2, iv p3, iv p4, iv (0 : Int32), iv (1 : Int32), iv v6_74, .val .null, rv b75, .unset, .unset, .unset] [(.int ((p4 &&& (255 : Int32)).toUInt32.toUInt16.toUInt32.toInt32)), (.int (0 : Int32)), (.ref b75)]))
      obtain ⟨cl76, Ar76, qa76, Sa76, Na76, Ha76, Ga76⟩ := id V_b75
      have hin76 : ¬ ((0 : Int32) < 0 ∨ cl76.slots.size ≤ ((0 : Int32)).toNatClampNeg) := inb_of Sa76 ⟨by decide, by decide⟩
      obtain ⟨T77, h77, X77, e77, W77, st77⟩ := stC X75 hx hZ e75 Ar76 (j := (0 : Int32)) hin76 (g := (mkF m 93 #[iv p1, iv p2, iv p3, iv p4, iv (0 : Int32), iv (1 : Int32), iv v6_74, .val .null, rv b75, .unset, .unset, .unset] [(.int ((p4 &&& (255 : Int32)).toUInt32.toUInt16.toUInt32.toInt32)), (.int (0 : Int32)), (.ref b75)])) rfl rfl (hb hby at_93)
      refine own_by st77 ?_
      have hnr77 : nar .char ((p4 &&& (255 : Int32)).toUInt32.toUInt16.toUInt32.toInt32) = (p4 &&& (255 : Int32)) := own_nc _
      rw [hnr77] at W77
      have V_b75_77 : Arv Z h77 b75 k75 .char (2 : Int32) [(.int (p4 &&& (255 : Int32))), (.int (0 : Int32))] (.int (0 : Int32)) := Arv.set Ar76 qa76 Sa76 Na76 Ha76 Ga76 (hnr77 ▸ fits_nar_char ((p4 &&& (255 : Int32)).toUInt32.toUInt16.toUInt32.toInt32)) W77 0 rfl (Nat.le_of_ble_eq_true rfl)
      have Od77 := Od75.wr W77 g_b75
      have E_aE_77 := E_aE_75.wr W77
      have E_aW_77 := E_aW_75.wr W77
      have N77 := Fr.snoc X77 N0 g_b75
      have Z77 : n0 ≤ h77.size := Nat.le_trans Z75 (Keep.of_wr W77).1
      have hk77 : 0 ≤ h77.size := Nat.le_trans hk75 (Keep.of_wr W77).1
      show own_Fin _ _ _ _ (T77.setTop (mkF m 94 #[iv p1, iv p2, iv p3, iv p4, iv (0 : Int32), iv (1 : Int32), iv v6_74, .val .null, rv b75, .unset, .unset, .unset] []))
      refine own_go (XS.aload X77.here hx rfl (hb hby at_94) rfl rfl (Steps.refl _)) ?_
      show own_Fin _ _ _ _ (T77.setTop (mkF m 96 #[iv p1, iv p2, iv p3, iv p4, iv (0 : Int32), iv (1 : Int32), iv v6_74, .val .null, rv b75, .unset, .unset, .unset] [(.ref b75)]))
      refine own_go (XS.iconst X77.here hx rfl (hb hby at_96) (Steps.refl _)) ?_
      show own_Fin _ _ _ _ (T77.setTop (mkF m 97 #[iv p1, iv p2, iv p3, iv p4, iv (0 : Int32), iv (1 : Int32), iv v6_74, .val .null, rv b75, .unset, .unset, .unset] [(.int (1 : Int32)), (.ref b75)]))
      refine own_go (XS.iloadN X77.here hx rfl (hb hby at_97) rfl (Steps.refl _)) ?_
      show own_Fin _ _ _ _ (T77.setTop (mkF m 98 #[iv p1, iv p2, iv p3, iv p4, iv (0 : Int32), iv (1 : Int32), iv v6_74, .val .null, rv b75, .unset, .unset, .unset] [(.int p4), (.int (1 : Int32)), (.ref b75)]))
      refine own_go (XS.bipush X77.here hx rfl (hb hby at_98) (Steps.refl _)) ?_
      show own_Fin _ _ _ _ (T77.setTop (mkF m 100 #[iv p1, iv p2, iv p3, iv p4, iv (0 : Int32), iv (1 : Int32), iv v6_74, .val .null, rv b75, .unset, .unset, .unset] [(.int (8 : Int32)), (.int p4), (.int (1 : Int32)), (.ref b75)]))
      refine own_go (XS.iushr X77.here hx rfl (hb hby at_100) rfl (Steps.refl _)) ?_
      show own_Fin _ _ _ _ (T77.setTop (mkF m 101 #[iv p1, iv p2, iv p3, iv p4, iv (0 : Int32), iv (1 : Int32), iv v6_74, .val .null, rv b75, .unset, .unset, .unset] [(.int ((p4.toUInt32 >>> ((8 : Int32) &&& 31).toUInt32).toInt32)), (.int (1 : Int32)), (.ref b75)]))
      refine own_go (XS.sipush X77.here hx rfl (hb hby at_101) (Steps.refl _)) ?_
      show own_Fin _ _ _ _ (T77.setTop (mkF m 104 #[iv p1, iv p2, iv p3, iv p4, iv (0 : Int32), iv (1 : Int32), iv v6_74, .val .null, rv b75, .unset, .unset, .unset] [(.int (255 : Int32)), (.int ((p4.toUInt32 >>> ((8 : Int32) &&& 31).toUInt32).toInt32)), (.int (1 : Int32)), (.ref b75)]))
      refine own_go (XS.iand X77.here hx rfl (hb hby at_104) rfl (Steps.refl _)) ?_
      show own_Fin _ _ _ _ (T77.setTop (mkF m 105 #[iv p1, iv p2, iv p3, iv p4, iv (0 : Int32), iv (1 : Int32), iv v6_74, .val .null, rv b75, .unset, .unset, .unset] [(.int (((p4.toUInt32 >>> ((8 : Int32) &&& 31).toUInt32).toInt32) &&& (255 : Int32))), (.int (1 : Int32)), (.ref b75)]))
      refine own_go (XS.i2c X77.here hx rfl (hb hby at_105) rfl (Steps.refl _)) ?_
      show own_Fin _ _ _ _ (T77.setTop (mkF m 106 #[iv p1, iv p2, iv p3, iv p4, iv (0 : Int32), iv (1 : Int32), iv v6_74, .val .null, rv b75, .unset, .unset, .unset] [(.int ((((p4.toUInt32 >>> ((8 : Int32) &&& 31).toUInt32).toInt32) &&& (255 : Int32)).toUInt32.toUInt16.toUInt32.toInt32)), (.int (1 : Int32)), (.ref b75)]))
      obtain ⟨cl78, Ar78, qa78, Sa78, Na78, Ha78, Ga78⟩ := id V_b75_77
      have hin78 : ¬ ((1 : Int32) < 0 ∨ cl78.slots.size ≤ ((1 : Int32)).toNatClampNeg) := inb_of Sa78 ⟨by decide, by decide⟩
      obtain ⟨T79, h79, X79, e79, W79, st79⟩ := stC X77 hx hZ e77 Ar78 (j := (1 : Int32)) hin78 (g := (mkF m 106 #[iv p1, iv p2, iv p3, iv p4, iv (0 : Int32), iv (1 : Int32), iv v6_74, .val .null, rv b75, .unset, .unset, .unset] [(.int ((((p4.toUInt32 >>> ((8 : Int32) &&& 31).toUInt32).toInt32) &&& (255 : Int32)).toUInt32.toUInt16.toUInt32.toInt32)), (.int (1 : Int32)), (.ref b75)])) rfl rfl (hb hby at_106)
      refine own_by st79 ?_
      have hnr79 : nar .char ((((p4.toUInt32 >>> ((8 : Int32) &&& 31).toUInt32).toInt32) &&& (255 : Int32)).toUInt32.toUInt16.toUInt32.toInt32) = (((p4.toUInt32 >>> ((8 : Int32) &&& 31).toUInt32).toInt32) &&& (255 : Int32)) := own_nc _
      rw [hnr79] at W79
      have V_b75_79 : Arv Z h79 b75 k75 .char (2 : Int32) [(.int (p4 &&& (255 : Int32))), (.int (((p4.toUInt32 >>> ((8 : Int32) &&& 31).toUInt32).toInt32) &&& (255 : Int32)))] (.int (0 : Int32)) := Arv.set Ar78 qa78 Sa78 Na78 Ha78 Ga78 (hnr79 ▸ fits_nar_char ((((p4.toUInt32 >>> ((8 : Int32) &&& 31).toUInt32).toInt32) &&& (255 : Int32)).toUInt32.toUInt16.toUInt32.toInt32)) W79 1 rfl (Nat.le_of_ble_eq_true rfl)
      have Od79 := Od77.wr W79 g_b75
      have E_aE_79 := E_aE_77.wr W79
      have E_aW_79 := E_aW_77.wr W79
      have N79 := Fr.snoc X79 N77 g_b75
      have Z79 : n0 ≤ h79.size := Nat.le_trans Z77 (Keep.of_wr W79).1
      have hk79 : 0 ≤ h79.size := Nat.le_trans hk77 (Keep.of_wr W79).1
      show own_Fin _ _ _ _ (T79.setTop (mkF m 107 #[iv p1, iv p2, iv p3, iv p4, iv (0 : Int32), iv (1 : Int32), iv v6_74, .val .null, rv b75, .unset, .unset, .unset] []))
      obtain ⟨T80, h80, X80, e80, E80, A80, D80, U80, st80⟩ := newO X79 hx hZ hown (hw _ (List.mem_of_getElem? (i := 2) rfl)) (hw _ (List.mem_of_getElem? (i := 3) rfl)) (hw _ (List.mem_of_getElem? (i := 4) rfl)) e79 (g := (mkF m 107 #[iv p1, iv p2, iv p3, iv p4, iv (0 : Int32), iv (1 : Int32), iv v6_74, .val .null, rv b75, .unset, .unset, .unset] [])) rfl (hb hby at_107) (by decide) (by decide)
      obtain ⟨b80, g80⟩ : ∃ z, z = h79.size := ⟨_, rfl⟩
      rw [← g80] at A80 D80 U80 st80
      refine own_by st80 ?_
      have ne_aE_b80 : aE ≠ b80 := Nat.ne_of_lt (Nat.lt_of_lt_of_eq E_aE_79.lt g80.symm)
      have ne_aW_b80 : aW ≠ b80 := Nat.ne_of_lt (Nat.lt_of_lt_of_eq E_aW_79.lt g80.symm)
      have ne_b75_b80 : b75 ≠ b80 := Nat.ne_of_lt (Nat.lt_of_lt_of_eq V_b75_79.lt g80.symm)
      have Od80 := Od79.ext E80
      have E_aE_80 := E_aE_79.ext E80
      have E_aW_80 := E_aW_79.ext E80
      have V_b75_80 := V_b75_79.ext E80
      have g_b80 : n0 ≤ b80 := Nat.le_trans Z79 (Nat.le_of_eq g80.symm)
      have Z80 : n0 ≤ h80.size := Nat.le_trans Z79 E80.1
      have hk80 : 0 ≤ h80.size := Nat.le_trans hk79 E80.1
      have E_b80 := A80
      have F_coder_b80 : Fld Z h80 b80 "java/lang/String" "coder" "B" (.int (0 : Int32)) := D80 (Or.inr (hw _ (List.mem_of_getElem? (i := 28) rfl))) (ty := .byte) (by decide)
      have F_value_b80 : Fld Z h80 b80 "java/lang/String" "value" "[B" .null := D80 (Or.inr (hw _ (List.mem_of_getElem? (i := 30) rfl))) (ty := (.array .byte)) (by decide)
      show own_Fin _ _ _ _ (T80.setTop (mkF m 110 #[iv p1, iv p2, iv p3, iv p4, iv (0 : Int32), iv (1 : Int32), iv v6_74, .val .null, rv b75, .unset, .unset, .unset] [(.ref b80)]))
      refine own_go (XS.dup X80.here hx rfl (hb hby at_110) rfl rfl (Steps.refl _)) ?_
      show own_Fin _ _ _ _ (T80.setTop (mkF m 111 #[iv p1, iv p2, iv p3, iv p4, iv (0 : Int32), iv (1 : Int32), iv v6_74, .val .null, rv b75, .unset, .unset, .unset] [(.ref b80), (.ref b80)]))
      refine own_go (XS.aload X80.here hx rfl (hb hby at_111) rfl rfl (Steps.refl _)) ?_
      show own_Fin _ _ _ _ (T80.setTop (mkF m 113 #[iv p1, iv p2, iv p3, iv p4, iv (0 : Int32), iv (1 : Int32), iv v6_74, .val .null, rv b75, .unset, .unset, .unset] [(.ref b75), (.ref b80), (.ref b80)]))
      obtain ⟨_, _, ⟨T81, L81, k81, n81⟩, -, X81, ⟨Lc81, hQ81, l81, y81, z81⟩, st81⟩ := X80.specialBack hx (y := (⟨"java/lang/String", "<init>", "([C)V"⟩ : MethodName)) rfl hown (mvT hZ (hw _ (List.mem_of_getElem? (i := 5) rfl))) (mvT hZ (hw _ (List.mem_of_getElem? (i := 6) rfl))) (mvT hZ (hw _ (List.mem_of_getElem? (i := 7) rfl))) (by decide) (backOf (W := 1) (rmstr_2 l Z a0 hw [] b80 b75 k75 cs (p4 &&& (255 : Int32)) (((p4.toUInt32 >>> ((8 : Int32) &&& 31).toUInt32).toInt32) &&& (255 : Int32)) h80 n0 Z80 E_b80 F_value_b80 F_coder_b80 g_b80 Od80 S_COMPACT_STRINGS hcs V_b75_80 (own_lt p4) (own_lt ((p4.toUInt32 >>> ((8 : Int32) &&& 31).toUInt32).toInt32))) hZ (hw _ (List.mem_of_getElem? (i := 7) rfl)) (hw _ (List.mem_of_getElem? (i := 4) rfl)) (by decide) (by decide)) (g := (mkF m 113 #[iv p1, iv p2, iv p3, iv p4, iv (0 : Int32), iv (1 : Int32), iv v6_74, .val .null, rv b75, .unset, .unset, .unset] [(.ref b75), (.ref b80), (.ref b80)])) rfl (by rw [hml]; rfl) (Steps.refl _) (a := b80) (argsL := [(.ref b75)]) (rest := [(.ref b80)]) (lenOf pd__28__5b_C_29_V rfl) rfl (by show 2 * 0 + _ ≤ _; exact Nat.le_of_eq rfl) (hb hby at_113) (fun _ _ => ⟨rfl, e80, (by decide : 2 + 1 ≤ _), (by decide : 6 + 2 ≤ _)⟩)
      dsimp only [Pt.U, Pt.locs, Pt.cells, Pt.slots] at X81 l81 y81 z81 st81 hQ81
      subst l81 y81 z81
      refine own_go st81 ?_
      obtain ⟨b_81, kb_81, rfl, Nq81, K81, g_b_81, sb_b_81, r81_0, r81_1, r81_2, r81_3⟩ := hQ81
      have ne_aE_b_81 : aE ≠ b_81 := Nat.ne_of_lt (Nat.lt_of_lt_of_le E_aE_80.lt sb_b_81)
      have ne_aW_b_81 : aW ≠ b_81 := Nat.ne_of_lt (Nat.lt_of_lt_of_le E_aW_80.lt sb_b_81)
      have ne_b75_b_81 : b75 ≠ b_81 := Nat.ne_of_lt (Nat.lt_of_lt_of_le V_b75_80.lt sb_b_81)
      have ne_b80_b_81 : b80 ≠ b_81 := Nat.ne_of_lt (Nat.lt_of_lt_of_le E_b80.lt sb_b_81)
      have Od81 := Od80.keep K81 (allS g_b80 all0)
      have E_aE_81 := E_aE_80.keep K81
      have E_aW_81 := E_aW_80.keep K81
      have V_b75_81 := V_b75_80.keep K81 (ninS ne_b75_b80 nin0)
      have E_b80_81 := E_b80.keep K81
      have Z81 : n0 ≤ T81.heap.size := Nat.le_trans Z80 K81.1
      have hk81 : 0 ≤ T81.heap.size := Nat.le_trans hk80 K81.1
      have N81 := Fr.app N79 Nq81
      show own_Fin _ _ _ _ (T81.setTop (mkF m 116 #[iv p1, iv p2, iv p3, iv p4, iv (0 : Int32), iv (1 : Int32), iv v6_74, .val .null, rv b75, .unset, .unset, .unset] [(.ref b80)]))
      refine own_go (XS.astore X81.here hx rfl (hb hby at_116) rfl rfl rfl (Steps.refl _)) ?_
      show own_Fin _ _ _ _ (T81.setTop (mkF m 118 #[iv p1, iv p2, iv p3, iv p4, iv (0 : Int32), iv (1 : Int32), iv v6_74, .val .null, rv b75, rv b80, .unset, .unset] []))
      refine own_go (XS.iload X81.here hx rfl (hb hby at_118) rfl (Steps.refl _)) ?_
      show own_Fin _ _ _ _ (T81.setTop (mkF m 120 #[iv p1, iv p2, iv p3, iv p4, iv (0 : Int32), iv (1 : Int32), iv v6_74, .val .null, rv b75, rv b80, .unset, .unset] [(.int (0 : Int32))]))
      refine own_go (XS.ifYes X81.here hx rfl (pc0 := 120) (pc' := 129) rfl (hb hby at_120) rfl ((if0 _ _).trans (teq (by decide : (0 : Int32) = (0 : Int32))).1) (by decide) (by decide) (Steps.refl _)) ?_
      show own_Fin _ _ _ _ (T81.setTop (mkF m 129 #[iv p1, iv p2, iv p3, iv p4, iv (0 : Int32), iv (1 : Int32), iv v6_74, .val .null, rv b75, rv b80, .unset, .unset] []))
      obtain ⟨T82, X82, e82, st82⟩ := getS2 X81 hx hZ hown (host := "") (Or.inl (hw _ (List.mem_of_getElem? (i := 31) rfl))) Via.refl rfl (S_WARNING.ext Od81.2) (g := (mkF m 129 #[iv p1, iv p2, iv p3, iv p4, iv (0 : Int32), iv (1 : Int32), iv v6_74, .val .null, rv b75, rv b80, .unset, .unset] [])) rfl (hb hby at_129)
      refine own_by st82 ?_
      show own_Fin _ _ _ _ (T82.setTop (mkF m 132 #[iv p1, iv p2, iv p3, iv p4, iv (0 : Int32), iv (1 : Int32), iv v6_74, .val .null, rv b75, rv b80, .unset, .unset] [(.ref aW)]))
      refine own_go (XS.astore X82.here hx rfl (hb hby at_132) rfl rfl rfl (Steps.refl _)) ?_
      show own_Fin _ _ _ _ (T82.setTop (mkF m 134 #[iv p1, iv p2, iv p3, iv p4, iv (0 : Int32), iv (1 : Int32), iv v6_74, .val .null, rv b75, rv b80, rv aW, .unset] []))
      obtain ⟨T83, h83, X83, e83, E83, A83, D83, U83, st83⟩ := newO X82 hx hZ hown (hw _ (List.mem_of_getElem? (i := 34) rfl)) (hw _ (List.mem_of_getElem? (i := 35) rfl)) (hw _ (List.mem_of_getElem? (i := 36) rfl)) e82 (g := (mkF m 134 #[iv p1, iv p2, iv p3, iv p4, iv (0 : Int32), iv (1 : Int32), iv v6_74, .val .null, rv b75, rv b80, rv aW, .unset] [])) rfl (hb hby at_134) (by decide) (by decide)
      obtain ⟨b83, g83⟩ : ∃ z, z = T81.heap.size := ⟨_, rfl⟩
      rw [← g83] at A83 D83 U83 st83
      refine own_by st83 ?_
      have ne_aE_b83 : aE ≠ b83 := Nat.ne_of_lt (Nat.lt_of_lt_of_eq E_aE_81.lt g83.symm)
      have ne_aW_b83 : aW ≠ b83 := Nat.ne_of_lt (Nat.lt_of_lt_of_eq E_aW_81.lt g83.symm)
      have ne_b75_b83 : b75 ≠ b83 := Nat.ne_of_lt (Nat.lt_of_lt_of_eq V_b75_81.lt g83.symm)
      have ne_b80_b83 : b80 ≠ b83 := Nat.ne_of_lt (Nat.lt_of_lt_of_eq r81_0.lt g83.symm)
      have ne_b_81_b83 : b_81 ≠ b83 := Nat.ne_of_lt (Nat.lt_of_lt_of_eq r81_3.lt g83.symm)
      have Od83 := Od81.ext E83
      have E_aE_83 := E_aE_81.ext E83
      have E_aW_83 := E_aW_81.ext E83
      have V_b75_83 := V_b75_81.ext E83
      have r81_0_83 := r81_0.ext E83
      have r81_1_83 := r81_1.ext E83
      have r81_2_83 := r81_2.ext E83
      have r81_3_83 := r81_3.ext E83
      have g_b83 : n0 ≤ b83 := Nat.le_trans Z81 (Nat.le_of_eq g83.symm)
      have Z83 : n0 ≤ h83.size := Nat.le_trans Z81 E83.1
      have hk83 : 0 ≤ h83.size := Nat.le_trans hk81 E83.1
      have E_b83 := A83
      have F_file_b83 : Fld Z h83 b83 "com/example/headwright/headwright/Diagnostic" "file" "Ljava/lang/String;" .null := D83 (Or.inr (hw _ (List.mem_of_getElem? (i := 55) rfl))) (ty := (.object "java/lang/String")) (by decide)
      have F_line_b83 : Fld Z h83 b83 "com/example/headwright/headwright/Diagnostic" "line" "I" (.int (0 : Int32)) := D83 (Or.inr (hw _ (List.mem_of_getElem? (i := 57) rfl))) (ty := .int) (by decide)
      have F_severity_b83 : Fld Z h83 b83 "com/example/headwright/headwright/Diagnostic" "severity" "Lcom/example/headwright/headwright/Diagnostic$Severity;" .null := D83 (Or.inr (hw _ (List.mem_of_getElem? (i := 59) rfl))) (ty := (.object "com/example/headwright/headwright/Diagnostic$Severity")) (by decide)
      have F_message_b83 : Fld Z h83 b83 "com/example/headwright/headwright/Diagnostic" "message" "Ljava/lang/String;" .null := D83 (Or.inr (hw _ (List.mem_of_getElem? (i := 61) rfl))) (ty := (.object "java/lang/String")) (by decide)
      show own_Fin _ _ _ _ (T83.setTop (mkF m 137 #[iv p1, iv p2, iv p3, iv p4, iv (0 : Int32), iv (1 : Int32), iv v6_74, .val .null, rv b75, rv b80, rv aW, .unset] [(.ref b83)]))
      refine own_go (XS.dup X83.here hx rfl (hb hby at_137) rfl rfl (Steps.refl _)) ?_
      show own_Fin _ _ _ _ (T83.setTop (mkF m 138 #[iv p1, iv p2, iv p3, iv p4, iv (0 : Int32), iv (1 : Int32), iv v6_74, .val .null, rv b75, rv b80, rv aW, .unset] [(.ref b83), (.ref b83)]))
      refine own_go (XS.aload X83.here hx rfl (hb hby at_138) rfl rfl (Steps.refl _)) ?_
      show own_Fin _ _ _ _ (T83.setTop (mkF m 140 #[iv p1, iv p2, iv p3, iv p4, iv (0 : Int32), iv (1 : Int32), iv v6_74, .val .null, rv b75, rv b80, rv aW, .unset] [.null, (.ref b83), (.ref b83)]))
      refine own_go (XS.iload X83.here hx rfl (hb hby at_140) rfl (Steps.refl _)) ?_
      show own_Fin _ _ _ _ (T83.setTop (mkF m 142 #[iv p1, iv p2, iv p3, iv p4, iv (0 : Int32), iv (1 : Int32), iv v6_74, .val .null, rv b75, rv b80, rv aW, .unset] [(.int v6_74), .null, (.ref b83), (.ref b83)]))
      refine own_go (XS.aload X83.here hx rfl (hb hby at_142) rfl rfl (Steps.refl _)) ?_
      show own_Fin _ _ _ _ (T83.setTop (mkF m 144 #[iv p1, iv p2, iv p3, iv p4, iv (0 : Int32), iv (1 : Int32), iv v6_74, .val .null, rv b75, rv b80, rv aW, .unset] [(.ref aW), (.int v6_74), .null, (.ref b83), (.ref b83)]))
      refine own_go (XS.aload X83.here hx rfl (hb hby at_144) rfl rfl (Steps.refl _)) ?_
      show own_Fin _ _ _ _ (T83.setTop (mkF m 146 #[iv p1, iv p2, iv p3, iv p4, iv (0 : Int32), iv (1 : Int32), iv v6_74, .val .null, rv b75, rv b80, rv aW, .unset] [(.ref b80), (.ref aW), (.int v6_74), .null, (.ref b83), (.ref b83)]))
      obtain ⟨_, _, ⟨T84, L84, k84, n84⟩, -, X84, hs284, hgr84, ⟨Lc84, hQ84, l84, y84, z84⟩, st84⟩ := X83.specialBackS hx (y := (⟨"com/example/headwright/headwright/Diagnostic", "<init>", "(Ljava/lang/String;ILcom/example/headwright/headwright/Diagnostic$Severity;Ljava/lang/String;)V"⟩ : MethodName)) rfl hown (mvT hZ (hw _ (List.mem_of_getElem? (i := 37) rfl))) (mvT hZ (hw _ (List.mem_of_getElem? (i := 38) rfl))) (mvT hZ (hw _ (List.mem_of_getElem? (i := 39) rfl))) (by decide) (backOfS (W := 1) (rmdi_n l Z a0 hw [] b83 v6_74 aW b80 h83 n0 Z83 E_b83 F_file_b83 F_line_b83 F_severity_b83 F_message_b83 g_b83 (by rw [← hz_v6_74]; exact own_ln p2) E_aW_83 r81_0_83) hZ (hw _ (List.mem_of_getElem? (i := 39) rfl)) (hw _ (List.mem_of_getElem? (i := 36) rfl)) (by decide) (by decide)) (g := (mkF m 146 #[iv p1, iv p2, iv p3, iv p4, iv (0 : Int32), iv (1 : Int32), iv v6_74, .val .null, rv b75, rv b80, rv aW, .unset] [(.ref b80), (.ref aW), (.int v6_74), .null, (.ref b83), (.ref b83)])) rfl (by rw [hml]; rfl) (Steps.refl _) (a := b83) (argsL := [.null, (.int v6_74), (.ref aW), (.ref b80)]) (rest := [(.ref b83)]) (lenOf pd__28_Ljava_2f_lang_2f_String_3b_ILcom_2f_example_2f_headwright_2f_headwright_2f_Diagnostic_24_Severity_3b_Ljava_2f_lang_2f_String_3b__29_V rfl) rfl (by show 2 * 0 + _ ≤ _; exact Nat.le_of_eq rfl) (hb hby at_146) (fun _ _ => ⟨rfl, e83, (by decide : 4 + 4 ≤ _), (by decide : 12 + 204 ≤ _)⟩)
      dsimp only [Pt.U, Pt.locs, Pt.cells, Pt.slots] at X84 l84 y84 z84 st84 hQ84 hs284 hgr84
      subst l84 y84 z84
      obtain ⟨Xr84, hS84, hZ84, hown84⟩ := rebS hS0 (show 0 ≤ T83.heap.size by rw [e83]; exact hk83) X84 hs284 hgr84 hZ hown
      refine own_go st84 ?_
      obtain ⟨rfl, Nq84, K84, r84_0, r84_1, r84_2, r84_3, r84_4⟩ := hQ84
      have Od84 := Od83.keep K84 (allS g_b83 all0)
      have E_aE_84 := E_aE_83.keep K84
      have E_aW_84 := E_aW_83.keep K84
      have V_b75_84 := V_b75_83.keep K84 (ninS ne_b75_b83 nin0)
      have r81_0_84 := r81_0_83.keep K84
      have r81_1_84 := r81_1_83.keep K84 (ninS ne_b80_b83 nin0)
      have r81_2_84 := r81_2_83.keep K84 (ninS ne_b80_b83 nin0)
      have r81_3_84 := r81_3_83.keep K84 (ninS ne_b_81_b83 nin0)
      have E_b83_84 := E_b83.keep K84
      have Z84 : n0 ≤ T84.heap.size := Nat.le_trans Z83 K84.1
      have hk84 : 0 ≤ T84.heap.size := Nat.le_trans hk83 K84.1
      have hkr84 : T84.heap.size ≤ T84.heap.size := Nat.le_refl _
      have N84 := Fr.app N81 Nq84
      show own_Fin _ _ _ _ (T84.setTop (mkF m 149 #[iv p1, iv p2, iv p3, iv p4, iv (0 : Int32), iv (1 : Int32), iv v6_74, .val .null, rv b75, rv b80, rv aW, .unset] [(.ref b83)]))
      refine own_go (XS.astore Xr84.here hx rfl (hb hby at_149) rfl rfl rfl (Steps.refl _)) ?_
      show own_Fin _ _ _ _ (T84.setTop (mkF m 151 #[iv p1, iv p2, iv p3, iv p4, iv (0 : Int32), iv (1 : Int32), iv v6_74, .val .null, rv b75, rv b80, rv aW, rv b83] []))
      refine own_go (XS.aload Xr84.here hx rfl (hb hby at_151) rfl rfl (Steps.refl _)) ?_
      show own_Fin _ _ _ _ (T84.setTop (mkF m 153 #[iv p1, iv p2, iv p3, iv p4, iv (0 : Int32), iv (1 : Int32), iv v6_74, .val .null, rv b75, rv b80, rv aW, rv b83] [(.ref b83)]))
      obtain ⟨cq85, kq85, q85a, q85b, q85c⟩ := isOf hZ84 rfl r84_0
      obtain ⟨_, _, ⟨T85, L85, k85, n85⟩, -, X85, ⟨Lc85, hQ85, l85, y85, z85⟩, st85⟩ := Xr84.virtualBack hx (y := (⟨"com/example/headwright/headwright/Diagnostic", "isError", "()Z"⟩ : MethodName)) (z := (⟨"com/example/headwright/headwright/Diagnostic", "isError", "()Z"⟩ : MethodName)) hown84 (mvT hZ84 (hw _ (List.mem_of_getElem? (i := 62) rfl))) (mvT hZ84 (hw _ (List.mem_of_getElem? (i := 63) rfl))) (notFace_of_selects (args := #[]) (mvT hZ84 (hw _ (List.mem_of_getElem? (i := 65) rfl)))) (mvT hZ84 (hw _ (List.mem_of_getElem? (i := 65) rfl))) (mvT hZ84 (hw _ (List.mem_of_getElem? (i := 64) rfl))) (by decide) (backOf (W := 0) (rmie_W l Z a0 hw [] b83 aE aW T84.heap n0 Z84 r84_3 Od84 S_ERROR neWE) hZ84 (hw _ (List.mem_of_getElem? (i := 66) rfl)) (hw _ (List.mem_of_getElem? (i := 36) rfl)) (by decide) (by decide)) q85a q85c (g := (mkF m 153 #[iv p1, iv p2, iv p3, iv p4, iv (0 : Int32), iv (1 : Int32), iv v6_74, .val .null, rv b75, rv b80, rv aW, rv b83] [(.ref b83)])) rfl (by rw [hml]; rfl) (Steps.refl _) (argsL := []) (rest := []) (lenOf pd__28__29_Z rfl) rfl (by show 2 * 0 + _ ≤ _; exact Nat.le_of_eq rfl) (hb hby at_153) (fun _ _ => ⟨rfl, rfl, (by decide : 8 + 0 ≤ _), (by decide : 216 + 0 ≤ _)⟩)
      dsimp only [Pt.U, Pt.locs, Pt.cells, Pt.slots] at X85 l85 y85 z85 st85 hQ85
      subst l85 y85 z85
      obtain ⟨rfl, Nq85, e85⟩ := hQ85
      refine own_go st85 ?_
      have N85 := Fr.app N84 Nq85
      show own_Fin _ _ _ _ (T85.setTop (mkF m 156 #[iv p1, iv p2, iv p3, iv p4, iv (0 : Int32), iv (1 : Int32), iv v6_74, .val .null, rv b75, rv b80, rv aW, rv b83] [(.int (0 : Int32))]))
      refine own_go (XS.iload X85.here hx rfl (hb hby at_156) rfl (Steps.refl _)) ?_
      show own_Fin _ _ _ _ (T85.setTop (mkF m 158 #[iv p1, iv p2, iv p3, iv p4, iv (0 : Int32), iv (1 : Int32), iv v6_74, .val .null, rv b75, rv b80, rv aW, rv b83] [(.int (0 : Int32)), (.int (0 : Int32))]))
      refine own_go (XS.icmpNo X85.here hx rfl (hb hby at_158) rfl (teq (by decide : (0 : Int32) = (0 : Int32))).2 (Steps.refl _)) ?_
      show own_Fin _ _ _ _ (T85.setTop (mkF m 161 #[iv p1, iv p2, iv p3, iv p4, iv (0 : Int32), iv (1 : Int32), iv v6_74, .val .null, rv b75, rv b80, rv aW, rv b83] []))
      refine own_go (XS.iconst X85.here hx rfl (hb hby at_161) (Steps.refl _)) ?_
      show own_Fin _ _ _ _ (T85.setTop (mkF m 162 #[iv p1, iv p2, iv p3, iv p4, iv (0 : Int32), iv (1 : Int32), iv v6_74, .val .null, rv b75, rv b80, rv aW, rv b83] [(.int (1 : Int32))]))
      refine own_go (XS.goto X85.here hx rfl (pc0 := 162) (pc' := 166) rfl (hb hby at_162) (by decide) (by decide) (Steps.refl _)) ?_
      show own_Fin _ _ _ _ (T85.setTop (mkF m 166 #[iv p1, iv p2, iv p3, iv p4, iv (0 : Int32), iv (1 : Int32), iv v6_74, .val .null, rv b75, rv b80, rv aW, rv b83] [(.int (1 : Int32))]))
      obtain ⟨fs86, hr86, hrun86, hended86, hRW86⟩ := X85.leaveW (s := s) hS84 (n := T84.heap.size) (by rw [e85]; exact hkr84) (v := some (.int (1 : Int32))) (fun h => by rw [Bd.returns] at h; cases h)
      refine own_done (retN X85 hx (t := .boolean) Bd.returns (by simp) (hb hby at_166) hr86) hrun86 hended86 ⟨_, _, rfl, ?_, hRW86.1, hRW86.2.1, hRW86.2.2.1, hRW86.2.2.2.mono (by decide) (by decide)⟩
      show Q0 Z p1 p2 p3 p4 aE aW cs h0 n0 _ T85.heap _
      rw [e85]
      exact ⟨rfl, N85⟩
  · refine own_go (XS.ifNo X0w.here hx rfl (hb hby at_3) rfl ((if0 _ _).trans (feq c3_52).1) (Steps.refl _)) ?_
    show own_Fin _ _ _ _ (s₁.setTop (mkF m 6 #[iv p1, iv p2, iv p3, iv p4, .unset, .unset, .unset, .unset, .unset, .unset, .unset, .unset] []))
    refine own_go (XS.iconst X0w.here hx rfl (hb hby at_6) (Steps.refl _)) ?_
    show own_Fin _ _ _ _ (s₁.setTop (mkF m 7 #[iv p1, iv p2, iv p3, iv p4, .unset, .unset, .unset, .unset, .unset, .unset, .unset, .unset] [(.int (1 : Int32))]))
    refine own_go (XS.goto X0w.here hx rfl (pc0 := 7) (pc' := 11) rfl (hb hby at_7) (by decide) (by decide) (Steps.refl _)) ?_
    show own_Fin _ _ _ _ (s₁.setTop (mkF m 11 #[iv p1, iv p2, iv p3, iv p4, .unset, .unset, .unset, .unset, .unset, .unset, .unset, .unset] [(.int (1 : Int32))]))
    refine own_go (XS.istore X0w.here hx rfl (hb hby at_11) rfl rfl (Steps.refl _)) ?_
    show own_Fin _ _ _ _ (s₁.setTop (mkF m 13 #[iv p1, iv p2, iv p3, iv p4, iv (1 : Int32), .unset, .unset, .unset, .unset, .unset, .unset, .unset] []))
    refine own_go (XS.iloadN X0w.here hx rfl (hb hby at_13) rfl (Steps.refl _)) ?_
    show own_Fin _ _ _ _ (s₁.setTop (mkF m 14 #[iv p1, iv p2, iv p3, iv p4, iv (1 : Int32), .unset, .unset, .unset, .unset, .unset, .unset, .unset] [(.int p1)]))
    refine own_go (XS.iconst X0w.here hx rfl (hb hby at_14) (Steps.refl _)) ?_
    show own_Fin _ _ _ _ (s₁.setTop (mkF m 15 #[iv p1, iv p2, iv p3, iv p4, iv (1 : Int32), .unset, .unset, .unset, .unset, .unset, .unset, .unset] [(.int (2 : Int32)), (.int p1)]))
    refine own_go (XS.iand X0w.here hx rfl (hb hby at_15) rfl (Steps.refl _)) ?_
    show own_Fin _ _ _ _ (s₁.setTop (mkF m 16 #[iv p1, iv p2, iv p3, iv p4, iv (1 : Int32), .unset, .unset, .unset, .unset, .unset, .unset, .unset] [(.int (p1 &&& (2 : Int32)))]))
    by_cases c16_87 : (p1 &&& (2 : Int32)) = (0 : Int32)
    · refine own_go (XS.ifYes X0w.here hx rfl (pc0 := 16) (pc' := 23) rfl (hb hby at_16) rfl ((if0 _ _).trans (teq c16_87).1) (by decide) (by decide) (Steps.refl _)) ?_
      show own_Fin _ _ _ _ (s₁.setTop (mkF m 23 #[iv p1, iv p2, iv p3, iv p4, iv (1 : Int32), .unset, .unset, .unset, .unset, .unset, .unset, .unset] []))
      refine own_go (XS.iconst X0w.here hx rfl (hb hby at_23) (Steps.refl _)) ?_
      show own_Fin _ _ _ _ (s₁.setTop (mkF m 24 #[iv p1, iv p2, iv p3, iv p4, iv (1 : Int32), .unset, .unset, .unset, .unset, .unset, .unset, .unset] [(.int (0 : Int32))]))
      refine own_go (XS.istore X0w.here hx rfl (hb hby at_24) rfl rfl (Steps.refl _)) ?_
      show own_Fin _ _ _ _ (s₁.setTop (mkF m 26 #[iv p1, iv p2, iv p3, iv p4, iv (1 : Int32), iv (0 : Int32), .unset, .unset, .unset, .unset, .unset, .unset] []))
      refine own_go (XS.iloadN X0w.here hx rfl (hb hby at_26) rfl (Steps.refl _)) ?_
      show own_Fin _ _ _ _ (s₁.setTop (mkF m 27 #[iv p1, iv p2, iv p3, iv p4, iv (1 : Int32), iv (0 : Int32), .unset, .unset, .unset, .unset, .unset, .unset] [(.int p2)]))
      refine own_by (X0w.ldcInt hx hown (mvT hZ (hw _ (List.mem_of_getElem? (i := 0) rfl))) (g := (mkF m 27 #[iv p1, iv p2, iv p3, iv p4, iv (1 : Int32), iv (0 : Int32), .unset, .unset, .unset, .unset, .unset, .unset] [(.int p2)])) rfl (hb hby at_27)) ?_
      show own_Fin _ _ _ _ (s₁.setTop (mkF m 29 #[iv p1, iv p2, iv p3, iv p4, iv (1 : Int32), iv (0 : Int32), .unset, .unset, .unset, .unset, .unset, .unset] [(.int (2147483647 : Int32)), (.int p2)]))
      refine own_go (XS.iand X0w.here hx rfl (hb hby at_29) rfl (Steps.refl _)) ?_
      show own_Fin _ _ _ _ (s₁.setTop (mkF m 30 #[iv p1, iv p2, iv p3, iv p4, iv (1 : Int32), iv (0 : Int32), .unset, .unset, .unset, .unset, .unset, .unset] [(.int (p2 &&& (2147483647 : Int32)))]))
      refine own_go (XS.istore X0w.here hx rfl (hb hby at_30) rfl rfl (Steps.refl _)) ?_
      show own_Fin _ _ _ _ (s₁.setTop (mkF m 32 #[iv p1, iv p2, iv p3, iv p4, iv (1 : Int32), iv (0 : Int32), iv (p2 &&& (2147483647 : Int32)), .unset, .unset, .unset, .unset, .unset] []))
      generalize hz_v6_88 : (p2 &&& (2147483647 : Int32)) = v6_88
      refine own_go (XS.aconstNull X0w.here hx rfl (hb hby at_32) (Steps.refl _)) ?_
      show own_Fin _ _ _ _ (s₁.setTop (mkF m 33 #[iv p1, iv p2, iv p3, iv p4, iv (1 : Int32), iv (0 : Int32), iv v6_88, .unset, .unset, .unset, .unset, .unset] [.null]))
      refine own_go (XS.astore X0w.here hx rfl (hb hby at_33) rfl rfl rfl (Steps.refl _)) ?_
      show own_Fin _ _ _ _ (s₁.setTop (mkF m 35 #[iv p1, iv p2, iv p3, iv p4, iv (1 : Int32), iv (0 : Int32), iv v6_88, .val .null, .unset, .unset, .unset, .unset] []))
      refine own_go (XS.iload X0w.here hx rfl (hb hby at_35) rfl (Steps.refl _)) ?_
      show own_Fin _ _ _ _ (s₁.setTop (mkF m 37 #[iv p1, iv p2, iv p3, iv p4, iv (1 : Int32), iv (0 : Int32), iv v6_88, .val .null, .unset, .unset, .unset, .unset] [(.int (0 : Int32))]))
      refine own_go (XS.ifNo X0w.here hx rfl (hb hby at_37) rfl ((if0 _ _).trans (teq (by decide : (0 : Int32) = (0 : Int32))).2) (Steps.refl _)) ?_
      show own_Fin _ _ _ _ (s₁.setTop (mkF m 40 #[iv p1, iv p2, iv p3, iv p4, iv (1 : Int32), iv (0 : Int32), iv v6_88, .val .null, .unset, .unset, .unset, .unset] []))
      refine own_go (XS.iconst X0w.here hx rfl (hb hby at_40) (Steps.refl _)) ?_
      show own_Fin _ _ _ _ (s₁.setTop (mkF m 41 #[iv p1, iv p2, iv p3, iv p4, iv (1 : Int32), iv (0 : Int32), iv v6_88, .val .null, .unset, .unset, .unset, .unset] [(.int (2 : Int32))]))
      obtain ⟨T89, h89, k89, X89, e89, E89, A89, st89⟩ := newP X0w hx hZ (hw _ (List.mem_of_getElem? (i := 1) rfl)) e0 (g := (mkF m 41 #[iv p1, iv p2, iv p3, iv p4, iv (1 : Int32), iv (0 : Int32), iv v6_88, .val .null, .unset, .unset, .unset, .unset] [(.int (2 : Int32))])) rfl (hb hby at_41) rfl (by decide) (cap := 2) (by decide) (by decide) (by decide) (by decide)
      obtain ⟨b89, g89⟩ : ∃ z, z = h0.size := ⟨_, rfl⟩
      rw [← g89] at A89 st89
      refine own_by st89 ?_
      have ne_aE_b89 : aE ≠ b89 := Nat.ne_of_lt (Nat.lt_of_lt_of_eq E_aE.lt g89.symm)
      have ne_aW_b89 : aW ≠ b89 := Nat.ne_of_lt (Nat.lt_of_lt_of_eq E_aW.lt g89.symm)
      have Od89 := O0.ext E89
      have E_aE_89 := E_aE.ext E89
      have E_aW_89 := E_aW.ext E89
      have g_b89 : n0 ≤ b89 := Nat.le_trans Z0 (Nat.le_of_eq g89.symm)
      have Z89 : n0 ≤ h89.size := Nat.le_trans Z0 E89.1
      have hk89 : 0 ≤ h89.size := Nat.le_trans hk0 E89.1
      have V_b89 : Arv Z h89 b89 k89 .char (2 : Int32) [(.int (0 : Int32)), (.int (0 : Int32))] (.int (0 : Int32)) := (Arv.new A89 (by decide)).pad (pad_rep [] (.int (0 : Int32)) 2)
      show own_Fin _ _ _ _ (T89.setTop (mkF m 43 #[iv p1, iv p2, iv p3, iv p4, iv (1 : Int32), iv (0 : Int32), iv v6_88, .val .null, .unset, .unset, .unset, .unset] [(.ref b89)]))
      refine own_go (XS.astore X89.here hx rfl (hb hby at_43) rfl rfl rfl (Steps.refl _)) ?_
      show own_Fin _ _ _ _ (T89.setTop (mkF m 45 #[iv p1, iv p2, iv p3, iv p4, iv (1 : Int32), iv (0 : Int32), iv v6_88, .val .null, rv b89, .unset, .unset, .unset] []))
      refine own_go (XS.aload X89.here hx rfl (hb hby at_45) rfl rfl (Steps.refl _)) ?_
      show own_Fin _ _ _ _ (T89.setTop (mkF m 47 #[iv p1, iv p2, iv p3, iv p4, iv (1 : Int32), iv (0 : Int32), iv v6_88, .val .null, rv b89, .unset, .unset, .unset] [(.ref b89)]))
      refine own_go (XS.iconst X89.here hx rfl (hb hby at_47) (Steps.refl _)) ?_
      show own_Fin _ _ _ _ (T89.setTop (mkF m 48 #[iv p1, iv p2, iv p3, iv p4, iv (1 : Int32), iv (0 : Int32), iv v6_88, .val .null, rv b89, .unset, .unset, .unset] [(.int (0 : Int32)), (.ref b89)]))
      refine own_go (XS.iloadN X89.here hx rfl (hb hby at_48) rfl (Steps.refl _)) ?_
      show own_Fin _ _ _ _ (T89.setTop (mkF m 49 #[iv p1, iv p2, iv p3, iv p4, iv (1 : Int32), iv (0 : Int32), iv v6_88, .val .null, rv b89, .unset, .unset, .unset] [(.int p3), (.int (0 : Int32)), (.ref b89)]))
      refine own_go (XS.sipush X89.here hx rfl (hb hby at_49) (Steps.refl _)) ?_
      show own_Fin _ _ _ _ (T89.setTop (mkF m 52 #[iv p1, iv p2, iv p3, iv p4, iv (1 : Int32), iv (0 : Int32), iv v6_88, .val .null, rv b89, .unset, .unset, .unset] [(.int (255 : Int32)), (.int p3), (.int (0 : Int32)), (.ref b89)]))
      refine own_go (XS.iand X89.here hx rfl (hb hby at_52) rfl (Steps.refl _)) ?_
      show own_Fin _ _ _ _ (T89.setTop (mkF m 53 #[iv p1, iv p2, iv p3, iv p4, iv (1 : Int32), iv (0 : Int32), iv v6_88, .val .null, rv b89, .unset, .unset, .unset] [(.int (p3 &&& (255 : Int32))), (.int (0 : Int32)), (.ref b89)]))
      refine own_go (XS.i2c X89.here hx rfl (hb hby at_53) rfl (Steps.refl _)) ?_
      show own_Fin _ _ _ _ (T89.setTop (mkF m 54 #[iv p1, iv p2, iv p3, iv p4, iv (1 : Int32), iv (0 : Int32), iv v6_88, .val .null, rv b89, .unset, .unset, .unset] [(.int ((p3 &&& (255 : Int32)).toUInt32.toUInt16.toUInt32.toInt32)), (.int (0 : Int32)), (.ref b89)]))
      obtain ⟨cl90, Ar90, qa90, Sa90, Na90, Ha90, Ga90⟩ := id V_b89
      have hin90 : ¬ ((0 : Int32) < 0 ∨ cl90.slots.size ≤ ((0 : Int32)).toNatClampNeg) := inb_of Sa90 ⟨by decide, by decide⟩
      obtain ⟨T91, h91, X91, e91, W91, st91⟩ := stC X89 hx hZ e89 Ar90 (j := (0 : Int32)) hin90 (g := (mkF m 54 #[iv p1, iv p2, iv p3, iv p4, iv (1 : Int32), iv (0 : Int32), iv v6_88, .val .null, rv b89, .unset, .unset, .unset] [(.int ((p3 &&& (255 : Int32)).toUInt32.toUInt16.toUInt32.toInt32)), (.int (0 : Int32)), (.ref b89)])) rfl rfl (hb hby at_54)
      refine own_by st91 ?_
      have hnr91 : nar .char ((p3 &&& (255 : Int32)).toUInt32.toUInt16.toUInt32.toInt32) = (p3 &&& (255 : Int32)) := own_nc _
      rw [hnr91] at W91
      have V_b89_91 : Arv Z h91 b89 k89 .char (2 : Int32) [(.int (p3 &&& (255 : Int32))), (.int (0 : Int32))] (.int (0 : Int32)) := Arv.set Ar90 qa90 Sa90 Na90 Ha90 Ga90 (hnr91 ▸ fits_nar_char ((p3 &&& (255 : Int32)).toUInt32.toUInt16.toUInt32.toInt32)) W91 0 rfl (Nat.le_of_ble_eq_true rfl)
      have Od91 := Od89.wr W91 g_b89
      have E_aE_91 := E_aE_89.wr W91
      have E_aW_91 := E_aW_89.wr W91
      have N91 := Fr.snoc X91 N0 g_b89
      have Z91 : n0 ≤ h91.size := Nat.le_trans Z89 (Keep.of_wr W91).1
      have hk91 : 0 ≤ h91.size := Nat.le_trans hk89 (Keep.of_wr W91).1
      show own_Fin _ _ _ _ (T91.setTop (mkF m 55 #[iv p1, iv p2, iv p3, iv p4, iv (1 : Int32), iv (0 : Int32), iv v6_88, .val .null, rv b89, .unset, .unset, .unset] []))
      refine own_go (XS.aload X91.here hx rfl (hb hby at_55) rfl rfl (Steps.refl _)) ?_
      show own_Fin _ _ _ _ (T91.setTop (mkF m 57 #[iv p1, iv p2, iv p3, iv p4, iv (1 : Int32), iv (0 : Int32), iv v6_88, .val .null, rv b89, .unset, .unset, .unset] [(.ref b89)]))
      refine own_go (XS.iconst X91.here hx rfl (hb hby at_57) (Steps.refl _)) ?_
      show own_Fin _ _ _ _ (T91.setTop (mkF m 58 #[iv p1, iv p2, iv p3, iv p4, iv (1 : Int32), iv (0 : Int32), iv v6_88, .val .null, rv b89, .unset, .unset, .unset] [(.int (1 : Int32)), (.ref b89)]))
      refine own_go (XS.iloadN X91.here hx rfl (hb hby at_58) rfl (Steps.refl _)) ?_
      show own_Fin _ _ _ _ (T91.setTop (mkF m 59 #[iv p1, iv p2, iv p3, iv p4, iv (1 : Int32), iv (0 : Int32), iv v6_88, .val .null, rv b89, .unset, .unset, .unset] [(.int p3), (.int (1 : Int32)), (.ref b89)]))
      refine own_go (XS.bipush X91.here hx rfl (hb hby at_59) (Steps.refl _)) ?_
      show own_Fin _ _ _ _ (T91.setTop (mkF m 61 #[iv p1, iv p2, iv p3, iv p4, iv (1 : Int32), iv (0 : Int32), iv v6_88, .val .null, rv b89, .unset, .unset, .unset] [(.int (8 : Int32)), (.int p3), (.int (1 : Int32)), (.ref b89)]))
      refine own_go (XS.iushr X91.here hx rfl (hb hby at_61) rfl (Steps.refl _)) ?_
      show own_Fin _ _ _ _ (T91.setTop (mkF m 62 #[iv p1, iv p2, iv p3, iv p4, iv (1 : Int32), iv (0 : Int32), iv v6_88, .val .null, rv b89, .unset, .unset, .unset] [(.int ((p3.toUInt32 >>> ((8 : Int32) &&& 31).toUInt32).toInt32)), (.int (1 : Int32)), (.ref b89)]))
      refine own_go (XS.sipush X91.here hx rfl (hb hby at_62) (Steps.refl _)) ?_
      show own_Fin _ _ _ _ (T91.setTop (mkF m 65 #[iv p1, iv p2, iv p3, iv p4, iv (1 : Int32), iv (0 : Int32), iv v6_88, .val .null, rv b89, .unset, .unset, .unset] [(.int (255 : Int32)), (.int ((p3.toUInt32 >>> ((8 : Int32) &&& 31).toUInt32).toInt32)), (.int (1 : Int32)), (.ref b89)]))
      refine own_go (XS.iand X91.here hx rfl (hb hby at_65) rfl (Steps.refl _)) ?_
      show own_Fin _ _ _ _ (T91.setTop (mkF m 66 #[iv p1, iv p2, iv p3, iv p4, iv (1 : Int32), iv (0 : Int32), iv v6_88, .val .null, rv b89, .unset, .unset, .unset] [(.int (((p3.toUInt32 >>> ((8 : Int32) &&& 31).toUInt32).toInt32) &&& (255 : Int32))), (.int (1 : Int32)), (.ref b89)]))
      refine own_go (XS.i2c X91.here hx rfl (hb hby at_66) rfl (Steps.refl _)) ?_
      show own_Fin _ _ _ _ (T91.setTop (mkF m 67 #[iv p1, iv p2, iv p3, iv p4, iv (1 : Int32), iv (0 : Int32), iv v6_88, .val .null, rv b89, .unset, .unset, .unset] [(.int ((((p3.toUInt32 >>> ((8 : Int32) &&& 31).toUInt32).toInt32) &&& (255 : Int32)).toUInt32.toUInt16.toUInt32.toInt32)), (.int (1 : Int32)), (.ref b89)]))
      obtain ⟨cl92, Ar92, qa92, Sa92, Na92, Ha92, Ga92⟩ := id V_b89_91
      have hin92 : ¬ ((1 : Int32) < 0 ∨ cl92.slots.size ≤ ((1 : Int32)).toNatClampNeg) := inb_of Sa92 ⟨by decide, by decide⟩
      obtain ⟨T93, h93, X93, e93, W93, st93⟩ := stC X91 hx hZ e91 Ar92 (j := (1 : Int32)) hin92 (g := (mkF m 67 #[iv p1, iv p2, iv p3, iv p4, iv (1 : Int32), iv (0 : Int32), iv v6_88, .val .null, rv b89, .unset, .unset, .unset] [(.int ((((p3.toUInt32 >>> ((8 : Int32) &&& 31).toUInt32).toInt32) &&& (255 : Int32)).toUInt32.toUInt16.toUInt32.toInt32)), (.int (1 : Int32)), (.ref b89)])) rfl rfl (hb hby at_67)
      refine own_by st93 ?_
      have hnr93 : nar .char ((((p3.toUInt32 >>> ((8 : Int32) &&& 31).toUInt32).toInt32) &&& (255 : Int32)).toUInt32.toUInt16.toUInt32.toInt32) = (((p3.toUInt32 >>> ((8 : Int32) &&& 31).toUInt32).toInt32) &&& (255 : Int32)) := own_nc _
      rw [hnr93] at W93
      have V_b89_93 : Arv Z h93 b89 k89 .char (2 : Int32) [(.int (p3 &&& (255 : Int32))), (.int (((p3.toUInt32 >>> ((8 : Int32) &&& 31).toUInt32).toInt32) &&& (255 : Int32)))] (.int (0 : Int32)) := Arv.set Ar92 qa92 Sa92 Na92 Ha92 Ga92 (hnr93 ▸ fits_nar_char ((((p3.toUInt32 >>> ((8 : Int32) &&& 31).toUInt32).toInt32) &&& (255 : Int32)).toUInt32.toUInt16.toUInt32.toInt32)) W93 1 rfl (Nat.le_of_ble_eq_true rfl)
      have Od93 := Od91.wr W93 g_b89
      have E_aE_93 := E_aE_91.wr W93
      have E_aW_93 := E_aW_91.wr W93
      have N93 := Fr.snoc X93 N91 g_b89
      have Z93 : n0 ≤ h93.size := Nat.le_trans Z91 (Keep.of_wr W93).1
      have hk93 : 0 ≤ h93.size := Nat.le_trans hk91 (Keep.of_wr W93).1
      show own_Fin _ _ _ _ (T93.setTop (mkF m 68 #[iv p1, iv p2, iv p3, iv p4, iv (1 : Int32), iv (0 : Int32), iv v6_88, .val .null, rv b89, .unset, .unset, .unset] []))
      obtain ⟨T94, h94, X94, e94, E94, A94, D94, U94, st94⟩ := newO X93 hx hZ hown (hw _ (List.mem_of_getElem? (i := 2) rfl)) (hw _ (List.mem_of_getElem? (i := 3) rfl)) (hw _ (List.mem_of_getElem? (i := 4) rfl)) e93 (g := (mkF m 68 #[iv p1, iv p2, iv p3, iv p4, iv (1 : Int32), iv (0 : Int32), iv v6_88, .val .null, rv b89, .unset, .unset, .unset] [])) rfl (hb hby at_68) (by decide) (by decide)
      obtain ⟨b94, g94⟩ : ∃ z, z = h93.size := ⟨_, rfl⟩
      rw [← g94] at A94 D94 U94 st94
      refine own_by st94 ?_
      have ne_aE_b94 : aE ≠ b94 := Nat.ne_of_lt (Nat.lt_of_lt_of_eq E_aE_93.lt g94.symm)
      have ne_aW_b94 : aW ≠ b94 := Nat.ne_of_lt (Nat.lt_of_lt_of_eq E_aW_93.lt g94.symm)
      have ne_b89_b94 : b89 ≠ b94 := Nat.ne_of_lt (Nat.lt_of_lt_of_eq V_b89_93.lt g94.symm)
      have Od94 := Od93.ext E94
      have E_aE_94 := E_aE_93.ext E94
      have E_aW_94 := E_aW_93.ext E94
      have V_b89_94 := V_b89_93.ext E94
      have g_b94 : n0 ≤ b94 := Nat.le_trans Z93 (Nat.le_of_eq g94.symm)
      have Z94 : n0 ≤ h94.size := Nat.le_trans Z93 E94.1
      have hk94 : 0 ≤ h94.size := Nat.le_trans hk93 E94.1
      have E_b94 := A94
      have F_coder_b94 : Fld Z h94 b94 "java/lang/String" "coder" "B" (.int (0 : Int32)) := D94 (Or.inr (hw _ (List.mem_of_getElem? (i := 28) rfl))) (ty := .byte) (by decide)
      have F_value_b94 : Fld Z h94 b94 "java/lang/String" "value" "[B" .null := D94 (Or.inr (hw _ (List.mem_of_getElem? (i := 30) rfl))) (ty := (.array .byte)) (by decide)
      show own_Fin _ _ _ _ (T94.setTop (mkF m 71 #[iv p1, iv p2, iv p3, iv p4, iv (1 : Int32), iv (0 : Int32), iv v6_88, .val .null, rv b89, .unset, .unset, .unset] [(.ref b94)]))
      refine own_go (XS.dup X94.here hx rfl (hb hby at_71) rfl rfl (Steps.refl _)) ?_
      show own_Fin _ _ _ _ (T94.setTop (mkF m 72 #[iv p1, iv p2, iv p3, iv p4, iv (1 : Int32), iv (0 : Int32), iv v6_88, .val .null, rv b89, .unset, .unset, .unset] [(.ref b94), (.ref b94)]))
      refine own_go (XS.aload X94.here hx rfl (hb hby at_72) rfl rfl (Steps.refl _)) ?_
      show own_Fin _ _ _ _ (T94.setTop (mkF m 74 #[iv p1, iv p2, iv p3, iv p4, iv (1 : Int32), iv (0 : Int32), iv v6_88, .val .null, rv b89, .unset, .unset, .unset] [(.ref b89), (.ref b94), (.ref b94)]))
      obtain ⟨_, _, ⟨T95, L95, k95, n95⟩, -, X95, ⟨Lc95, hQ95, l95, y95, z95⟩, st95⟩ := X94.specialBack hx (y := (⟨"java/lang/String", "<init>", "([C)V"⟩ : MethodName)) rfl hown (mvT hZ (hw _ (List.mem_of_getElem? (i := 5) rfl))) (mvT hZ (hw _ (List.mem_of_getElem? (i := 6) rfl))) (mvT hZ (hw _ (List.mem_of_getElem? (i := 7) rfl))) (by decide) (backOf (W := 1) (rmstr_2 l Z a0 hw [] b94 b89 k89 cs (p3 &&& (255 : Int32)) (((p3.toUInt32 >>> ((8 : Int32) &&& 31).toUInt32).toInt32) &&& (255 : Int32)) h94 n0 Z94 E_b94 F_value_b94 F_coder_b94 g_b94 Od94 S_COMPACT_STRINGS hcs V_b89_94 (own_lt p3) (own_lt ((p3.toUInt32 >>> ((8 : Int32) &&& 31).toUInt32).toInt32))) hZ (hw _ (List.mem_of_getElem? (i := 7) rfl)) (hw _ (List.mem_of_getElem? (i := 4) rfl)) (by decide) (by decide)) (g := (mkF m 74 #[iv p1, iv p2, iv p3, iv p4, iv (1 : Int32), iv (0 : Int32), iv v6_88, .val .null, rv b89, .unset, .unset, .unset] [(.ref b89), (.ref b94), (.ref b94)])) rfl (by rw [hml]; rfl) (Steps.refl _) (a := b94) (argsL := [(.ref b89)]) (rest := [(.ref b94)]) (lenOf pd__28__5b_C_29_V rfl) rfl (by show 2 * 0 + _ ≤ _; exact Nat.le_of_eq rfl) (hb hby at_74) (fun _ _ => ⟨rfl, e94, (by decide : 2 + 1 ≤ _), (by decide : 6 + 2 ≤ _)⟩)
      dsimp only [Pt.U, Pt.locs, Pt.cells, Pt.slots] at X95 l95 y95 z95 st95 hQ95
      subst l95 y95 z95
      refine own_go st95 ?_
      obtain ⟨b_95, kb_95, rfl, Nq95, K95, g_b_95, sb_b_95, r95_0, r95_1, r95_2, r95_3⟩ := hQ95
      have ne_aE_b_95 : aE ≠ b_95 := Nat.ne_of_lt (Nat.lt_of_lt_of_le E_aE_94.lt sb_b_95)
      have ne_aW_b_95 : aW ≠ b_95 := Nat.ne_of_lt (Nat.lt_of_lt_of_le E_aW_94.lt sb_b_95)
      have ne_b89_b_95 : b89 ≠ b_95 := Nat.ne_of_lt (Nat.lt_of_lt_of_le V_b89_94.lt sb_b_95)
      have ne_b94_b_95 : b94 ≠ b_95 := Nat.ne_of_lt (Nat.lt_of_lt_of_le E_b94.lt sb_b_95)
      have Od95 := Od94.keep K95 (allS g_b94 all0)
      have E_aE_95 := E_aE_94.keep K95
      have E_aW_95 := E_aW_94.keep K95
      have V_b89_95 := V_b89_94.keep K95 (ninS ne_b89_b94 nin0)
      have E_b94_95 := E_b94.keep K95
      have Z95 : n0 ≤ T95.heap.size := Nat.le_trans Z94 K95.1
      have hk95 : 0 ≤ T95.heap.size := Nat.le_trans hk94 K95.1
      have N95 := Fr.app N93 Nq95
      show own_Fin _ _ _ _ (T95.setTop (mkF m 77 #[iv p1, iv p2, iv p3, iv p4, iv (1 : Int32), iv (0 : Int32), iv v6_88, .val .null, rv b89, .unset, .unset, .unset] [(.ref b94)]))
      refine own_go (XS.astore X95.here hx rfl (hb hby at_77) rfl rfl rfl (Steps.refl _)) ?_
      show own_Fin _ _ _ _ (T95.setTop (mkF m 79 #[iv p1, iv p2, iv p3, iv p4, iv (1 : Int32), iv (0 : Int32), iv v6_88, rv b94, rv b89, .unset, .unset, .unset] []))
      refine own_go (XS.iconst X95.here hx rfl (hb hby at_79) (Steps.refl _)) ?_
      show own_Fin _ _ _ _ (T95.setTop (mkF m 80 #[iv p1, iv p2, iv p3, iv p4, iv (1 : Int32), iv (0 : Int32), iv v6_88, rv b94, rv b89, .unset, .unset, .unset] [(.int (2 : Int32))]))
      obtain ⟨T96, h96, k96, X96, e96, E96, A96, st96⟩ := newP X95 hx hZ (hw _ (List.mem_of_getElem? (i := 1) rfl)) rfl (g := (mkF m 80 #[iv p1, iv p2, iv p3, iv p4, iv (1 : Int32), iv (0 : Int32), iv v6_88, rv b94, rv b89, .unset, .unset, .unset] [(.int (2 : Int32))])) rfl (hb hby at_80) rfl (by decide) (cap := 2) (by decide) (by decide) (by decide) (by decide)
      obtain ⟨b96, g96⟩ : ∃ z, z = T95.heap.size := ⟨_, rfl⟩
      rw [← g96] at A96 st96
      refine own_by st96 ?_
      have ne_aE_b96 : aE ≠ b96 := Nat.ne_of_lt (Nat.lt_of_lt_of_eq E_aE_95.lt g96.symm)
      have ne_aW_b96 : aW ≠ b96 := Nat.ne_of_lt (Nat.lt_of_lt_of_eq E_aW_95.lt g96.symm)
      have ne_b89_b96 : b89 ≠ b96 := Nat.ne_of_lt (Nat.lt_of_lt_of_eq V_b89_95.lt g96.symm)
      have ne_b94_b96 : b94 ≠ b96 := Nat.ne_of_lt (Nat.lt_of_lt_of_eq r95_0.lt g96.symm)
      have ne_b_95_b96 : b_95 ≠ b96 := Nat.ne_of_lt (Nat.lt_of_lt_of_eq r95_3.lt g96.symm)
      have Od96 := Od95.ext E96
      have E_aE_96 := E_aE_95.ext E96
      have E_aW_96 := E_aW_95.ext E96
      have V_b89_96 := V_b89_95.ext E96
      have r95_0_96 := r95_0.ext E96
      have r95_1_96 := r95_1.ext E96
      have r95_2_96 := r95_2.ext E96
      have r95_3_96 := r95_3.ext E96
      have g_b96 : n0 ≤ b96 := Nat.le_trans Z95 (Nat.le_of_eq g96.symm)
      have Z96 : n0 ≤ h96.size := Nat.le_trans Z95 E96.1
      have hk96 : 0 ≤ h96.size := Nat.le_trans hk95 E96.1
      have V_b96 : Arv Z h96 b96 k96 .char (2 : Int32) [(.int (0 : Int32)), (.int (0 : Int32))] (.int (0 : Int32)) := (Arv.new A96 (by decide)).pad (pad_rep [] (.int (0 : Int32)) 2)
      show own_Fin _ _ _ _ (T96.setTop (mkF m 82 #[iv p1, iv p2, iv p3, iv p4, iv (1 : Int32), iv (0 : Int32), iv v6_88, rv b94, rv b89, .unset, .unset, .unset] [(.ref b96)]))
      refine own_go (XS.astore X96.here hx rfl (hb hby at_82) rfl rfl rfl (Steps.refl _)) ?_
      show own_Fin _ _ _ _ (T96.setTop (mkF m 84 #[iv p1, iv p2, iv p3, iv p4, iv (1 : Int32), iv (0 : Int32), iv v6_88, rv b94, rv b96, .unset, .unset, .unset] []))
      refine own_go (XS.aload X96.here hx rfl (hb hby at_84) rfl rfl (Steps.refl _)) ?_
      show own_Fin _ _ _ _ (T96.setTop (mkF m 86 #[iv p1, iv p2, iv p3, iv p4, iv (1 : Int32), iv (0 : Int32), iv v6_88, rv b94, rv b96, .unset, .unset, .unset] [(.ref b96)]))
      refine own_go (XS.iconst X96.here hx rfl (hb hby at_86) (Steps.refl _)) ?_
      show own_Fin _ _ _ _ (T96.setTop (mkF m 87 #[iv p1, iv p2, iv p3, iv p4, iv (1 : Int32), iv (0 : Int32), iv v6_88, rv b94, rv b96, .unset, .unset, .unset] [(.int (0 : Int32)), (.ref b96)]))
      refine own_go (XS.iloadN X96.here hx rfl (hb hby at_87) rfl (Steps.refl _)) ?_
      show own_Fin _ _ _ _ (T96.setTop (mkF m 88 #[iv p1, iv p2, iv p3, iv p4, iv (1 : Int32), iv (0 : Int32), iv v6_88, rv b94, rv b96, .unset, .unset, .unset] [(.int p4), (.int (0 : Int32)), (.ref b96)]))
      refine own_go (XS.sipush X96.here hx rfl (hb hby at_88) (Steps.refl _)) ?_
      show own_Fin _ _ _ _ (T96.setTop (mkF m 91 #[iv p1, iv p2, iv p3, iv p4, iv (1 : Int32), iv (0 : Int32), iv v6_88, rv b94, rv b96, .unset, .unset, .unset] [(.int (255 : Int32)), (.int p4), (.int (0 : Int32)), (.ref b96)]))
      refine own_go (XS.iand X96.here hx rfl (hb hby at_91) rfl (Steps.refl _)) ?_
      show own_Fin _ _ _ _ (T96.setTop (mkF m 92 #[iv p1, iv p2, iv p3, iv p4, iv (1 : Int32), iv (0 : Int32), iv v6_88, rv b94, rv b96, .unset, .unset, .unset] [(.int (p4 &&& (255 : Int32))), (.int (0 : Int32)), (.ref b96)]))
      refine own_go (XS.i2c X96.here hx rfl (hb hby at_92) rfl (Steps.refl _)) ?_
      show own_Fin _ _ _ _ (T96.setTop (mkF m 93 #[iv p1, iv p2, iv p3, iv p4, iv (1 : Int32), iv (0 : Int32), iv v6_88, rv b94, rv b96, .unset, .unset, .unset] [(.int ((p4 &&& (255 : Int32)).toUInt32.toUInt16.toUInt32.toInt32)), (.int (0 : Int32)), (.ref b96)]))
      obtain ⟨cl97, Ar97, qa97, Sa97, Na97, Ha97, Ga97⟩ := id V_b96
      have hin97 : ¬ ((0 : Int32) < 0 ∨ cl97.slots.size ≤ ((0 : Int32)).toNatClampNeg) := inb_of Sa97 ⟨by decide, by decide⟩
      obtain ⟨T98, h98, X98, e98, W98, st98⟩ := stC X96 hx hZ e96 Ar97 (j := (0 : Int32)) hin97 (g := (mkF m 93 #[iv p1, iv p2, iv p3, iv p4, iv (1 : Int32), iv (0 : Int32), iv v6_88, rv b94, rv b96, .unset, .unset, .unset] [(.int ((p4 &&& (255 : Int32)).toUInt32.toUInt16.toUInt32.toInt32)), (.int (0 : Int32)), (.ref b96)])) rfl rfl (hb hby at_93)
      refine own_by st98 ?_
      have hnr98 : nar .char ((p4 &&& (255 : Int32)).toUInt32.toUInt16.toUInt32.toInt32) = (p4 &&& (255 : Int32)) := own_nc _
      rw [hnr98] at W98
      have V_b96_98 : Arv Z h98 b96 k96 .char (2 : Int32) [(.int (p4 &&& (255 : Int32))), (.int (0 : Int32))] (.int (0 : Int32)) := Arv.set Ar97 qa97 Sa97 Na97 Ha97 Ga97 (hnr98 ▸ fits_nar_char ((p4 &&& (255 : Int32)).toUInt32.toUInt16.toUInt32.toInt32)) W98 0 rfl (Nat.le_of_ble_eq_true rfl)
      have Od98 := Od96.wr W98 g_b96
      have E_aE_98 := E_aE_96.wr W98
      have E_aW_98 := E_aW_96.wr W98
      have V_b89_98 := V_b89_96.other W98 ne_b89_b96
      have r95_0_98 := r95_0_96.wr W98
      have r95_1_98 := r95_1_96.other W98 (Or.inl ne_b94_b96)
      have r95_2_98 := r95_2_96.other W98 (Or.inl ne_b94_b96)
      have r95_3_98 := r95_3_96.other W98 ne_b_95_b96
      have N98 := Fr.snoc X98 N95 g_b96
      have Z98 : n0 ≤ h98.size := Nat.le_trans Z96 (Keep.of_wr W98).1
      have hk98 : 0 ≤ h98.size := Nat.le_trans hk96 (Keep.of_wr W98).1
      show own_Fin _ _ _ _ (T98.setTop (mkF m 94 #[iv p1, iv p2, iv p3, iv p4, iv (1 : Int32), iv (0 : Int32), iv v6_88, rv b94, rv b96, .unset, .unset, .unset] []))
      refine own_go (XS.aload X98.here hx rfl (hb hby at_94) rfl rfl (Steps.refl _)) ?_
      show own_Fin _ _ _ _ (T98.setTop (mkF m 96 #[iv p1, iv p2, iv p3, iv p4, iv (1 : Int32), iv (0 : Int32), iv v6_88, rv b94, rv b96, .unset, .unset, .unset] [(.ref b96)]))
      refine own_go (XS.iconst X98.here hx rfl (hb hby at_96) (Steps.refl _)) ?_
      show own_Fin _ _ _ _ (T98.setTop (mkF m 97 #[iv p1, iv p2, iv p3, iv p4, iv (1 : Int32), iv (0 : Int32), iv v6_88, rv b94, rv b96, .unset, .unset, .unset] [(.int (1 : Int32)), (.ref b96)]))
      refine own_go (XS.iloadN X98.here hx rfl (hb hby at_97) rfl (Steps.refl _)) ?_
      show own_Fin _ _ _ _ (T98.setTop (mkF m 98 #[iv p1, iv p2, iv p3, iv p4, iv (1 : Int32), iv (0 : Int32), iv v6_88, rv b94, rv b96, .unset, .unset, .unset] [(.int p4), (.int (1 : Int32)), (.ref b96)]))
      refine own_go (XS.bipush X98.here hx rfl (hb hby at_98) (Steps.refl _)) ?_
      show own_Fin _ _ _ _ (T98.setTop (mkF m 100 #[iv p1, iv p2, iv p3, iv p4, iv (1 : Int32), iv (0 : Int32), iv v6_88, rv b94, rv b96, .unset, .unset, .unset] [(.int (8 : Int32)), (.int p4), (.int (1 : Int32)), (.ref b96)]))
      refine own_go (XS.iushr X98.here hx rfl (hb hby at_100) rfl (Steps.refl _)) ?_
      show own_Fin _ _ _ _ (T98.setTop (mkF m 101 #[iv p1, iv p2, iv p3, iv p4, iv (1 : Int32), iv (0 : Int32), iv v6_88, rv b94, rv b96, .unset, .unset, .unset] [(.int ((p4.toUInt32 >>> ((8 : Int32) &&& 31).toUInt32).toInt32)), (.int (1 : Int32)), (.ref b96)]))
      refine own_go (XS.sipush X98.here hx rfl (hb hby at_101) (Steps.refl _)) ?_
      show own_Fin _ _ _ _ (T98.setTop (mkF m 104 #[iv p1, iv p2, iv p3, iv p4, iv (1 : Int32), iv (0 : Int32), iv v6_88, rv b94, rv b96, .unset, .unset, .unset] [(.int (255 : Int32)), (.int ((p4.toUInt32 >>> ((8 : Int32) &&& 31).toUInt32).toInt32)), (.int (1 : Int32)), (.ref b96)]))
      refine own_go (XS.iand X98.here hx rfl (hb hby at_104) rfl (Steps.refl _)) ?_
      show own_Fin _ _ _ _ (T98.setTop (mkF m 105 #[iv p1, iv p2, iv p3, iv p4, iv (1 : Int32), iv (0 : Int32), iv v6_88, rv b94, rv b96, .unset, .unset, .unset] [(.int (((p4.toUInt32 >>> ((8 : Int32) &&& 31).toUInt32).toInt32) &&& (255 : Int32))), (.int (1 : Int32)), (.ref b96)]))
      refine own_go (XS.i2c X98.here hx rfl (hb hby at_105) rfl (Steps.refl _)) ?_
      show own_Fin _ _ _ _ (T98.setTop (mkF m 106 #[iv p1, iv p2, iv p3, iv p4, iv (1 : Int32), iv (0 : Int32), iv v6_88, rv b94, rv b96, .unset, .unset, .unset] [(.int ((((p4.toUInt32 >>> ((8 : Int32) &&& 31).toUInt32).toInt32) &&& (255 : Int32)).toUInt32.toUInt16.toUInt32.toInt32)), (.int (1 : Int32)), (.ref b96)]))
      obtain ⟨cl99, Ar99, qa99, Sa99, Na99, Ha99, Ga99⟩ := id V_b96_98
      have hin99 : ¬ ((1 : Int32) < 0 ∨ cl99.slots.size ≤ ((1 : Int32)).toNatClampNeg) := inb_of Sa99 ⟨by decide, by decide⟩
      obtain ⟨T100, h100, X100, e100, W100, st100⟩ := stC X98 hx hZ e98 Ar99 (j := (1 : Int32)) hin99 (g := (mkF m 106 #[iv p1, iv p2, iv p3, iv p4, iv (1 : Int32), iv (0 : Int32), iv v6_88, rv b94, rv b96, .unset, .unset, .unset] [(.int ((((p4.toUInt32 >>> ((8 : Int32) &&& 31).toUInt32).toInt32) &&& (255 : Int32)).toUInt32.toUInt16.toUInt32.toInt32)), (.int (1 : Int32)), (.ref b96)])) rfl rfl (hb hby at_106)
      refine own_by st100 ?_
      have hnr100 : nar .char ((((p4.toUInt32 >>> ((8 : Int32) &&& 31).toUInt32).toInt32) &&& (255 : Int32)).toUInt32.toUInt16.toUInt32.toInt32) = (((p4.toUInt32 >>> ((8 : Int32) &&& 31).toUInt32).toInt32) &&& (255 : Int32)) := own_nc _
      rw [hnr100] at W100
      have V_b96_100 : Arv Z h100 b96 k96 .char (2 : Int32) [(.int (p4 &&& (255 : Int32))), (.int (((p4.toUInt32 >>> ((8 : Int32) &&& 31).toUInt32).toInt32) &&& (255 : Int32)))] (.int (0 : Int32)) := Arv.set Ar99 qa99 Sa99 Na99 Ha99 Ga99 (hnr100 ▸ fits_nar_char ((((p4.toUInt32 >>> ((8 : Int32) &&& 31).toUInt32).toInt32) &&& (255 : Int32)).toUInt32.toUInt16.toUInt32.toInt32)) W100 1 rfl (Nat.le_of_ble_eq_true rfl)
      have Od100 := Od98.wr W100 g_b96
      have E_aE_100 := E_aE_98.wr W100
      have E_aW_100 := E_aW_98.wr W100
      have V_b89_100 := V_b89_98.other W100 ne_b89_b96
      have r95_0_100 := r95_0_98.wr W100
      have r95_1_100 := r95_1_98.other W100 (Or.inl ne_b94_b96)
      have r95_2_100 := r95_2_98.other W100 (Or.inl ne_b94_b96)
      have r95_3_100 := r95_3_98.other W100 ne_b_95_b96
      have N100 := Fr.snoc X100 N98 g_b96
      have Z100 : n0 ≤ h100.size := Nat.le_trans Z98 (Keep.of_wr W100).1
      have hk100 : 0 ≤ h100.size := Nat.le_trans hk98 (Keep.of_wr W100).1
      show own_Fin _ _ _ _ (T100.setTop (mkF m 107 #[iv p1, iv p2, iv p3, iv p4, iv (1 : Int32), iv (0 : Int32), iv v6_88, rv b94, rv b96, .unset, .unset, .unset] []))
      obtain ⟨T101, h101, X101, e101, E101, A101, D101, U101, st101⟩ := newO X100 hx hZ hown (hw _ (List.mem_of_getElem? (i := 2) rfl)) (hw _ (List.mem_of_getElem? (i := 3) rfl)) (hw _ (List.mem_of_getElem? (i := 4) rfl)) e100 (g := (mkF m 107 #[iv p1, iv p2, iv p3, iv p4, iv (1 : Int32), iv (0 : Int32), iv v6_88, rv b94, rv b96, .unset, .unset, .unset] [])) rfl (hb hby at_107) (by decide) (by decide)
      obtain ⟨b101, g101⟩ : ∃ z, z = h100.size := ⟨_, rfl⟩
      rw [← g101] at A101 D101 U101 st101
      refine own_by st101 ?_
      have ne_aE_b101 : aE ≠ b101 := Nat.ne_of_lt (Nat.lt_of_lt_of_eq E_aE_100.lt g101.symm)
      have ne_aW_b101 : aW ≠ b101 := Nat.ne_of_lt (Nat.lt_of_lt_of_eq E_aW_100.lt g101.symm)
      have ne_b89_b101 : b89 ≠ b101 := Nat.ne_of_lt (Nat.lt_of_lt_of_eq V_b89_100.lt g101.symm)
      have ne_b94_b101 : b94 ≠ b101 := Nat.ne_of_lt (Nat.lt_of_lt_of_eq r95_0_100.lt g101.symm)
      have ne_b_95_b101 : b_95 ≠ b101 := Nat.ne_of_lt (Nat.lt_of_lt_of_eq r95_3_100.lt g101.symm)
      have ne_b96_b101 : b96 ≠ b101 := Nat.ne_of_lt (Nat.lt_of_lt_of_eq V_b96_100.lt g101.symm)
      have Od101 := Od100.ext E101
      have E_aE_101 := E_aE_100.ext E101
      have E_aW_101 := E_aW_100.ext E101
      have V_b89_101 := V_b89_100.ext E101
      have r95_0_101 := r95_0_100.ext E101
      have r95_1_101 := r95_1_100.ext E101
      have r95_2_101 := r95_2_100.ext E101
      have r95_3_101 := r95_3_100.ext E101
      have V_b96_101 := V_b96_100.ext E101
      have g_b101 : n0 ≤ b101 := Nat.le_trans Z100 (Nat.le_of_eq g101.symm)
      have Z101 : n0 ≤ h101.size := Nat.le_trans Z100 E101.1
      have hk101 : 0 ≤ h101.size := Nat.le_trans hk100 E101.1
      have E_b101 := A101
      have F_coder_b101 : Fld Z h101 b101 "java/lang/String" "coder" "B" (.int (0 : Int32)) := D101 (Or.inr (hw _ (List.mem_of_getElem? (i := 28) rfl))) (ty := .byte) (by decide)
      have F_value_b101 : Fld Z h101 b101 "java/lang/String" "value" "[B" .null := D101 (Or.inr (hw _ (List.mem_of_getElem? (i := 30) rfl))) (ty := (.array .byte)) (by decide)
      show own_Fin _ _ _ _ (T101.setTop (mkF m 110 #[iv p1, iv p2, iv p3, iv p4, iv (1 : Int32), iv (0 : Int32), iv v6_88, rv b94, rv b96, .unset, .unset, .unset] [(.ref b101)]))
      refine own_go (XS.dup X101.here hx rfl (hb hby at_110) rfl rfl (Steps.refl _)) ?_
      show own_Fin _ _ _ _ (T101.setTop (mkF m 111 #[iv p1, iv p2, iv p3, iv p4, iv (1 : Int32), iv (0 : Int32), iv v6_88, rv b94, rv b96, .unset, .unset, .unset] [(.ref b101), (.ref b101)]))
      refine own_go (XS.aload X101.here hx rfl (hb hby at_111) rfl rfl (Steps.refl _)) ?_
      show own_Fin _ _ _ _ (T101.setTop (mkF m 113 #[iv p1, iv p2, iv p3, iv p4, iv (1 : Int32), iv (0 : Int32), iv v6_88, rv b94, rv b96, .unset, .unset, .unset] [(.ref b96), (.ref b101), (.ref b101)]))
      obtain ⟨_, _, ⟨T102, L102, k102, n102⟩, -, X102, ⟨Lc102, hQ102, l102, y102, z102⟩, st102⟩ := X101.specialBack hx (y := (⟨"java/lang/String", "<init>", "([C)V"⟩ : MethodName)) rfl hown (mvT hZ (hw _ (List.mem_of_getElem? (i := 5) rfl))) (mvT hZ (hw _ (List.mem_of_getElem? (i := 6) rfl))) (mvT hZ (hw _ (List.mem_of_getElem? (i := 7) rfl))) (by decide) (backOf (W := 1) (rmstr_2 l Z a0 hw [] b101 b96 k96 cs (p4 &&& (255 : Int32)) (((p4.toUInt32 >>> ((8 : Int32) &&& 31).toUInt32).toInt32) &&& (255 : Int32)) h101 n0 Z101 E_b101 F_value_b101 F_coder_b101 g_b101 Od101 S_COMPACT_STRINGS hcs V_b96_101 (own_lt p4) (own_lt ((p4.toUInt32 >>> ((8 : Int32) &&& 31).toUInt32).toInt32))) hZ (hw _ (List.mem_of_getElem? (i := 7) rfl)) (hw _ (List.mem_of_getElem? (i := 4) rfl)) (by decide) (by decide)) (g := (mkF m 113 #[iv p1, iv p2, iv p3, iv p4, iv (1 : Int32), iv (0 : Int32), iv v6_88, rv b94, rv b96, .unset, .unset, .unset] [(.ref b96), (.ref b101), (.ref b101)])) rfl (by rw [hml]; rfl) (Steps.refl _) (a := b101) (argsL := [(.ref b96)]) (rest := [(.ref b101)]) (lenOf pd__28__5b_C_29_V rfl) rfl (by show 2 * 0 + _ ≤ _; exact Nat.le_of_eq rfl) (hb hby at_113) (fun _ _ => ⟨rfl, e101, (by decide : 5 + 1 ≤ _), (by decide : 14 + 2 ≤ _)⟩)
      dsimp only [Pt.U, Pt.locs, Pt.cells, Pt.slots] at X102 l102 y102 z102 st102 hQ102
      subst l102 y102 z102
      refine own_go st102 ?_
      obtain ⟨b_102, kb_102, rfl, Nq102, K102, g_b_102, sb_b_102, r102_0, r102_1, r102_2, r102_3⟩ := hQ102
      have ne_aE_b_102 : aE ≠ b_102 := Nat.ne_of_lt (Nat.lt_of_lt_of_le E_aE_101.lt sb_b_102)
      have ne_aW_b_102 : aW ≠ b_102 := Nat.ne_of_lt (Nat.lt_of_lt_of_le E_aW_101.lt sb_b_102)
      have ne_b89_b_102 : b89 ≠ b_102 := Nat.ne_of_lt (Nat.lt_of_lt_of_le V_b89_101.lt sb_b_102)
      have ne_b94_b_102 : b94 ≠ b_102 := Nat.ne_of_lt (Nat.lt_of_lt_of_le r95_0_101.lt sb_b_102)
      have ne_b_95_b_102 : b_95 ≠ b_102 := Nat.ne_of_lt (Nat.lt_of_lt_of_le r95_3_101.lt sb_b_102)
      have ne_b96_b_102 : b96 ≠ b_102 := Nat.ne_of_lt (Nat.lt_of_lt_of_le V_b96_101.lt sb_b_102)
      have ne_b101_b_102 : b101 ≠ b_102 := Nat.ne_of_lt (Nat.lt_of_lt_of_le E_b101.lt sb_b_102)
      have Od102 := Od101.keep K102 (allS g_b101 all0)
      have E_aE_102 := E_aE_101.keep K102
      have E_aW_102 := E_aW_101.keep K102
      have V_b89_102 := V_b89_101.keep K102 (ninS ne_b89_b101 nin0)
      have r95_0_102 := r95_0_101.keep K102
      have r95_1_102 := r95_1_101.keep K102 (ninS ne_b94_b101 nin0)
      have r95_2_102 := r95_2_101.keep K102 (ninS ne_b94_b101 nin0)
      have r95_3_102 := r95_3_101.keep K102 (ninS ne_b_95_b101 nin0)
      have V_b96_102 := V_b96_101.keep K102 (ninS ne_b96_b101 nin0)
      have E_b101_102 := E_b101.keep K102
      have Z102 : n0 ≤ T102.heap.size := Nat.le_trans Z101 K102.1
      have hk102 : 0 ≤ T102.heap.size := Nat.le_trans hk101 K102.1
      have N102 := Fr.app N100 Nq102
      show own_Fin _ _ _ _ (T102.setTop (mkF m 116 #[iv p1, iv p2, iv p3, iv p4, iv (1 : Int32), iv (0 : Int32), iv v6_88, rv b94, rv b96, .unset, .unset, .unset] [(.ref b101)]))
      refine own_go (XS.astore X102.here hx rfl (hb hby at_116) rfl rfl rfl (Steps.refl _)) ?_
      show own_Fin _ _ _ _ (T102.setTop (mkF m 118 #[iv p1, iv p2, iv p3, iv p4, iv (1 : Int32), iv (0 : Int32), iv v6_88, rv b94, rv b96, rv b101, .unset, .unset] []))
      refine own_go (XS.iload X102.here hx rfl (hb hby at_118) rfl (Steps.refl _)) ?_
      show own_Fin _ _ _ _ (T102.setTop (mkF m 120 #[iv p1, iv p2, iv p3, iv p4, iv (1 : Int32), iv (0 : Int32), iv v6_88, rv b94, rv b96, rv b101, .unset, .unset] [(.int (1 : Int32))]))
      refine own_go (XS.ifNo X102.here hx rfl (hb hby at_120) rfl ((if0 _ _).trans (feq (by decide : ¬ ((1 : Int32) = (0 : Int32)))).1) (Steps.refl _)) ?_
      show own_Fin _ _ _ _ (T102.setTop (mkF m 123 #[iv p1, iv p2, iv p3, iv p4, iv (1 : Int32), iv (0 : Int32), iv v6_88, rv b94, rv b96, rv b101, .unset, .unset] []))
      obtain ⟨T103, X103, e103, st103⟩ := getS2 X102 hx hZ hown (host := "") (Or.inl (hw _ (List.mem_of_getElem? (i := 69) rfl))) Via.refl rfl (S_ERROR.ext Od102.2) (g := (mkF m 123 #[iv p1, iv p2, iv p3, iv p4, iv (1 : Int32), iv (0 : Int32), iv v6_88, rv b94, rv b96, rv b101, .unset, .unset] [])) rfl (hb hby at_123)
      refine own_by st103 ?_
      show own_Fin _ _ _ _ (T103.setTop (mkF m 126 #[iv p1, iv p2, iv p3, iv p4, iv (1 : Int32), iv (0 : Int32), iv v6_88, rv b94, rv b96, rv b101, .unset, .unset] [(.ref aE)]))
      refine own_go (XS.goto X103.here hx rfl (pc0 := 126) (pc' := 132) rfl (hb hby at_126) (by decide) (by decide) (Steps.refl _)) ?_
      show own_Fin _ _ _ _ (T103.setTop (mkF m 132 #[iv p1, iv p2, iv p3, iv p4, iv (1 : Int32), iv (0 : Int32), iv v6_88, rv b94, rv b96, rv b101, .unset, .unset] [(.ref aE)]))
      refine own_go (XS.astore X103.here hx rfl (hb hby at_132) rfl rfl rfl (Steps.refl _)) ?_
      show own_Fin _ _ _ _ (T103.setTop (mkF m 134 #[iv p1, iv p2, iv p3, iv p4, iv (1 : Int32), iv (0 : Int32), iv v6_88, rv b94, rv b96, rv b101, rv aE, .unset] []))
      obtain ⟨T104, h104, X104, e104, E104, A104, D104, U104, st104⟩ := newO X103 hx hZ hown (hw _ (List.mem_of_getElem? (i := 34) rfl)) (hw _ (List.mem_of_getElem? (i := 35) rfl)) (hw _ (List.mem_of_getElem? (i := 36) rfl)) e103 (g := (mkF m 134 #[iv p1, iv p2, iv p3, iv p4, iv (1 : Int32), iv (0 : Int32), iv v6_88, rv b94, rv b96, rv b101, rv aE, .unset] [])) rfl (hb hby at_134) (by decide) (by decide)
      obtain ⟨b104, g104⟩ : ∃ z, z = T102.heap.size := ⟨_, rfl⟩
      rw [← g104] at A104 D104 U104 st104
      refine own_by st104 ?_
      have ne_aE_b104 : aE ≠ b104 := Nat.ne_of_lt (Nat.lt_of_lt_of_eq E_aE_102.lt g104.symm)
      have ne_aW_b104 : aW ≠ b104 := Nat.ne_of_lt (Nat.lt_of_lt_of_eq E_aW_102.lt g104.symm)
      have ne_b89_b104 : b89 ≠ b104 := Nat.ne_of_lt (Nat.lt_of_lt_of_eq V_b89_102.lt g104.symm)
      have ne_b94_b104 : b94 ≠ b104 := Nat.ne_of_lt (Nat.lt_of_lt_of_eq r95_0_102.lt g104.symm)
      have ne_b_95_b104 : b_95 ≠ b104 := Nat.ne_of_lt (Nat.lt_of_lt_of_eq r95_3_102.lt g104.symm)
      have ne_b96_b104 : b96 ≠ b104 := Nat.ne_of_lt (Nat.lt_of_lt_of_eq V_b96_102.lt g104.symm)
      have ne_b101_b104 : b101 ≠ b104 := Nat.ne_of_lt (Nat.lt_of_lt_of_eq r102_0.lt g104.symm)
      have ne_b_102_b104 : b_102 ≠ b104 := Nat.ne_of_lt (Nat.lt_of_lt_of_eq r102_3.lt g104.symm)
      have Od104 := Od102.ext E104
      have E_aE_104 := E_aE_102.ext E104
      have E_aW_104 := E_aW_102.ext E104
      have V_b89_104 := V_b89_102.ext E104
      have r95_0_104 := r95_0_102.ext E104
      have r95_1_104 := r95_1_102.ext E104
      have r95_2_104 := r95_2_102.ext E104
      have r95_3_104 := r95_3_102.ext E104
      have V_b96_104 := V_b96_102.ext E104
      have r102_0_104 := r102_0.ext E104
      have r102_1_104 := r102_1.ext E104
      have r102_2_104 := r102_2.ext E104
      have r102_3_104 := r102_3.ext E104
      have g_b104 : n0 ≤ b104 := Nat.le_trans Z102 (Nat.le_of_eq g104.symm)
      have Z104 : n0 ≤ h104.size := Nat.le_trans Z102 E104.1
      have hk104 : 0 ≤ h104.size := Nat.le_trans hk102 E104.1
      have E_b104 := A104
      have F_file_b104 : Fld Z h104 b104 "com/example/headwright/headwright/Diagnostic" "file" "Ljava/lang/String;" .null := D104 (Or.inr (hw _ (List.mem_of_getElem? (i := 55) rfl))) (ty := (.object "java/lang/String")) (by decide)
      have F_line_b104 : Fld Z h104 b104 "com/example/headwright/headwright/Diagnostic" "line" "I" (.int (0 : Int32)) := D104 (Or.inr (hw _ (List.mem_of_getElem? (i := 57) rfl))) (ty := .int) (by decide)
      have F_severity_b104 : Fld Z h104 b104 "com/example/headwright/headwright/Diagnostic" "severity" "Lcom/example/headwright/headwright/Diagnostic$Severity;" .null := D104 (Or.inr (hw _ (List.mem_of_getElem? (i := 59) rfl))) (ty := (.object "com/example/headwright/headwright/Diagnostic$Severity")) (by decide)
      have F_message_b104 : Fld Z h104 b104 "com/example/headwright/headwright/Diagnostic" "message" "Ljava/lang/String;" .null := D104 (Or.inr (hw _ (List.mem_of_getElem? (i := 61) rfl))) (ty := (.object "java/lang/String")) (by decide)
      show own_Fin _ _ _ _ (T104.setTop (mkF m 137 #[iv p1, iv p2, iv p3, iv p4, iv (1 : Int32), iv (0 : Int32), iv v6_88, rv b94, rv b96, rv b101, rv aE, .unset] [(.ref b104)]))
      refine own_go (XS.dup X104.here hx rfl (hb hby at_137) rfl rfl (Steps.refl _)) ?_
      show own_Fin _ _ _ _ (T104.setTop (mkF m 138 #[iv p1, iv p2, iv p3, iv p4, iv (1 : Int32), iv (0 : Int32), iv v6_88, rv b94, rv b96, rv b101, rv aE, .unset] [(.ref b104), (.ref b104)]))
      refine own_go (XS.aload X104.here hx rfl (hb hby at_138) rfl rfl (Steps.refl _)) ?_
      show own_Fin _ _ _ _ (T104.setTop (mkF m 140 #[iv p1, iv p2, iv p3, iv p4, iv (1 : Int32), iv (0 : Int32), iv v6_88, rv b94, rv b96, rv b101, rv aE, .unset] [(.ref b94), (.ref b104), (.ref b104)]))
      refine own_go (XS.iload X104.here hx rfl (hb hby at_140) rfl (Steps.refl _)) ?_
      show own_Fin _ _ _ _ (T104.setTop (mkF m 142 #[iv p1, iv p2, iv p3, iv p4, iv (1 : Int32), iv (0 : Int32), iv v6_88, rv b94, rv b96, rv b101, rv aE, .unset] [(.int v6_88), (.ref b94), (.ref b104), (.ref b104)]))
      refine own_go (XS.aload X104.here hx rfl (hb hby at_142) rfl rfl (Steps.refl _)) ?_
      show own_Fin _ _ _ _ (T104.setTop (mkF m 144 #[iv p1, iv p2, iv p3, iv p4, iv (1 : Int32), iv (0 : Int32), iv v6_88, rv b94, rv b96, rv b101, rv aE, .unset] [(.ref aE), (.int v6_88), (.ref b94), (.ref b104), (.ref b104)]))
      refine own_go (XS.aload X104.here hx rfl (hb hby at_144) rfl rfl (Steps.refl _)) ?_
      show own_Fin _ _ _ _ (T104.setTop (mkF m 146 #[iv p1, iv p2, iv p3, iv p4, iv (1 : Int32), iv (0 : Int32), iv v6_88, rv b94, rv b96, rv b101, rv aE, .unset] [(.ref b101), (.ref aE), (.int v6_88), (.ref b94), (.ref b104), (.ref b104)]))
      obtain ⟨_, _, ⟨T105, L105, k105, n105⟩, -, X105, hs2105, hgr105, ⟨Lc105, hQ105, l105, y105, z105⟩, st105⟩ := X104.specialBackS hx (y := (⟨"com/example/headwright/headwright/Diagnostic", "<init>", "(Ljava/lang/String;ILcom/example/headwright/headwright/Diagnostic$Severity;Ljava/lang/String;)V"⟩ : MethodName)) rfl hown (mvT hZ (hw _ (List.mem_of_getElem? (i := 37) rfl))) (mvT hZ (hw _ (List.mem_of_getElem? (i := 38) rfl))) (mvT hZ (hw _ (List.mem_of_getElem? (i := 39) rfl))) (by decide) (backOfS (W := 1) (rmdi_r l Z a0 hw [] b104 b94 v6_88 aE b101 h104 n0 Z104 E_b104 F_file_b104 F_line_b104 F_severity_b104 F_message_b104 g_b104 (by rw [← hz_v6_88]; exact own_ln p2) r95_0_104 E_aE_104 r102_0_104) hZ (hw _ (List.mem_of_getElem? (i := 39) rfl)) (hw _ (List.mem_of_getElem? (i := 36) rfl)) (by decide) (by decide)) (g := (mkF m 146 #[iv p1, iv p2, iv p3, iv p4, iv (1 : Int32), iv (0 : Int32), iv v6_88, rv b94, rv b96, rv b101, rv aE, .unset] [(.ref b101), (.ref aE), (.int v6_88), (.ref b94), (.ref b104), (.ref b104)])) rfl (by rw [hml]; rfl) (Steps.refl _) (a := b104) (argsL := [(.ref b94), (.int v6_88), (.ref aE), (.ref b101)]) (rest := [(.ref b104)]) (lenOf pd__28_Ljava_2f_lang_2f_String_3b_ILcom_2f_example_2f_headwright_2f_headwright_2f_Diagnostic_24_Severity_3b_Ljava_2f_lang_2f_String_3b__29_V rfl) rfl (by show 2 * 0 + _ ≤ _; exact Nat.le_of_eq rfl) (hb hby at_146) (fun _ _ => ⟨rfl, e104, (by decide : 7 + 4 ≤ _), (by decide : 20 + 204 ≤ _)⟩)
      dsimp only [Pt.U, Pt.locs, Pt.cells, Pt.slots] at X105 l105 y105 z105 st105 hQ105 hs2105 hgr105
      subst l105 y105 z105
      obtain ⟨Xr105, hS105, hZ105, hown105⟩ := rebS hS0 (show 0 ≤ T104.heap.size by rw [e104]; exact hk104) X105 hs2105 hgr105 hZ hown
      refine own_go st105 ?_
      obtain ⟨rfl, Nq105, K105, r105_0, r105_1, r105_2, r105_3, r105_4⟩ := hQ105
      have Od105 := Od104.keep K105 (allS g_b104 all0)
      have E_aE_105 := E_aE_104.keep K105
      have E_aW_105 := E_aW_104.keep K105
      have V_b89_105 := V_b89_104.keep K105 (ninS ne_b89_b104 nin0)
      have r95_0_105 := r95_0_104.keep K105
      have r95_1_105 := r95_1_104.keep K105 (ninS ne_b94_b104 nin0)
      have r95_2_105 := r95_2_104.keep K105 (ninS ne_b94_b104 nin0)
      have r95_3_105 := r95_3_104.keep K105 (ninS ne_b_95_b104 nin0)
      have V_b96_105 := V_b96_104.keep K105 (ninS ne_b96_b104 nin0)
      have r102_0_105 := r102_0_104.keep K105
      have r102_1_105 := r102_1_104.keep K105 (ninS ne_b101_b104 nin0)
      have r102_2_105 := r102_2_104.keep K105 (ninS ne_b101_b104 nin0)
      have r102_3_105 := r102_3_104.keep K105 (ninS ne_b_102_b104 nin0)
      have E_b104_105 := E_b104.keep K105
      have Z105 : n0 ≤ T105.heap.size := Nat.le_trans Z104 K105.1
      have hk105 : 0 ≤ T105.heap.size := Nat.le_trans hk104 K105.1
      have hkr105 : T105.heap.size ≤ T105.heap.size := Nat.le_refl _
      have N105 := Fr.app N102 Nq105
      show own_Fin _ _ _ _ (T105.setTop (mkF m 149 #[iv p1, iv p2, iv p3, iv p4, iv (1 : Int32), iv (0 : Int32), iv v6_88, rv b94, rv b96, rv b101, rv aE, .unset] [(.ref b104)]))
      refine own_go (XS.astore Xr105.here hx rfl (hb hby at_149) rfl rfl rfl (Steps.refl _)) ?_
      show own_Fin _ _ _ _ (T105.setTop (mkF m 151 #[iv p1, iv p2, iv p3, iv p4, iv (1 : Int32), iv (0 : Int32), iv v6_88, rv b94, rv b96, rv b101, rv aE, rv b104] []))
      refine own_go (XS.aload Xr105.here hx rfl (hb hby at_151) rfl rfl (Steps.refl _)) ?_
      show own_Fin _ _ _ _ (T105.setTop (mkF m 153 #[iv p1, iv p2, iv p3, iv p4, iv (1 : Int32), iv (0 : Int32), iv v6_88, rv b94, rv b96, rv b101, rv aE, rv b104] [(.ref b104)]))
      obtain ⟨cq106, kq106, q106a, q106b, q106c⟩ := isOf hZ105 rfl r105_0
      obtain ⟨_, _, ⟨T106, L106, k106, n106⟩, -, X106, ⟨Lc106, hQ106, l106, y106, z106⟩, st106⟩ := Xr105.virtualBack hx (y := (⟨"com/example/headwright/headwright/Diagnostic", "isError", "()Z"⟩ : MethodName)) (z := (⟨"com/example/headwright/headwright/Diagnostic", "isError", "()Z"⟩ : MethodName)) hown105 (mvT hZ105 (hw _ (List.mem_of_getElem? (i := 62) rfl))) (mvT hZ105 (hw _ (List.mem_of_getElem? (i := 63) rfl))) (notFace_of_selects (args := #[]) (mvT hZ105 (hw _ (List.mem_of_getElem? (i := 65) rfl)))) (mvT hZ105 (hw _ (List.mem_of_getElem? (i := 65) rfl))) (mvT hZ105 (hw _ (List.mem_of_getElem? (i := 64) rfl))) (by decide) (backOf (W := 0) (rmie_E l Z a0 hw [] b104 aE T105.heap n0 Z105 r105_3 Od105 S_ERROR) hZ105 (hw _ (List.mem_of_getElem? (i := 66) rfl)) (hw _ (List.mem_of_getElem? (i := 36) rfl)) (by decide) (by decide)) q106a q106c (g := (mkF m 153 #[iv p1, iv p2, iv p3, iv p4, iv (1 : Int32), iv (0 : Int32), iv v6_88, rv b94, rv b96, rv b101, rv aE, rv b104] [(.ref b104)])) rfl (by rw [hml]; rfl) (Steps.refl _) (argsL := []) (rest := []) (lenOf pd__28__29_Z rfl) rfl (by show 2 * 0 + _ ≤ _; exact Nat.le_of_eq rfl) (hb hby at_153) (fun _ _ => ⟨rfl, rfl, (by decide : 11 + 0 ≤ _), (by decide : 224 + 0 ≤ _)⟩)
      dsimp only [Pt.U, Pt.locs, Pt.cells, Pt.slots] at X106 l106 y106 z106 st106 hQ106
      subst l106 y106 z106
      obtain ⟨rfl, Nq106, e106⟩ := hQ106
      refine own_go st106 ?_
      have N106 := Fr.app N105 Nq106
      show own_Fin _ _ _ _ (T106.setTop (mkF m 156 #[iv p1, iv p2, iv p3, iv p4, iv (1 : Int32), iv (0 : Int32), iv v6_88, rv b94, rv b96, rv b101, rv aE, rv b104] [(.int (1 : Int32))]))
      refine own_go (XS.iload X106.here hx rfl (hb hby at_156) rfl (Steps.refl _)) ?_
      show own_Fin _ _ _ _ (T106.setTop (mkF m 158 #[iv p1, iv p2, iv p3, iv p4, iv (1 : Int32), iv (0 : Int32), iv v6_88, rv b94, rv b96, rv b101, rv aE, rv b104] [(.int (1 : Int32)), (.int (1 : Int32))]))
      refine own_go (XS.icmpNo X106.here hx rfl (hb hby at_158) rfl (teq (by decide : (1 : Int32) = (1 : Int32))).2 (Steps.refl _)) ?_
      show own_Fin _ _ _ _ (T106.setTop (mkF m 161 #[iv p1, iv p2, iv p3, iv p4, iv (1 : Int32), iv (0 : Int32), iv v6_88, rv b94, rv b96, rv b101, rv aE, rv b104] []))
      refine own_go (XS.iconst X106.here hx rfl (hb hby at_161) (Steps.refl _)) ?_
      show own_Fin _ _ _ _ (T106.setTop (mkF m 162 #[iv p1, iv p2, iv p3, iv p4, iv (1 : Int32), iv (0 : Int32), iv v6_88, rv b94, rv b96, rv b101, rv aE, rv b104] [(.int (1 : Int32))]))
      refine own_go (XS.goto X106.here hx rfl (pc0 := 162) (pc' := 166) rfl (hb hby at_162) (by decide) (by decide) (Steps.refl _)) ?_
      show own_Fin _ _ _ _ (T106.setTop (mkF m 166 #[iv p1, iv p2, iv p3, iv p4, iv (1 : Int32), iv (0 : Int32), iv v6_88, rv b94, rv b96, rv b101, rv aE, rv b104] [(.int (1 : Int32))]))
      obtain ⟨fs107, hr107, hrun107, hended107, hRW107⟩ := X106.leaveW (s := s) hS105 (n := T105.heap.size) (by rw [e106]; exact hkr105) (v := some (.int (1 : Int32))) (fun h => by rw [Bd.returns] at h; cases h)
      refine own_done (retN X106 hx (t := .boolean) Bd.returns (by simp) (hb hby at_166) hr107) hrun107 hended107 ⟨_, _, rfl, ?_, hRW107.1, hRW107.2.1, hRW107.2.2.1, hRW107.2.2.2.mono (by decide) (by decide)⟩
      show Q0 Z p1 p2 p3 p4 aE aW cs h0 n0 _ T106.heap _
      rw [e106]
      exact ⟨rfl, N106⟩
    · refine own_go (XS.ifNo X0w.here hx rfl (hb hby at_16) rfl ((if0 _ _).trans (feq c16_87).1) (Steps.refl _)) ?_
      show own_Fin _ _ _ _ (s₁.setTop (mkF m 19 #[iv p1, iv p2, iv p3, iv p4, iv (1 : Int32), .unset, .unset, .unset, .unset, .unset, .unset, .unset] []))
      refine own_go (XS.iconst X0w.here hx rfl (hb hby at_19) (Steps.refl _)) ?_
      show own_Fin _ _ _ _ (s₁.setTop (mkF m 20 #[iv p1, iv p2, iv p3, iv p4, iv (1 : Int32), .unset, .unset, .unset, .unset, .unset, .unset, .unset] [(.int (1 : Int32))]))
      refine own_go (XS.goto X0w.here hx rfl (pc0 := 20) (pc' := 24) rfl (hb hby at_20) (by decide) (by decide) (Steps.refl _)) ?_
      show own_Fin _ _ _ _ (s₁.setTop (mkF m 24 #[iv p1, iv p2, iv p3, iv p4, iv (1 : Int32), .unset, .unset, .unset, .unset, .unset, .unset, .unset] [(.int (1 : Int32))]))
      refine own_go (XS.istore X0w.here hx rfl (hb hby at_24) rfl rfl (Steps.refl _)) ?_
      show own_Fin _ _ _ _ (s₁.setTop (mkF m 26 #[iv p1, iv p2, iv p3, iv p4, iv (1 : Int32), iv (1 : Int32), .unset, .unset, .unset, .unset, .unset, .unset] []))
      refine own_go (XS.iloadN X0w.here hx rfl (hb hby at_26) rfl (Steps.refl _)) ?_
      show own_Fin _ _ _ _ (s₁.setTop (mkF m 27 #[iv p1, iv p2, iv p3, iv p4, iv (1 : Int32), iv (1 : Int32), .unset, .unset, .unset, .unset, .unset, .unset] [(.int p2)]))
      refine own_by (X0w.ldcInt hx hown (mvT hZ (hw _ (List.mem_of_getElem? (i := 0) rfl))) (g := (mkF m 27 #[iv p1, iv p2, iv p3, iv p4, iv (1 : Int32), iv (1 : Int32), .unset, .unset, .unset, .unset, .unset, .unset] [(.int p2)])) rfl (hb hby at_27)) ?_
      show own_Fin _ _ _ _ (s₁.setTop (mkF m 29 #[iv p1, iv p2, iv p3, iv p4, iv (1 : Int32), iv (1 : Int32), .unset, .unset, .unset, .unset, .unset, .unset] [(.int (2147483647 : Int32)), (.int p2)]))
      refine own_go (XS.iand X0w.here hx rfl (hb hby at_29) rfl (Steps.refl _)) ?_
      show own_Fin _ _ _ _ (s₁.setTop (mkF m 30 #[iv p1, iv p2, iv p3, iv p4, iv (1 : Int32), iv (1 : Int32), .unset, .unset, .unset, .unset, .unset, .unset] [(.int (p2 &&& (2147483647 : Int32)))]))
      refine own_go (XS.istore X0w.here hx rfl (hb hby at_30) rfl rfl (Steps.refl _)) ?_
      show own_Fin _ _ _ _ (s₁.setTop (mkF m 32 #[iv p1, iv p2, iv p3, iv p4, iv (1 : Int32), iv (1 : Int32), iv (p2 &&& (2147483647 : Int32)), .unset, .unset, .unset, .unset, .unset] []))
      generalize hz_v6_108 : (p2 &&& (2147483647 : Int32)) = v6_108
      refine own_go (XS.aconstNull X0w.here hx rfl (hb hby at_32) (Steps.refl _)) ?_
      show own_Fin _ _ _ _ (s₁.setTop (mkF m 33 #[iv p1, iv p2, iv p3, iv p4, iv (1 : Int32), iv (1 : Int32), iv v6_108, .unset, .unset, .unset, .unset, .unset] [.null]))
      refine own_go (XS.astore X0w.here hx rfl (hb hby at_33) rfl rfl rfl (Steps.refl _)) ?_
      show own_Fin _ _ _ _ (s₁.setTop (mkF m 35 #[iv p1, iv p2, iv p3, iv p4, iv (1 : Int32), iv (1 : Int32), iv v6_108, .val .null, .unset, .unset, .unset, .unset] []))
      refine own_go (XS.iload X0w.here hx rfl (hb hby at_35) rfl (Steps.refl _)) ?_
      show own_Fin _ _ _ _ (s₁.setTop (mkF m 37 #[iv p1, iv p2, iv p3, iv p4, iv (1 : Int32), iv (1 : Int32), iv v6_108, .val .null, .unset, .unset, .unset, .unset] [(.int (1 : Int32))]))
      refine own_go (XS.ifYes X0w.here hx rfl (pc0 := 37) (pc' := 79) rfl (hb hby at_37) rfl ((if0 _ _).trans (feq (by decide : ¬ ((1 : Int32) = (0 : Int32)))).2) (by decide) (by decide) (Steps.refl _)) ?_
      show own_Fin _ _ _ _ (s₁.setTop (mkF m 79 #[iv p1, iv p2, iv p3, iv p4, iv (1 : Int32), iv (1 : Int32), iv v6_108, .val .null, .unset, .unset, .unset, .unset] []))
      refine own_go (XS.iconst X0w.here hx rfl (hb hby at_79) (Steps.refl _)) ?_
      show own_Fin _ _ _ _ (s₁.setTop (mkF m 80 #[iv p1, iv p2, iv p3, iv p4, iv (1 : Int32), iv (1 : Int32), iv v6_108, .val .null, .unset, .unset, .unset, .unset] [(.int (2 : Int32))]))
      obtain ⟨T109, h109, k109, X109, e109, E109, A109, st109⟩ := newP X0w hx hZ (hw _ (List.mem_of_getElem? (i := 1) rfl)) e0 (g := (mkF m 80 #[iv p1, iv p2, iv p3, iv p4, iv (1 : Int32), iv (1 : Int32), iv v6_108, .val .null, .unset, .unset, .unset, .unset] [(.int (2 : Int32))])) rfl (hb hby at_80) rfl (by decide) (cap := 2) (by decide) (by decide) (by decide) (by decide)
      obtain ⟨b109, g109⟩ : ∃ z, z = h0.size := ⟨_, rfl⟩
      rw [← g109] at A109 st109
      refine own_by st109 ?_
      have ne_aE_b109 : aE ≠ b109 := Nat.ne_of_lt (Nat.lt_of_lt_of_eq E_aE.lt g109.symm)
      have ne_aW_b109 : aW ≠ b109 := Nat.ne_of_lt (Nat.lt_of_lt_of_eq E_aW.lt g109.symm)
      have Od109 := O0.ext E109
      have E_aE_109 := E_aE.ext E109
      have E_aW_109 := E_aW.ext E109
      have g_b109 : n0 ≤ b109 := Nat.le_trans Z0 (Nat.le_of_eq g109.symm)
      have Z109 : n0 ≤ h109.size := Nat.le_trans Z0 E109.1
      have hk109 : 0 ≤ h109.size := Nat.le_trans hk0 E109.1
      have V_b109 : Arv Z h109 b109 k109 .char (2 : Int32) [(.int (0 : Int32)), (.int (0 : Int32))] (.int (0 : Int32)) := (Arv.new A109 (by decide)).pad (pad_rep [] (.int (0 : Int32)) 2)
      show own_Fin _ _ _ _ (T109.setTop (mkF m 82 #[iv p1, iv p2, iv p3, iv p4, iv (1 : Int32), iv (1 : Int32), iv v6_108, .val .null, .unset, .unset, .unset, .unset] [(.ref b109)]))
      refine own_go (XS.astore X109.here hx rfl (hb hby at_82) rfl rfl rfl (Steps.refl _)) ?_
      show own_Fin _ _ _ _ (T109.setTop (mkF m 84 #[iv p1, iv p2, iv p3, iv p4, iv (1 : Int32), iv (1 : Int32), iv v6_108, .val .null, rv b109, .unset, .unset, .unset] []))
      refine own_go (XS.aload X109.here hx rfl (hb hby at_84) rfl rfl (Steps.refl _)) ?_
      show own_Fin _ _ _ _ (T109.setTop (mkF m 86 #[iv p1, iv p2, iv p3, iv p4, iv (1 : Int32), iv (1 : Int32), iv v6_108, .val .null, rv b109, .unset, .unset, .unset] [(.ref b109)]))
      refine own_go (XS.iconst X109.here hx rfl (hb hby at_86) (Steps.refl _)) ?_
      show own_Fin _ _ _ _ (T109.setTop (mkF m 87 #[iv p1, iv p2, iv p3, iv p4, iv (1 : Int32), iv (1 : Int32), iv v6_108, .val .null, rv b109, .unset, .unset, .unset] [(.int (0 : Int32)), (.ref b109)]))
      refine own_go (XS.iloadN X109.here hx rfl (hb hby at_87) rfl (Steps.refl _)) ?_
      show own_Fin _ _ _ _ (T109.setTop (mkF m 88 #[iv p1, iv p2, iv p3, iv p4, iv (1 : Int32), iv (1 : Int32), iv v6_108, .val .null, rv b109, .unset, .unset, .unset] [(.int p4), (.int (0 : Int32)), (.ref b109)]))
      refine own_go (XS.sipush X109.here hx rfl (hb hby at_88) (Steps.refl _)) ?_
      show own_Fin _ _ _ _ (T109.setTop (mkF m 91 #[iv p1, iv p2, iv p3, iv p4, iv (1 : Int32), iv (1 : Int32), iv v6_108, .val .null, rv b109, .unset, .unset, .unset] [(.int (255 : Int32)), (.int p4), (.int (0 : Int32)), (.ref b109)]))
      refine own_go (XS.iand X109.here hx rfl (hb hby at_91) rfl (Steps.refl _)) ?_
      show own_Fin _ _ _ _ (T109.setTop (mkF m 92 #[iv p1, iv p2, iv p3, iv p4, iv (1 : Int32), iv (1 : Int32), iv v6_108, .val .null, rv b109, .unset, .unset, .unset] [(.int (p4 &&& (255 : Int32))), (.int (0 : Int32)), (.ref b109)]))
      refine own_go (XS.i2c X109.here hx rfl (hb hby at_92) rfl (Steps.refl _)) ?_
      show own_Fin _ _ _ _ (T109.setTop (mkF m 93 #[iv p1, iv p2, iv p3, iv p4, iv (1 : Int32), iv (1 : Int32), iv v6_108, .val .null, rv b109, .unset, .unset, .unset] [(.int ((p4 &&& (255 : Int32)).toUInt32.toUInt16.toUInt32.toInt32)), (.int (0 : Int32)), (.ref b109)]))
      obtain ⟨cl110, Ar110, qa110, Sa110, Na110, Ha110, Ga110⟩ := id V_b109
      have hin110 : ¬ ((0 : Int32) < 0 ∨ cl110.slots.size ≤ ((0 : Int32)).toNatClampNeg) := inb_of Sa110 ⟨by decide, by decide⟩
      obtain ⟨T111, h111, X111, e111, W111, st111⟩ := stC X109 hx hZ e109 Ar110 (j := (0 : Int32)) hin110 (g := (mkF m 93 #[iv p1, iv p2, iv p3, iv p4, iv (1 : Int32), iv (1 : Int32), iv v6_108, .val .null, rv b109, .unset, .unset, .unset] [(.int ((p4 &&& (255 : Int32)).toUInt32.toUInt16.toUInt32.toInt32)), (.int (0 : Int32)), (.ref b109)])) rfl rfl (hb hby at_93)
      refine own_by st111 ?_
      have hnr111 : nar .char ((p4 &&& (255 : Int32)).toUInt32.toUInt16.toUInt32.toInt32) = (p4 &&& (255 : Int32)) := own_nc _
      rw [hnr111] at W111
      have V_b109_111 : Arv Z h111 b109 k109 .char (2 : Int32) [(.int (p4 &&& (255 : Int32))), (.int (0 : Int32))] (.int (0 : Int32)) := Arv.set Ar110 qa110 Sa110 Na110 Ha110 Ga110 (hnr111 ▸ fits_nar_char ((p4 &&& (255 : Int32)).toUInt32.toUInt16.toUInt32.toInt32)) W111 0 rfl (Nat.le_of_ble_eq_true rfl)
      have Od111 := Od109.wr W111 g_b109
      have E_aE_111 := E_aE_109.wr W111
      have E_aW_111 := E_aW_109.wr W111
      have N111 := Fr.snoc X111 N0 g_b109
      have Z111 : n0 ≤ h111.size := Nat.le_trans Z109 (Keep.of_wr W111).1
      have hk111 : 0 ≤ h111.size := Nat.le_trans hk109 (Keep.of_wr W111).1
      show own_Fin _ _ _ _ (T111.setTop (mkF m 94 #[iv p1, iv p2, iv p3, iv p4, iv (1 : Int32), iv (1 : Int32), iv v6_108, .val .null, rv b109, .unset, .unset, .unset] []))
      refine own_go (XS.aload X111.here hx rfl (hb hby at_94) rfl rfl (Steps.refl _)) ?_
      show own_Fin _ _ _ _ (T111.setTop (mkF m 96 #[iv p1, iv p2, iv p3, iv p4, iv (1 : Int32), iv (1 : Int32), iv v6_108, .val .null, rv b109, .unset, .unset, .unset] [(.ref b109)]))
      refine own_go (XS.iconst X111.here hx rfl (hb hby at_96) (Steps.refl _)) ?_
      show own_Fin _ _ _ _ (T111.setTop (mkF m 97 #[iv p1, iv p2, iv p3, iv p4, iv (1 : Int32), iv (1 : Int32), iv v6_108, .val .null, rv b109, .unset, .unset, .unset] [(.int (1 : Int32)), (.ref b109)]))
      refine own_go (XS.iloadN X111.here hx rfl (hb hby at_97) rfl (Steps.refl _)) ?_
      show own_Fin _ _ _ _ (T111.setTop (mkF m 98 #[iv p1, iv p2, iv p3, iv p4, iv (1 : Int32), iv (1 : Int32), iv v6_108, .val .null, rv b109, .unset, .unset, .unset] [(.int p4), (.int (1 : Int32)), (.ref b109)]))
      refine own_go (XS.bipush X111.here hx rfl (hb hby at_98) (Steps.refl _)) ?_
      show own_Fin _ _ _ _ (T111.setTop (mkF m 100 #[iv p1, iv p2, iv p3, iv p4, iv (1 : Int32), iv (1 : Int32), iv v6_108, .val .null, rv b109, .unset, .unset, .unset] [(.int (8 : Int32)), (.int p4), (.int (1 : Int32)), (.ref b109)]))
      refine own_go (XS.iushr X111.here hx rfl (hb hby at_100) rfl (Steps.refl _)) ?_
      show own_Fin _ _ _ _ (T111.setTop (mkF m 101 #[iv p1, iv p2, iv p3, iv p4, iv (1 : Int32), iv (1 : Int32), iv v6_108, .val .null, rv b109, .unset, .unset, .unset] [(.int ((p4.toUInt32 >>> ((8 : Int32) &&& 31).toUInt32).toInt32)), (.int (1 : Int32)), (.ref b109)]))
      refine own_go (XS.sipush X111.here hx rfl (hb hby at_101) (Steps.refl _)) ?_
      show own_Fin _ _ _ _ (T111.setTop (mkF m 104 #[iv p1, iv p2, iv p3, iv p4, iv (1 : Int32), iv (1 : Int32), iv v6_108, .val .null, rv b109, .unset, .unset, .unset] [(.int (255 : Int32)), (.int ((p4.toUInt32 >>> ((8 : Int32) &&& 31).toUInt32).toInt32)), (.int (1 : Int32)), (.ref b109)]))
      refine own_go (XS.iand X111.here hx rfl (hb hby at_104) rfl (Steps.refl _)) ?_
      show own_Fin _ _ _ _ (T111.setTop (mkF m 105 #[iv p1, iv p2, iv p3, iv p4, iv (1 : Int32), iv (1 : Int32), iv v6_108, .val .null, rv b109, .unset, .unset, .unset] [(.int (((p4.toUInt32 >>> ((8 : Int32) &&& 31).toUInt32).toInt32) &&& (255 : Int32))), (.int (1 : Int32)), (.ref b109)]))
      refine own_go (XS.i2c X111.here hx rfl (hb hby at_105) rfl (Steps.refl _)) ?_
      show own_Fin _ _ _ _ (T111.setTop (mkF m 106 #[iv p1, iv p2, iv p3, iv p4, iv (1 : Int32), iv (1 : Int32), iv v6_108, .val .null, rv b109, .unset, .unset, .unset] [(.int ((((p4.toUInt32 >>> ((8 : Int32) &&& 31).toUInt32).toInt32) &&& (255 : Int32)).toUInt32.toUInt16.toUInt32.toInt32)), (.int (1 : Int32)), (.ref b109)]))
      obtain ⟨cl112, Ar112, qa112, Sa112, Na112, Ha112, Ga112⟩ := id V_b109_111
      have hin112 : ¬ ((1 : Int32) < 0 ∨ cl112.slots.size ≤ ((1 : Int32)).toNatClampNeg) := inb_of Sa112 ⟨by decide, by decide⟩
      obtain ⟨T113, h113, X113, e113, W113, st113⟩ := stC X111 hx hZ e111 Ar112 (j := (1 : Int32)) hin112 (g := (mkF m 106 #[iv p1, iv p2, iv p3, iv p4, iv (1 : Int32), iv (1 : Int32), iv v6_108, .val .null, rv b109, .unset, .unset, .unset] [(.int ((((p4.toUInt32 >>> ((8 : Int32) &&& 31).toUInt32).toInt32) &&& (255 : Int32)).toUInt32.toUInt16.toUInt32.toInt32)), (.int (1 : Int32)), (.ref b109)])) rfl rfl (hb hby at_106)
      refine own_by st113 ?_
      have hnr113 : nar .char ((((p4.toUInt32 >>> ((8 : Int32) &&& 31).toUInt32).toInt32) &&& (255 : Int32)).toUInt32.toUInt16.toUInt32.toInt32) = (((p4.toUInt32 >>> ((8 : Int32) &&& 31).toUInt32).toInt32) &&& (255 : Int32)) := own_nc _
      rw [hnr113] at W113
      have V_b109_113 : Arv Z h113 b109 k109 .char (2 : Int32) [(.int (p4 &&& (255 : Int32))), (.int (((p4.toUInt32 >>> ((8 : Int32) &&& 31).toUInt32).toInt32) &&& (255 : Int32)))] (.int (0 : Int32)) := Arv.set Ar112 qa112 Sa112 Na112 Ha112 Ga112 (hnr113 ▸ fits_nar_char ((((p4.toUInt32 >>> ((8 : Int32) &&& 31).toUInt32).toInt32) &&& (255 : Int32)).toUInt32.toUInt16.toUInt32.toInt32)) W113 1 rfl (Nat.le_of_ble_eq_true rfl)
      have Od113 := Od111.wr W113 g_b109
      have E_aE_113 := E_aE_111.wr W113
      have E_aW_113 := E_aW_111.wr W113
      have N113 := Fr.snoc X113 N111 g_b109
      have Z113 : n0 ≤ h113.size := Nat.le_trans Z111 (Keep.of_wr W113).1
      have hk113 : 0 ≤ h113.size := Nat.le_trans hk111 (Keep.of_wr W113).1
      show own_Fin _ _ _ _ (T113.setTop (mkF m 107 #[iv p1, iv p2, iv p3, iv p4, iv (1 : Int32), iv (1 : Int32), iv v6_108, .val .null, rv b109, .unset, .unset, .unset] []))
      obtain ⟨T114, h114, X114, e114, E114, A114, D114, U114, st114⟩ := newO X113 hx hZ hown (hw _ (List.mem_of_getElem? (i := 2) rfl)) (hw _ (List.mem_of_getElem? (i := 3) rfl)) (hw _ (List.mem_of_getElem? (i := 4) rfl)) e113 (g := (mkF m 107 #[iv p1, iv p2, iv p3, iv p4, iv (1 : Int32), iv (1 : Int32), iv v6_108, .val .null, rv b109, .unset, .unset, .unset] [])) rfl (hb hby at_107) (by decide) (by decide)
      obtain ⟨b114, g114⟩ : ∃ z, z = h113.size := ⟨_, rfl⟩
      rw [← g114] at A114 D114 U114 st114
      refine own_by st114 ?_
      have ne_aE_b114 : aE ≠ b114 := Nat.ne_of_lt (Nat.lt_of_lt_of_eq E_aE_113.lt g114.symm)
      have ne_aW_b114 : aW ≠ b114 := Nat.ne_of_lt (Nat.lt_of_lt_of_eq E_aW_113.lt g114.symm)
      have ne_b109_b114 : b109 ≠ b114 := Nat.ne_of_lt (Nat.lt_of_lt_of_eq V_b109_113.lt g114.symm)
      have Od114 := Od113.ext E114
      have E_aE_114 := E_aE_113.ext E114
      have E_aW_114 := E_aW_113.ext E114
      have V_b109_114 := V_b109_113.ext E114
      have g_b114 : n0 ≤ b114 := Nat.le_trans Z113 (Nat.le_of_eq g114.symm)
      have Z114 : n0 ≤ h114.size := Nat.le_trans Z113 E114.1
      have hk114 : 0 ≤ h114.size := Nat.le_trans hk113 E114.1
      have E_b114 := A114
      have F_coder_b114 : Fld Z h114 b114 "java/lang/String" "coder" "B" (.int (0 : Int32)) := D114 (Or.inr (hw _ (List.mem_of_getElem? (i := 28) rfl))) (ty := .byte) (by decide)
      have F_value_b114 : Fld Z h114 b114 "java/lang/String" "value" "[B" .null := D114 (Or.inr (hw _ (List.mem_of_getElem? (i := 30) rfl))) (ty := (.array .byte)) (by decide)
      show own_Fin _ _ _ _ (T114.setTop (mkF m 110 #[iv p1, iv p2, iv p3, iv p4, iv (1 : Int32), iv (1 : Int32), iv v6_108, .val .null, rv b109, .unset, .unset, .unset] [(.ref b114)]))
      refine own_go (XS.dup X114.here hx rfl (hb hby at_110) rfl rfl (Steps.refl _)) ?_
      show own_Fin _ _ _ _ (T114.setTop (mkF m 111 #[iv p1, iv p2, iv p3, iv p4, iv (1 : Int32), iv (1 : Int32), iv v6_108, .val .null, rv b109, .unset, .unset, .unset] [(.ref b114), (.ref b114)]))
      refine own_go (XS.aload X114.here hx rfl (hb hby at_111) rfl rfl (Steps.refl _)) ?_
      show own_Fin _ _ _ _ (T114.setTop (mkF m 113 #[iv p1, iv p2, iv p3, iv p4, iv (1 : Int32), iv (1 : Int32), iv v6_108, .val .null, rv b109, .unset, .unset, .unset] [(.ref b109), (.ref b114), (.ref b114)]))
      obtain ⟨_, _, ⟨T115, L115, k115, n115⟩, -, X115, ⟨Lc115, hQ115, l115, y115, z115⟩, st115⟩ := X114.specialBack hx (y := (⟨"java/lang/String", "<init>", "([C)V"⟩ : MethodName)) rfl hown (mvT hZ (hw _ (List.mem_of_getElem? (i := 5) rfl))) (mvT hZ (hw _ (List.mem_of_getElem? (i := 6) rfl))) (mvT hZ (hw _ (List.mem_of_getElem? (i := 7) rfl))) (by decide) (backOf (W := 1) (rmstr_2 l Z a0 hw [] b114 b109 k109 cs (p4 &&& (255 : Int32)) (((p4.toUInt32 >>> ((8 : Int32) &&& 31).toUInt32).toInt32) &&& (255 : Int32)) h114 n0 Z114 E_b114 F_value_b114 F_coder_b114 g_b114 Od114 S_COMPACT_STRINGS hcs V_b109_114 (own_lt p4) (own_lt ((p4.toUInt32 >>> ((8 : Int32) &&& 31).toUInt32).toInt32))) hZ (hw _ (List.mem_of_getElem? (i := 7) rfl)) (hw _ (List.mem_of_getElem? (i := 4) rfl)) (by decide) (by decide)) (g := (mkF m 113 #[iv p1, iv p2, iv p3, iv p4, iv (1 : Int32), iv (1 : Int32), iv v6_108, .val .null, rv b109, .unset, .unset, .unset] [(.ref b109), (.ref b114), (.ref b114)])) rfl (by rw [hml]; rfl) (Steps.refl _) (a := b114) (argsL := [(.ref b109)]) (rest := [(.ref b114)]) (lenOf pd__28__5b_C_29_V rfl) rfl (by show 2 * 0 + _ ≤ _; exact Nat.le_of_eq rfl) (hb hby at_113) (fun _ _ => ⟨rfl, e114, (by decide : 2 + 1 ≤ _), (by decide : 6 + 2 ≤ _)⟩)
      dsimp only [Pt.U, Pt.locs, Pt.cells, Pt.slots] at X115 l115 y115 z115 st115 hQ115
      subst l115 y115 z115
      refine own_go st115 ?_
      obtain ⟨b_115, kb_115, rfl, Nq115, K115, g_b_115, sb_b_115, r115_0, r115_1, r115_2, r115_3⟩ := hQ115
      have ne_aE_b_115 : aE ≠ b_115 := Nat.ne_of_lt (Nat.lt_of_lt_of_le E_aE_114.lt sb_b_115)
      have ne_aW_b_115 : aW ≠ b_115 := Nat.ne_of_lt (Nat.lt_of_lt_of_le E_aW_114.lt sb_b_115)
      have ne_b109_b_115 : b109 ≠ b_115 := Nat.ne_of_lt (Nat.lt_of_lt_of_le V_b109_114.lt sb_b_115)
      have ne_b114_b_115 : b114 ≠ b_115 := Nat.ne_of_lt (Nat.lt_of_lt_of_le E_b114.lt sb_b_115)
      have Od115 := Od114.keep K115 (allS g_b114 all0)
      have E_aE_115 := E_aE_114.keep K115
      have E_aW_115 := E_aW_114.keep K115
      have V_b109_115 := V_b109_114.keep K115 (ninS ne_b109_b114 nin0)
      have E_b114_115 := E_b114.keep K115
      have Z115 : n0 ≤ T115.heap.size := Nat.le_trans Z114 K115.1
      have hk115 : 0 ≤ T115.heap.size := Nat.le_trans hk114 K115.1
      have N115 := Fr.app N113 Nq115
      show own_Fin _ _ _ _ (T115.setTop (mkF m 116 #[iv p1, iv p2, iv p3, iv p4, iv (1 : Int32), iv (1 : Int32), iv v6_108, .val .null, rv b109, .unset, .unset, .unset] [(.ref b114)]))
      refine own_go (XS.astore X115.here hx rfl (hb hby at_116) rfl rfl rfl (Steps.refl _)) ?_
      show own_Fin _ _ _ _ (T115.setTop (mkF m 118 #[iv p1, iv p2, iv p3, iv p4, iv (1 : Int32), iv (1 : Int32), iv v6_108, .val .null, rv b109, rv b114, .unset, .unset] []))
      refine own_go (XS.iload X115.here hx rfl (hb hby at_118) rfl (Steps.refl _)) ?_
      show own_Fin _ _ _ _ (T115.setTop (mkF m 120 #[iv p1, iv p2, iv p3, iv p4, iv (1 : Int32), iv (1 : Int32), iv v6_108, .val .null, rv b109, rv b114, .unset, .unset] [(.int (1 : Int32))]))
      refine own_go (XS.ifNo X115.here hx rfl (hb hby at_120) rfl ((if0 _ _).trans (feq (by decide : ¬ ((1 : Int32) = (0 : Int32)))).1) (Steps.refl _)) ?_
      show own_Fin _ _ _ _ (T115.setTop (mkF m 123 #[iv p1, iv p2, iv p3, iv p4, iv (1 : Int32), iv (1 : Int32), iv v6_108, .val .null, rv b109, rv b114, .unset, .unset] []))
      obtain ⟨T116, X116, e116, st116⟩ := getS2 X115 hx hZ hown (host := "") (Or.inl (hw _ (List.mem_of_getElem? (i := 69) rfl))) Via.refl rfl (S_ERROR.ext Od115.2) (g := (mkF m 123 #[iv p1, iv p2, iv p3, iv p4, iv (1 : Int32), iv (1 : Int32), iv v6_108, .val .null, rv b109, rv b114, .unset, .unset] [])) rfl (hb hby at_123)
      refine own_by st116 ?_
      show own_Fin _ _ _ _ (T116.setTop (mkF m 126 #[iv p1, iv p2, iv p3, iv p4, iv (1 : Int32), iv (1 : Int32), iv v6_108, .val .null, rv b109, rv b114, .unset, .unset] [(.ref aE)]))
      refine own_go (XS.goto X116.here hx rfl (pc0 := 126) (pc' := 132) rfl (hb hby at_126) (by decide) (by decide) (Steps.refl _)) ?_
      show own_Fin _ _ _ _ (T116.setTop (mkF m 132 #[iv p1, iv p2, iv p3, iv p4, iv (1 : Int32), iv (1 : Int32), iv v6_108, .val .null, rv b109, rv b114, .unset, .unset] [(.ref aE)]))
      refine own_go (XS.astore X116.here hx rfl (hb hby at_132) rfl rfl rfl (Steps.refl _)) ?_
      show own_Fin _ _ _ _ (T116.setTop (mkF m 134 #[iv p1, iv p2, iv p3, iv p4, iv (1 : Int32), iv (1 : Int32), iv v6_108, .val .null, rv b109, rv b114, rv aE, .unset] []))
      obtain ⟨T117, h117, X117, e117, E117, A117, D117, U117, st117⟩ := newO X116 hx hZ hown (hw _ (List.mem_of_getElem? (i := 34) rfl)) (hw _ (List.mem_of_getElem? (i := 35) rfl)) (hw _ (List.mem_of_getElem? (i := 36) rfl)) e116 (g := (mkF m 134 #[iv p1, iv p2, iv p3, iv p4, iv (1 : Int32), iv (1 : Int32), iv v6_108, .val .null, rv b109, rv b114, rv aE, .unset] [])) rfl (hb hby at_134) (by decide) (by decide)
      obtain ⟨b117, g117⟩ : ∃ z, z = T115.heap.size := ⟨_, rfl⟩
      rw [← g117] at A117 D117 U117 st117
      refine own_by st117 ?_
      have ne_aE_b117 : aE ≠ b117 := Nat.ne_of_lt (Nat.lt_of_lt_of_eq E_aE_115.lt g117.symm)
      have ne_aW_b117 : aW ≠ b117 := Nat.ne_of_lt (Nat.lt_of_lt_of_eq E_aW_115.lt g117.symm)
      have ne_b109_b117 : b109 ≠ b117 := Nat.ne_of_lt (Nat.lt_of_lt_of_eq V_b109_115.lt g117.symm)
      have ne_b114_b117 : b114 ≠ b117 := Nat.ne_of_lt (Nat.lt_of_lt_of_eq r115_0.lt g117.symm)
      have ne_b_115_b117 : b_115 ≠ b117 := Nat.ne_of_lt (Nat.lt_of_lt_of_eq r115_3.lt g117.symm)
      have Od117 := Od115.ext E117
      have E_aE_117 := E_aE_115.ext E117
      have E_aW_117 := E_aW_115.ext E117
      have V_b109_117 := V_b109_115.ext E117
      have r115_0_117 := r115_0.ext E117
      have r115_1_117 := r115_1.ext E117
      have r115_2_117 := r115_2.ext E117
      have r115_3_117 := r115_3.ext E117
      have g_b117 : n0 ≤ b117 := Nat.le_trans Z115 (Nat.le_of_eq g117.symm)
      have Z117 : n0 ≤ h117.size := Nat.le_trans Z115 E117.1
      have hk117 : 0 ≤ h117.size := Nat.le_trans hk115 E117.1
      have E_b117 := A117
      have F_file_b117 : Fld Z h117 b117 "com/example/headwright/headwright/Diagnostic" "file" "Ljava/lang/String;" .null := D117 (Or.inr (hw _ (List.mem_of_getElem? (i := 55) rfl))) (ty := (.object "java/lang/String")) (by decide)
      have F_line_b117 : Fld Z h117 b117 "com/example/headwright/headwright/Diagnostic" "line" "I" (.int (0 : Int32)) := D117 (Or.inr (hw _ (List.mem_of_getElem? (i := 57) rfl))) (ty := .int) (by decide)
      have F_severity_b117 : Fld Z h117 b117 "com/example/headwright/headwright/Diagnostic" "severity" "Lcom/example/headwright/headwright/Diagnostic$Severity;" .null := D117 (Or.inr (hw _ (List.mem_of_getElem? (i := 59) rfl))) (ty := (.object "com/example/headwright/headwright/Diagnostic$Severity")) (by decide)
      have F_message_b117 : Fld Z h117 b117 "com/example/headwright/headwright/Diagnostic" "message" "Ljava/lang/String;" .null := D117 (Or.inr (hw _ (List.mem_of_getElem? (i := 61) rfl))) (ty := (.object "java/lang/String")) (by decide)
      show own_Fin _ _ _ _ (T117.setTop (mkF m 137 #[iv p1, iv p2, iv p3, iv p4, iv (1 : Int32), iv (1 : Int32), iv v6_108, .val .null, rv b109, rv b114, rv aE, .unset] [(.ref b117)]))
      refine own_go (XS.dup X117.here hx rfl (hb hby at_137) rfl rfl (Steps.refl _)) ?_
      show own_Fin _ _ _ _ (T117.setTop (mkF m 138 #[iv p1, iv p2, iv p3, iv p4, iv (1 : Int32), iv (1 : Int32), iv v6_108, .val .null, rv b109, rv b114, rv aE, .unset] [(.ref b117), (.ref b117)]))
      refine own_go (XS.aload X117.here hx rfl (hb hby at_138) rfl rfl (Steps.refl _)) ?_
      show own_Fin _ _ _ _ (T117.setTop (mkF m 140 #[iv p1, iv p2, iv p3, iv p4, iv (1 : Int32), iv (1 : Int32), iv v6_108, .val .null, rv b109, rv b114, rv aE, .unset] [.null, (.ref b117), (.ref b117)]))
      refine own_go (XS.iload X117.here hx rfl (hb hby at_140) rfl (Steps.refl _)) ?_
      show own_Fin _ _ _ _ (T117.setTop (mkF m 142 #[iv p1, iv p2, iv p3, iv p4, iv (1 : Int32), iv (1 : Int32), iv v6_108, .val .null, rv b109, rv b114, rv aE, .unset] [(.int v6_108), .null, (.ref b117), (.ref b117)]))
      refine own_go (XS.aload X117.here hx rfl (hb hby at_142) rfl rfl (Steps.refl _)) ?_
      show own_Fin _ _ _ _ (T117.setTop (mkF m 144 #[iv p1, iv p2, iv p3, iv p4, iv (1 : Int32), iv (1 : Int32), iv v6_108, .val .null, rv b109, rv b114, rv aE, .unset] [(.ref aE), (.int v6_108), .null, (.ref b117), (.ref b117)]))
      refine own_go (XS.aload X117.here hx rfl (hb hby at_144) rfl rfl (Steps.refl _)) ?_
      show own_Fin _ _ _ _ (T117.setTop (mkF m 146 #[iv p1, iv p2, iv p3, iv p4, iv (1 : Int32), iv (1 : Int32), iv v6_108, .val .null, rv b109, rv b114, rv aE, .unset] [(.ref b114), (.ref aE), (.int v6_108), .null, (.ref b117), (.ref b117)]))
      obtain ⟨_, _, ⟨T118, L118, k118, n118⟩, -, X118, hs2118, hgr118, ⟨Lc118, hQ118, l118, y118, z118⟩, st118⟩ := X117.specialBackS hx (y := (⟨"com/example/headwright/headwright/Diagnostic", "<init>", "(Ljava/lang/String;ILcom/example/headwright/headwright/Diagnostic$Severity;Ljava/lang/String;)V"⟩ : MethodName)) rfl hown (mvT hZ (hw _ (List.mem_of_getElem? (i := 37) rfl))) (mvT hZ (hw _ (List.mem_of_getElem? (i := 38) rfl))) (mvT hZ (hw _ (List.mem_of_getElem? (i := 39) rfl))) (by decide) (backOfS (W := 1) (rmdi_n l Z a0 hw [] b117 v6_108 aE b114 h117 n0 Z117 E_b117 F_file_b117 F_line_b117 F_severity_b117 F_message_b117 g_b117 (by rw [← hz_v6_108]; exact own_ln p2) E_aE_117 r115_0_117) hZ (hw _ (List.mem_of_getElem? (i := 39) rfl)) (hw _ (List.mem_of_getElem? (i := 36) rfl)) (by decide) (by decide)) (g := (mkF m 146 #[iv p1, iv p2, iv p3, iv p4, iv (1 : Int32), iv (1 : Int32), iv v6_108, .val .null, rv b109, rv b114, rv aE, .unset] [(.ref b114), (.ref aE), (.int v6_108), .null, (.ref b117), (.ref b117)])) rfl (by rw [hml]; rfl) (Steps.refl _) (a := b117) (argsL := [.null, (.int v6_108), (.ref aE), (.ref b114)]) (rest := [(.ref b117)]) (lenOf pd__28_Ljava_2f_lang_2f_String_3b_ILcom_2f_example_2f_headwright_2f_headwright_2f_Diagnostic_24_Severity_3b_Ljava_2f_lang_2f_String_3b__29_V rfl) rfl (by show 2 * 0 + _ ≤ _; exact Nat.le_of_eq rfl) (hb hby at_146) (fun _ _ => ⟨rfl, e117, (by decide : 4 + 4 ≤ _), (by decide : 12 + 204 ≤ _)⟩)
      dsimp only [Pt.U, Pt.locs, Pt.cells, Pt.slots] at X118 l118 y118 z118 st118 hQ118 hs2118 hgr118
      subst l118 y118 z118
      obtain ⟨Xr118, hS118, hZ118, hown118⟩ := rebS hS0 (show 0 ≤ T117.heap.size by rw [e117]; exact hk117) X118 hs2118 hgr118 hZ hown
      refine own_go st118 ?_
      obtain ⟨rfl, Nq118, K118, r118_0, r118_1, r118_2, r118_3, r118_4⟩ := hQ118
      have Od118 := Od117.keep K118 (allS g_b117 all0)
      have E_aE_118 := E_aE_117.keep K118
      have E_aW_118 := E_aW_117.keep K118
      have V_b109_118 := V_b109_117.keep K118 (ninS ne_b109_b117 nin0)
      have r115_0_118 := r115_0_117.keep K118
      have r115_1_118 := r115_1_117.keep K118 (ninS ne_b114_b117 nin0)
      have r115_2_118 := r115_2_117.keep K118 (ninS ne_b114_b117 nin0)
      have r115_3_118 := r115_3_117.keep K118 (ninS ne_b_115_b117 nin0)
      have E_b117_118 := E_b117.keep K118
      have Z118 : n0 ≤ T118.heap.size := Nat.le_trans Z117 K118.1
      have hk118 : 0 ≤ T118.heap.size := Nat.le_trans hk117 K118.1
      have hkr118 : T118.heap.size ≤ T118.heap.size := Nat.le_refl _
      have N118 := Fr.app N115 Nq118
      show own_Fin _ _ _ _ (T118.setTop (mkF m 149 #[iv p1, iv p2, iv p3, iv p4, iv (1 : Int32), iv (1 : Int32), iv v6_108, .val .null, rv b109, rv b114, rv aE, .unset] [(.ref b117)]))
      refine own_go (XS.astore Xr118.here hx rfl (hb hby at_149) rfl rfl rfl (Steps.refl _)) ?_
      show own_Fin _ _ _ _ (T118.setTop (mkF m 151 #[iv p1, iv p2, iv p3, iv p4, iv (1 : Int32), iv (1 : Int32), iv v6_108, .val .null, rv b109, rv b114, rv aE, rv b117] []))
      refine own_go (XS.aload Xr118.here hx rfl (hb hby at_151) rfl rfl (Steps.refl _)) ?_
      show own_Fin _ _ _ _ (T118.setTop (mkF m 153 #[iv p1, iv p2, iv p3, iv p4, iv (1 : Int32), iv (1 : Int32), iv v6_108, .val .null, rv b109, rv b114, rv aE, rv b117] [(.ref b117)]))
      obtain ⟨cq119, kq119, q119a, q119b, q119c⟩ := isOf hZ118 rfl r118_0
      obtain ⟨_, _, ⟨T119, L119, k119, n119⟩, -, X119, ⟨Lc119, hQ119, l119, y119, z119⟩, st119⟩ := Xr118.virtualBack hx (y := (⟨"com/example/headwright/headwright/Diagnostic", "isError", "()Z"⟩ : MethodName)) (z := (⟨"com/example/headwright/headwright/Diagnostic", "isError", "()Z"⟩ : MethodName)) hown118 (mvT hZ118 (hw _ (List.mem_of_getElem? (i := 62) rfl))) (mvT hZ118 (hw _ (List.mem_of_getElem? (i := 63) rfl))) (notFace_of_selects (args := #[]) (mvT hZ118 (hw _ (List.mem_of_getElem? (i := 65) rfl)))) (mvT hZ118 (hw _ (List.mem_of_getElem? (i := 65) rfl))) (mvT hZ118 (hw _ (List.mem_of_getElem? (i := 64) rfl))) (by decide) (backOf (W := 0) (rmie_E l Z a0 hw [] b117 aE T118.heap n0 Z118 r118_3 Od118 S_ERROR) hZ118 (hw _ (List.mem_of_getElem? (i := 66) rfl)) (hw _ (List.mem_of_getElem? (i := 36) rfl)) (by decide) (by decide)) q119a q119c (g := (mkF m 153 #[iv p1, iv p2, iv p3, iv p4, iv (1 : Int32), iv (1 : Int32), iv v6_108, .val .null, rv b109, rv b114, rv aE, rv b117] [(.ref b117)])) rfl (by rw [hml]; rfl) (Steps.refl _) (argsL := []) (rest := []) (lenOf pd__28__29_Z rfl) rfl (by show 2 * 0 + _ ≤ _; exact Nat.le_of_eq rfl) (hb hby at_153) (fun _ _ => ⟨rfl, rfl, (by decide : 8 + 0 ≤ _), (by decide : 216 + 0 ≤ _)⟩)
      dsimp only [Pt.U, Pt.locs, Pt.cells, Pt.slots] at X119 l119 y119 z119 st119 hQ119
      subst l119 y119 z119
      obtain ⟨rfl, Nq119, e119⟩ := hQ119
      refine own_go st119 ?_
      have N119 := Fr.app N118 Nq119
      show own_Fin _ _ _ _ (T119.setTop (mkF m 156 #[iv p1, iv p2, iv p3, iv p4, iv (1 : Int32), iv (1 : Int32), iv v6_108, .val .null, rv b109, rv b114, rv aE, rv b117] [(.int (1 : Int32))]))
      refine own_go (XS.iload X119.here hx rfl (hb hby at_156) rfl (Steps.refl _)) ?_
      show own_Fin _ _ _ _ (T119.setTop (mkF m 158 #[iv p1, iv p2, iv p3, iv p4, iv (1 : Int32), iv (1 : Int32), iv v6_108, .val .null, rv b109, rv b114, rv aE, rv b117] [(.int (1 : Int32)), (.int (1 : Int32))]))
      refine own_go (XS.icmpNo X119.here hx rfl (hb hby at_158) rfl (teq (by decide : (1 : Int32) = (1 : Int32))).2 (Steps.refl _)) ?_
      show own_Fin _ _ _ _ (T119.setTop (mkF m 161 #[iv p1, iv p2, iv p3, iv p4, iv (1 : Int32), iv (1 : Int32), iv v6_108, .val .null, rv b109, rv b114, rv aE, rv b117] []))
      refine own_go (XS.iconst X119.here hx rfl (hb hby at_161) (Steps.refl _)) ?_
      show own_Fin _ _ _ _ (T119.setTop (mkF m 162 #[iv p1, iv p2, iv p3, iv p4, iv (1 : Int32), iv (1 : Int32), iv v6_108, .val .null, rv b109, rv b114, rv aE, rv b117] [(.int (1 : Int32))]))
      refine own_go (XS.goto X119.here hx rfl (pc0 := 162) (pc' := 166) rfl (hb hby at_162) (by decide) (by decide) (Steps.refl _)) ?_
      show own_Fin _ _ _ _ (T119.setTop (mkF m 166 #[iv p1, iv p2, iv p3, iv p4, iv (1 : Int32), iv (1 : Int32), iv v6_108, .val .null, rv b109, rv b114, rv aE, rv b117] [(.int (1 : Int32))]))
      obtain ⟨fs120, hr120, hrun120, hended120, hRW120⟩ := X119.leaveW (s := s) hS118 (n := T118.heap.size) (by rw [e119]; exact hkr118) (v := some (.int (1 : Int32))) (fun h => by rw [Bd.returns] at h; cases h)
      refine own_done (retN X119 hx (t := .boolean) Bd.returns (by simp) (hb hby at_166) hr120) hrun120 hended120 ⟨_, _, rfl, ?_, hRW120.1, hRW120.2.1, hRW120.2.2.1, hRW120.2.2.2.mono (by decide) (by decide)⟩
      show Q0 Z p1 p2 p3 p4 aE aW cs h0 n0 _ T119.heap _
      rw [e119]
      exact ⟨rfl, N119⟩
theorem own_eqI {args : Array Value} {s : State} {a : Term} {k : Int32} (h : (Jvm.Cond.eq a (.int k)).value args s none s [] = some true) : a.eval args s none [] s = some (.int k) := by
  simp only [Cond.value, Term.eval] at h
  cases ha : a.eval args s none [] s with
  | none => simp [ha] at h
  | some x => cases x <;> simp [ha] at h ⊢ <;> exact h
set_option maxRecDepth 65536 in
set_option maxHeartbeats 40000000 in
theorem comes_1 {Post : Tables → Env → Array Value → State → Outcome → State → Prop} (hpost : ∀ tb e args s v u, (limb_1_1.after args s (.returned v) u = true ∧ limb_1_2.after args s (.returned v) u = true ∧ True) → ReturnedEndW s (.returned v) u (Jvm.fieldLocs frame_1_writes args s ++ Jvm.arrayLocs frame_1_arrays args s ++ Jvm.staticLocs frame_1_statics s) 32 2176 → Post tb e args s (.returned v) u) :
    ArmFor flags0 classFile x code maxLocals ret World_1 tables_1 room_1 Calls_1 rest_1 Pre_1 Post := by
  intro l hfl _ _ p e ha hc hk s m args below hf hA hF happ hP
  obtain ⟨hcalls, hrest, hpre⟩ := hP
  obtain ⟨-, -, -, hnamed, -, -, -, hat⟩ := (Spec.applies_iff hf).mp happ
  obtain ⟨hg, hn⟩ := and_e (Cond.before_iff.mp (show (Jvm.Cond.and given_1 narrow_1).before args s = true from hpre))
  obtain ⟨gg1, gg2⟩ := and_e hg
  obtain ⟨gg3, gg4⟩ := and_e gg2
  obtain ⟨gg5, gg6⟩ := and_e gg4
  obtain ⟨gg7, gg8⟩ := and_e gg6
  obtain ⟨w0, w1, w2, w3, rfl⟩ : ∃ w0 w1 w2 w3 : Value, args = #[w0, w1, w2, w3] := by
    have hs : args.size = 4 := by simpa [Cond.value, given_1] using gg1
    obtain ⟨L⟩ := args
    match L, hs with
    | [w0, w1, w2, w3], _ => exact ⟨w0, w1, w2, w3, rfl⟩
  have hw := fun d (hd : d ∈ tables_1) => atoms_spec (ws := Jvm.Cond.code x code maxLocals ret :: tables_1) hat d (List.mem_cons_of_mem _ hd)
  obtain ⟨i0, ei0⟩ := is_v gg3
  obtain rfl : w0 = (.int i0) := Option.some.inj ei0
  obtain ⟨i1, ei1⟩ := is_v gg5
  obtain rfl : w1 = (.int i1) := Option.some.inj ei1
  obtain ⟨i2, ei2⟩ := is_v gg7
  obtain rfl : w2 = (.int i2) := Option.some.inj ei2
  obtain ⟨i3, ei3⟩ := is_v gg8
  obtain rfl : w3 = (.int i3) := Option.some.inj ei3
  have hfit : Fit s := fun {y c} hc i hi => by
    obtain ⟨ha, rfl⟩ := Array.getElem?_eq_some_iff.mp hc
    have q := List.all_eq_true.mp ((Array.all_eq_true_iff_forall_mem.mp hF) _ (Array.getElem_mem ha)) i (List.mem_range.mpr hi)
    simpa [Array.getElem?_eq_getElem hi] using q
  obtain ⟨nw1, nw2⟩ := and_e hn
  obtain ⟨nw3, nw4⟩ := and_e nw2
  obtain ⟨nw5, nw6⟩ := and_e nw4
  obtain ⟨hsets, hown0⟩ := atoms_of _ (rest_1_c_eq ▸ (show rest_1_c.before _ s = true from hrest))
  obtain ⟨aE, evE⟩ := exa_v nw3
  have S_ERROR := Sta.start evE (Or.inr ⟨(hw _ (List.mem_of_getElem? (i := 32) rfl)), (hw _ (List.mem_of_getElem? (i := 68) rfl))⟩)
  have E_aE := Exa.start evE nw3
  have FoE := own_eqI nw6
  rw [fld_at evE] at FoE
  obtain ⟨aW, evW⟩ := exa_v nw1
  have S_WARNING := Sta.start evW (Or.inr ⟨(hw _ (List.mem_of_getElem? (i := 32) rfl)), (hw _ (List.mem_of_getElem? (i := 33) rfl))⟩)
  have E_aW := Exa.start evW nw1
  have FoW := own_eqI nw5
  rw [fld_at evW] at FoW
  obtain ⟨cs, ecs⟩ := is_v (Cond.before_iff.mp (hsets _ (List.mem_of_getElem? (i := 1) rfl)))
  have S_CS := Sta.start ecs (Or.inl (hsets _ (List.mem_of_getElem? (i := 0) rfl)))
  have hcs : ¬ cs = (0 : Int32) := by
    intro q
    subst q
    have h := not_v (Cond.before_iff.mp (hsets _ (List.mem_of_getElem? (i := 2) rfl)))
    have h' := (eq_i ecs (Term.int_eval (0 : Int32)) rfl).symm.trans h
    cases h'
  obtain ⟨n, o, h1, h2, h3, _, L, rfl, ⟨rfl, N⟩, hq⟩ := rm0 l s _ hw tables_1 i0 i1 i2 i3 aE aW cs s.heap s.heap.size (Nat.le_refl _) (Old.start s) S_CS S_ERROR S_WARNING E_aE E_aW (Fld.ne (Fld.start FoW) (Fld.start FoE) (by decide)) hcs rfl p e ha hc hk s m _ below hf ((Spec.applies_iff_loose hf).mp happ).1 ⟨rfl, ⟨State.Warmed39.refl s, rfl⟩, rfl⟩ trivial
  refine ⟨n, _, h1, h2, h3, hpost _ _ _ _ _ _ ⟨Cond.after_iff.mpr rfl, Cond.after_iff.mpr (eq_i res_at (Term.int_eval (1)) rfl), trivial⟩ ⟨hq.1, hq.2.1, hq.2.2.1, (hq.2.2.2.sift fun y hy => Or.inr (N y hy)).mono (by decide) (by decide)⟩⟩
theorem main_1_1 : Claimed_1_1 := comes_1 fun _ _ _ _ _ _ h hF => ⟨h.1, hF⟩
theorem main_1_2 : Claimed_1_2 := comes_1 fun _ _ _ _ _ _ h hF => ⟨h.2.1, hF⟩
end Jvm.Pilot.@@N@@
namespace Jvm.Pilot.@@N@@
open Jvm Jvm.ClassFile Sem Op Lib Jvm.Free Jvm.Stand Jvm.Pilot.@@N@@.Jvm.D
/-! MADE BY PROGRAM (witnessworld.py) out of the Statement's table words and the real class files: 24 classes; the members and pool entries that the words name. The judged class is class 1, her method 1. -/
namespace start1
open Jvm.ClassFile
def u (s : String) : CpInfo := .utf8 (stringToUtf16 s)
/-- a pool by its gaps: so many unusable entries, then the entry; so many at the end -/
def gap : Nat → List CpInfo → List CpInfo
  | 0, r => r
  | n + 1, r => .unusable :: gap n r
def poolList (es : List (Nat × CpInfo)) (last : Nat) : List CpInfo := es.foldr (fun e r => gap e.1 (e.2 :: r)) (gap last [])
def pool (es : List (Nat × CpInfo)) (last : Nat) : Array CpInfo := ⟨poolList es last⟩
def fileOf (pool : Array CpInfo) (this : Nat) (attrs : Array Attribute := #[]) (ms : Array MethodInfo := #[]) (fl : Nat := 33) (sup : Nat := 0) (ifs : Array Nat := #[]) (fds : Array FieldInfo := #[]) : ClassFile where
  minorVersion := 0
  majorVersion := 65
  constantPool := pool
  accessFlags := fl
  thisClass := this
  superClass := sup
  interfaces := ifs
  fields := fds
  methods := ms
  attributes := attrs
def plain (name : String) (sup : Option ClassId) : Class where
  name := name
  kind := .ordinary
  loader := none
  accessFlags := 33
  super := sup
  interfaces := #[]
  cf := none
  fields := #[]
  methods := #[]
  instanceTypes := #[]
  staticTypes := #[]
  resolved := #[]
  callSites := []
  init := .initialized
  statics := none
  mirror := none

def pool0 : Array CpInfo := pool [(5, u "<init>"), (0, u "()V"), (1, .class_ 10), (1, u "java/lang/Object")] 113

def k0c0 : Code := { maxStack := 0, maxLocals := 1, code := object_method_1_code, exceptionTable := #[], attributes := #[] }
def k0m0 : Method := { name := "<init>", desc := "()V", sig := { parameters := [], returnType := none }, accessFlags := 1, code := some k0c0 }
/-- java/lang/Object -/
def k0 : Class := { plain "java/lang/Object" none with
  accessFlags := 33
  interfaces := #[]
  cf := some (fileOf pool0 8 #[] #[{ accessFlags := 1, nameIndex := 5, descriptorIndex := 6, attributes := #[] }] 33 0 #[] #[])
  fields := #[]
  methods := #[k0m0]
  instanceTypes := #[]
  staticTypes := #[]
  resolved := Array.replicate 124 none
  statics := none }

def pool1 : Array CpInfo := pool [(2, .class_ 4), (1, u "java/lang/Object"), (0, u "<init>"), (0, u "()V"), (0, .integer 2147483647), (0, .class_ 9), (0, u "java/lang/String"), (0, .methodref 8 11), (0, .nameAndType 5 12), (0, u "([C)V"), (0, .fieldref 14 15), (0, .class_ 16), (0, .nameAndType 17 18), (0, u "com/example/headwright/headwright/Diagnostic$Severity"), (0, u "ERROR"), (0, u "Lcom/example/headwright/headwright/Diagnostic$Severity;"), (0, .fieldref 14 20), (0, .nameAndType 21 18), (0, u "WARNING"), (0, .class_ 23), (0, u "com/example/headwright/headwright/Diagnostic"), (0, .methodref 22 25), (0, .nameAndType 5 26), (0, u "(Ljava/lang/String;ILcom/example/headwright/headwright/Diagnostic$Severity;Ljava/lang/String;)V"), (0, .methodref 22 28), (0, .nameAndType 29 30), (0, u "isError"), (0, u "()Z"), (0, .class_ 32), (0, u "com/example/headwright/headwright/DiagnosticIsErrorPinLaw"), (2, u "law"), (0, u "(IIII)Z")] 7

def k1m0 : Method := { name := "<init>", desc := "()V", sig := { parameters := [], returnType := none }, accessFlags := 2, code := none }
def k1c1 : Code := { maxStack := 6, maxLocals := 12, code := code, exceptionTable := #[], attributes := #[] }
def k1m1 : Method := { name := "law", desc := "(IIII)Z", sig := { parameters := [.int, .int, .int, .int], returnType := some .boolean }, accessFlags := 9, code := some k1c1 }
/-- com/example/headwright/headwright/DiagnosticIsErrorPinLaw -/
def k1 : Class := { plain "com/example/headwright/headwright/DiagnosticIsErrorPinLaw" (some 0) with
  accessFlags := 49
  interfaces := #[]
  cf := some (fileOf pool1 31 #[] #[{ accessFlags := 2, nameIndex := 5, descriptorIndex := 6, attributes := #[] }, { accessFlags := 9, nameIndex := 35, descriptorIndex := 36, attributes := #[] }] 49 2 #[] #[])
  fields := #[]
  methods := #[k1m0, k1m1]
  instanceTypes := #[]
  staticTypes := #[]
  resolved := Array.replicate 44 none
  statics := none }

def pool2 : Array CpInfo := pool [(1, .class_ 2), (0, u "java/io/Serializable"), (0, .class_ 4), (0, u "java/lang/Object")] 2

/-- java/io/Serializable -/
def k2 : Class := { plain "java/io/Serializable" (some 0) with
  accessFlags := 1537
  interfaces := #[]
  cf := some (fileOf pool2 1 #[] #[] 1537 3 #[] #[])
  fields := #[]
  methods := #[]
  instanceTypes := #[]
  staticTypes := #[]
  resolved := Array.replicate 7 none
  statics := none }

def pool3 : Array CpInfo := pool [(1, .class_ 2), (0, u "java/lang/Comparable"), (0, .class_ 4), (0, u "java/lang/Object")] 7

/-- java/lang/Comparable -/
def k3 : Class := { plain "java/lang/Comparable" (some 0) with
  accessFlags := 1537
  interfaces := #[]
  cf := some (fileOf pool3 1 #[] #[] 1537 3 #[] #[])
  fields := #[]
  methods := #[]
  instanceTypes := #[]
  staticTypes := #[]
  resolved := Array.replicate 12 none
  statics := none }

def pool4 : Array CpInfo := pool [(2, .class_ 4), (1, u "java/lang/CharSequence"), (42, .class_ 48), (0, u "java/lang/CharSequence$1CodePointIterator"), (10, .class_ 60), (0, u "java/lang/CharSequence$1CharIterator"), (5, .class_ 67), (0, u "java/lang/Object")] 63

/-- java/lang/CharSequence -/
def k4 : Class := { plain "java/lang/CharSequence" (some 0) with
  accessFlags := 1537
  interfaces := #[]
  cf := some (fileOf pool4 2 #[.nestMembers #[47, 59]] #[] 1537 66 #[] #[])
  fields := #[]
  methods := #[]
  instanceTypes := #[]
  staticTypes := #[]
  resolved := Array.replicate 131 none
  statics := none }

def pool5 : Array CpInfo := pool [(1, .class_ 2), (0, u "java/lang/constant/Constable"), (0, .class_ 4), (0, u "java/lang/Object")] 6

/-- java/lang/constant/Constable -/
def k5 : Class := { plain "java/lang/constant/Constable" (some 0) with
  accessFlags := 1537
  interfaces := #[]
  cf := some (fileOf pool5 1 #[] #[] 1537 3 #[] #[])
  fields := #[]
  methods := #[]
  instanceTypes := #[]
  staticTypes := #[]
  resolved := Array.replicate 11 none
  statics := none }

def pool6 : Array CpInfo := pool [(1, .class_ 2), (0, u "java/lang/constant/ConstantDesc"), (0, .class_ 4), (0, u "java/lang/Object")] 32

/-- java/lang/constant/ConstantDesc -/
def k6 : Class := { plain "java/lang/constant/ConstantDesc" (some 0) with
  accessFlags := 1537
  interfaces := #[]
  cf := some (fileOf pool6 1 #[] #[] 1537 3 #[] #[])
  fields := #[]
  methods := #[]
  instanceTypes := #[]
  staticTypes := #[]
  resolved := Array.replicate 37 none
  statics := none }

def pool7 : Array CpInfo := pool [(1, .methodref 2 3), (0, .class_ 4), (0, .nameAndType 5 6), (0, u "java/lang/Object"), (0, u "<init>"), (0, u "()V"), (2, .fieldref 10 11), (0, .class_ 12), (0, .nameAndType 13 14), (0, u "java/lang/String"), (0, u "value"), (0, u "[B"), (0, .fieldref 10 16), (0, .nameAndType 17 18), (0, u "coder"), (0, u "B"), (2, u "hash"), (0, u "I"), (2, u "hashIsZero"), (0, u "Z"), (0, .methodref 10 28), (0, .nameAndType 5 29), (0, u "([CIILjava/lang/Void;)V"), (8, .fieldref 10 39), (0, .nameAndType 40 26), (0, u "COMPACT_STRINGS"), (1, .class_ 44), (1, u "java/lang/StringUTF16"), (0, u "compress"), (1, .methodref 42 48), (0, .nameAndType 49 50), (0, u "coderFromArrayLen"), (0, u "([BI)B"), (126, .methodref 42 178), (0, .nameAndType 45 179), (0, u "([CII)[B"), (395, .class_ 576), (0, u "java/lang/CharSequence"), (22, u "CASE_INSENSITIVE_ORDER"), (0, u "Ljava/util/Comparator;"), (409, u "([C)V"), (90, u "serialPersistentFields"), (0, u "[Ljava/io/ObjectStreamField;"), (0, .class_ 1104), (0, u "java/lang/String$CaseInsensitiveComparator"), (1, .class_ 1107), (0, u "java/io/Serializable"), (0, .class_ 1109), (0, u "java/lang/Comparable"), (0, .class_ 1111), (0, u "java/lang/constant/Constable"), (0, .class_ 1113), (0, u "java/lang/constant/ConstantDesc"), (2, u "serialVersionUID"), (0, u "J"), (3, u "REPL"), (0, u "C"), (2, u "LATIN1"), (1, u "UTF16")] 323

def k7m0 : Method := { name := "<init>", desc := "()V", sig := { parameters := [], returnType := none }, accessFlags := 1, code := none }
def k7c1 : Code := { maxStack := 5, maxLocals := 2, code := jdk_42_method_3_code, exceptionTable := #[], attributes := #[] }
def k7m1 : Method := { name := "<init>", desc := "([C)V", sig := { parameters := [(.array .char)], returnType := none }, accessFlags := 1, code := some k7c1 }
def k7c2 : Code := { maxStack := 4, maxLocals := 6, code := jdk_42_method_149_code, exceptionTable := #[], attributes := #[] }
def k7m2 : Method := { name := "<init>", desc := "([CIILjava/lang/Void;)V", sig := { parameters := [(.array .char), .int, .int, (.object "java/lang/Void")], returnType := none }, accessFlags := 2, code := some k7c2 }
/-- java/lang/String -/
def k7 : Class := { plain "java/lang/String" (some 0) with
  accessFlags := 49
  interfaces := #[2, 3, 4, 5, 6]
  cf := some (fileOf pool7 10 #[.nestMembers #[1103]] #[{ accessFlags := 1, nameIndex := 5, descriptorIndex := 6, attributes := #[] }, { accessFlags := 1, nameIndex := 5, descriptorIndex := 1010, attributes := #[] }, { accessFlags := 2, nameIndex := 5, descriptorIndex := 29, attributes := #[] }] 49 2 #[1106, 1108, 575, 1110, 1112] #[{ accessFlags := 18, nameIndex := 13, descriptorIndex := 14, attributes := #[] }, { accessFlags := 18, nameIndex := 17, descriptorIndex := 18, attributes := #[] }, { accessFlags := 2, nameIndex := 21, descriptorIndex := 22, attributes := #[] }, { accessFlags := 2, nameIndex := 25, descriptorIndex := 26, attributes := #[] }, { accessFlags := 26, nameIndex := 1116, descriptorIndex := 1117, attributes := #[] }, { accessFlags := 24, nameIndex := 40, descriptorIndex := 26, attributes := #[] }, { accessFlags := 26, nameIndex := 1101, descriptorIndex := 1102, attributes := #[] }, { accessFlags := 26, nameIndex := 1121, descriptorIndex := 1122, attributes := #[] }, { accessFlags := 25, nameIndex := 599, descriptorIndex := 600, attributes := #[] }, { accessFlags := 24, nameIndex := 1125, descriptorIndex := 18, attributes := #[] }, { accessFlags := 24, nameIndex := 1127, descriptorIndex := 18, attributes := #[] }])
  fields := #[{ name := "value", type := (.array .byte), accessFlags := 18, slot := 0, constantValue := 0 }, { name := "coder", type := .byte, accessFlags := 18, slot := 1, constantValue := 0 }, { name := "hash", type := .int, accessFlags := 2, slot := 2, constantValue := 0 }, { name := "hashIsZero", type := .boolean, accessFlags := 2, slot := 3, constantValue := 0 }, { name := "serialVersionUID", type := .long, accessFlags := 26, slot := 0, constantValue := 0 }, { name := "COMPACT_STRINGS", type := .boolean, accessFlags := 24, slot := 1, constantValue := 0 }, { name := "serialPersistentFields", type := (.array (.object "java/io/ObjectStreamField")), accessFlags := 26, slot := 2, constantValue := 0 }, { name := "REPL", type := .char, accessFlags := 26, slot := 3, constantValue := 0 }, { name := "CASE_INSENSITIVE_ORDER", type := (.object "java/util/Comparator"), accessFlags := 25, slot := 4, constantValue := 0 }, { name := "LATIN1", type := .byte, accessFlags := 24, slot := 5, constantValue := 0 }, { name := "UTF16", type := .byte, accessFlags := 24, slot := 6, constantValue := 0 }]
  methods := #[k7m0, k7m1, k7m2]
  instanceTypes := #[(.array .byte), .byte, .int, .boolean]
  staticTypes := #[.long, .boolean, (.array (.object "java/io/ObjectStreamField")), .char, (.object "java/util/Comparator"), .byte, .byte]
  resolved := Array.replicate 1451 none
  statics := some 0 }

def pool8 : Array CpInfo := pool [(6, .class_ 8), (1, u "java/lang/Object"), (0, u "<init>"), (0, u "()V"), (1, .class_ 14), (1, u "java/lang/StringUTF16"), (31, u "$assertionsDisabled"), (0, u "Z"), (13, u "HI_BYTE_SHIFT"), (0, u "I"), (2, u "LO_BYTE_SHIFT"), (49, .methodref 12 116), (0, .nameAndType 117 118), (0, u "compress"), (0, u "([CI[BII)I"), (3, u "([CII)[B"), (138, u "coderFromArrayLen"), (0, u "([BI)B"), (106, .class_ 371), (1, u "java/lang/StringUTF16$LinesSpliterator"), (58, u "MAX_LENGTH"), (196, .class_ 628), (0, u "java/lang/StringUTF16$CodePointsSpliterator"), (0, .class_ 630), (0, u "java/lang/StringUTF16$CharsSpliterator")] 4

def k8m0 : Method := { name := "<init>", desc := "()V", sig := { parameters := [], returnType := none }, accessFlags := 0, code := none }
def k8c1 : Code := { maxStack := 2, maxLocals := 2, code := jdk_52_method_15_code, exceptionTable := #[], attributes := #[] }
def k8m1 : Method := { name := "coderFromArrayLen", desc := "([BI)B", sig := { parameters := [(.array .byte), .int], returnType := some .byte }, accessFlags := 8, code := some k8c1 }
def k8c2 : Code := { maxStack := 5, maxLocals := 6, code := jdk_52_method_16_code, exceptionTable := #[], attributes := #[] }
def k8m2 : Method := { name := "compress", desc := "([CII)[B", sig := { parameters := [(.array .char), .int, .int], returnType := some (.array .byte) }, accessFlags := 9, code := some k8c2 }
def k8c3 : Code := { maxStack := 3, maxLocals := 7, code := jdk_52_method_21_code, exceptionTable := #[], attributes := #[] }
def k8m3 : Method := { name := "compress", desc := "([CI[BII)I", sig := { parameters := [(.array .char), .int, (.array .byte), .int, .int], returnType := some .int }, accessFlags := 9, code := some k8c3 }
/-- java/lang/StringUTF16 -/
def k8 : Class := { plain "java/lang/StringUTF16" (some 0) with
  accessFlags := 48
  interfaces := #[]
  cf := some (fileOf pool8 12 #[.nestMembers #[627, 629, 369]] #[{ accessFlags := 0, nameIndex := 9, descriptorIndex := 10, attributes := #[] }, { accessFlags := 8, nameIndex := 261, descriptorIndex := 262, attributes := #[] }, { accessFlags := 9, nameIndex := 117, descriptorIndex := 122, attributes := #[] }, { accessFlags := 9, nameIndex := 117, descriptorIndex := 118, attributes := #[] }] 48 6 #[] #[{ accessFlags := 26, nameIndex := 61, descriptorIndex := 62, attributes := #[] }, { accessFlags := 26, nameIndex := 65, descriptorIndex := 62, attributes := #[] }, { accessFlags := 24, nameIndex := 430, descriptorIndex := 62, attributes := #[] }, { accessFlags := 4120, nameIndex := 46, descriptorIndex := 47, attributes := #[] }])
  fields := #[{ name := "HI_BYTE_SHIFT", type := .int, accessFlags := 26, slot := 0, constantValue := 0 }, { name := "LO_BYTE_SHIFT", type := .int, accessFlags := 26, slot := 1, constantValue := 0 }, { name := "MAX_LENGTH", type := .int, accessFlags := 24, slot := 2, constantValue := 0 }, { name := "$assertionsDisabled", type := .boolean, accessFlags := 4120, slot := 3, constantValue := 0 }]
  methods := #[k8m0, k8m1, k8m2, k8m3]
  instanceTypes := #[]
  staticTypes := #[.int, .int, .int, .boolean]
  resolved := Array.replicate 635 none
  statics := none }

def pool9 : Array CpInfo := pool [(2, .class_ 4), (1, u "java/lang/Enum"), (0, u "name"), (0, u "Ljava/lang/String;"), (2, u "ordinal"), (0, u "I"), (1, .class_ 14), (1, u "java/lang/Object"), (4, u "hash"), (86, .class_ 108), (1, u "java/lang/Enum$EnumDesc"), (2, .class_ 112), (0, u "java/lang/constant/Constable"), (0, .class_ 114), (0, u "java/lang/Comparable"), (0, .class_ 116), (0, u "java/io/Serializable")] 87

/-- java/lang/Enum -/
def k9 : Class := { plain "java/lang/Enum" (some 0) with
  accessFlags := 1057
  interfaces := #[5, 3, 2]
  cf := some (fileOf pool9 2 #[.nestMembers #[106]] #[] 1057 12 #[111, 113, 115] #[{ accessFlags := 18, nameIndex := 5, descriptorIndex := 6, attributes := #[] }, { accessFlags := 18, nameIndex := 9, descriptorIndex := 10, attributes := #[] }, { accessFlags := 2, nameIndex := 19, descriptorIndex := 10, attributes := #[] }])
  fields := #[{ name := "name", type := (.object "java/lang/String"), accessFlags := 18, slot := 0, constantValue := 0 }, { name := "ordinal", type := .int, accessFlags := 18, slot := 1, constantValue := 0 }, { name := "hash", type := .int, accessFlags := 2, slot := 2, constantValue := 0 }]
  methods := #[]
  instanceTypes := #[(.object "java/lang/String"), .int, .int]
  staticTypes := #[]
  resolved := Array.replicate 204 none
  statics := none }

def pool10 : Array CpInfo := pool [(1, .class_ 2), (0, u "com/example/headwright/headwright/Diagnostic$Severity"), (2, u "ERROR"), (0, u "Lcom/example/headwright/headwright/Diagnostic$Severity;"), (2, u "WARNING"), (2, u "$VALUES"), (0, u "[Lcom/example/headwright/headwright/Diagnostic$Severity;"), (6, .class_ 22), (1, u "java/lang/Enum"), (8, u "label"), (0, u "Ljava/lang/String;"), (28, .class_ 62), (0, u "com/example/headwright/headwright/Diagnostic")] 2

/-- com/example/headwright/headwright/Diagnostic$Severity -/
def k10 : Class := { plain "com/example/headwright/headwright/Diagnostic$Severity" (some 9) with
  accessFlags := 16433
  interfaces := #[]
  cf := some (fileOf pool10 1 #[.nestHost 61] #[] 16433 20 #[] #[{ accessFlags := 16409, nameIndex := 5, descriptorIndex := 6, attributes := #[] }, { accessFlags := 16409, nameIndex := 9, descriptorIndex := 6, attributes := #[] }, { accessFlags := 18, nameIndex := 31, descriptorIndex := 32, attributes := #[] }, { accessFlags := 4122, nameIndex := 12, descriptorIndex := 13, attributes := #[] }])
  fields := #[{ name := "ERROR", type := (.object "com/example/headwright/headwright/Diagnostic$Severity"), accessFlags := 16409, slot := 0, constantValue := 0 }, { name := "WARNING", type := (.object "com/example/headwright/headwright/Diagnostic$Severity"), accessFlags := 16409, slot := 1, constantValue := 0 }, { name := "label", type := (.object "java/lang/String"), accessFlags := 18, slot := 3, constantValue := 0 }, { name := "$VALUES", type := (.array (.object "com/example/headwright/headwright/Diagnostic$Severity")), accessFlags := 4122, slot := 2, constantValue := 0 }]
  methods := #[]
  instanceTypes := #[(.object "java/lang/String"), .int, .int, (.object "java/lang/String")]
  staticTypes := #[(.object "com/example/headwright/headwright/Diagnostic$Severity"), (.object "com/example/headwright/headwright/Diagnostic$Severity"), (.array (.object "com/example/headwright/headwright/Diagnostic$Severity"))]
  resolved := Array.replicate 65 none
  statics := some 1 }

def pool11 : Array CpInfo := pool [(1, .methodref 2 3), (0, .class_ 4), (0, .nameAndType 5 6), (0, u "java/lang/Object"), (0, u "<init>"), (0, u "()V"), (0, .class_ 8), (0, u "java/lang/Record")] 13

def k11c0 : Code := { maxStack := 1, maxLocals := 1, code := jdk_30_method_1_code, exceptionTable := #[], attributes := #[] }
def k11m0 : Method := { name := "<init>", desc := "()V", sig := { parameters := [], returnType := none }, accessFlags := 4, code := some k11c0 }
/-- java/lang/Record -/
def k11 : Class := { plain "java/lang/Record" (some 0) with
  accessFlags := 1057
  interfaces := #[]
  cf := some (fileOf pool11 7 #[] #[{ accessFlags := 4, nameIndex := 5, descriptorIndex := 6, attributes := #[] }] 1057 2 #[] #[])
  fields := #[]
  methods := #[k11m0]
  instanceTypes := #[]
  staticTypes := #[]
  resolved := Array.replicate 22 none
  statics := none }

def pool12 : Array CpInfo := pool [(1, .methodref 2 3), (0, .class_ 4), (0, .nameAndType 5 6), (0, u "java/lang/Record"), (0, u "<init>"), (0, u "()V"), (0, .string 8), (0, u "severity must not be null"), (0, .methodref 10 11), (0, .class_ 12), (0, .nameAndType 13 14), (0, u "java/util/Objects"), (0, u "requireNonNull"), (0, u "(Ljava/lang/Object;Ljava/lang/String;)Ljava/lang/Object;"), (0, .string 16), (0, u "message must not be null"), (7, .fieldref 25 26), (0, .class_ 27), (0, .nameAndType 28 29), (0, u "com/example/headwright/headwright/Diagnostic"), (0, u "file"), (0, u "Ljava/lang/String;"), (0, .fieldref 25 31), (0, .nameAndType 32 33), (0, u "line"), (0, u "I"), (0, .fieldref 25 35), (0, .nameAndType 36 37), (0, u "severity"), (0, u "Lcom/example/headwright/headwright/Diagnostic$Severity;"), (0, .fieldref 25 39), (0, .nameAndType 40 29), (0, u "message"), (0, .fieldref 42 43), (0, .class_ 44), (0, .nameAndType 45 37), (0, u "com/example/headwright/headwright/Diagnostic$Severity"), (0, u "ERROR"), (2, u "(Ljava/lang/String;ILcom/example/headwright/headwright/Diagnostic$Severity;Ljava/lang/String;)V"), (36, u "isError"), (0, u "()Z")] 42

def k12c0 : Code := { maxStack := 3, maxLocals := 5, code := prog_6_method_1_code, exceptionTable := #[], attributes := #[] }
def k12m0 : Method := { name := "<init>", desc := "(Ljava/lang/String;ILcom/example/headwright/headwright/Diagnostic$Severity;Ljava/lang/String;)V", sig := { parameters := [(.object "java/lang/String"), .int, (.object "com/example/headwright/headwright/Diagnostic$Severity"), (.object "java/lang/String")], returnType := none }, accessFlags := 1, code := some k12c0 }
def k12c1 : Code := { maxStack := 2, maxLocals := 1, code := prog_6_method_4_code, exceptionTable := #[], attributes := #[] }
def k12m1 : Method := { name := "isError", desc := "()Z", sig := { parameters := [], returnType := some .boolean }, accessFlags := 1, code := some k12c1 }
/-- com/example/headwright/headwright/Diagnostic -/
def k12 : Class := { plain "com/example/headwright/headwright/Diagnostic" (some 11) with
  accessFlags := 49
  interfaces := #[]
  cf := some (fileOf pool12 25 #[.nestMembers #[42]] #[{ accessFlags := 1, nameIndex := 5, descriptorIndex := 48, attributes := #[] }, { accessFlags := 1, nameIndex := 85, descriptorIndex := 86, attributes := #[] }] 49 2 #[] #[{ accessFlags := 18, nameIndex := 28, descriptorIndex := 29, attributes := #[] }, { accessFlags := 18, nameIndex := 32, descriptorIndex := 33, attributes := #[] }, { accessFlags := 18, nameIndex := 36, descriptorIndex := 37, attributes := #[] }, { accessFlags := 18, nameIndex := 40, descriptorIndex := 29, attributes := #[] }])
  fields := #[{ name := "file", type := (.object "java/lang/String"), accessFlags := 18, slot := 0, constantValue := 0 }, { name := "line", type := .int, accessFlags := 18, slot := 1, constantValue := 0 }, { name := "severity", type := (.object "com/example/headwright/headwright/Diagnostic$Severity"), accessFlags := 18, slot := 2, constantValue := 0 }, { name := "message", type := (.object "java/lang/String"), accessFlags := 18, slot := 3, constantValue := 0 }]
  methods := #[k12m0, k12m1]
  instanceTypes := #[(.object "java/lang/String"), .int, (.object "com/example/headwright/headwright/Diagnostic$Severity"), (.object "java/lang/String")]
  staticTypes := #[]
  resolved := Array.replicate 129 none
  statics := none }

def pool13 : Array CpInfo := pool [(2, .class_ 4), (1, u "java/lang/Object"), (0, u "<init>"), (0, u "()V"), (35, .class_ 44), (1, u "java/util/Objects"), (0, u "requireNonNull"), (48, u "(Ljava/lang/Object;Ljava/lang/String;)Ljava/lang/Object;")] 89

def k13m0 : Method := { name := "<init>", desc := "()V", sig := { parameters := [], returnType := none }, accessFlags := 2, code := none }
def k13c1 : Code := { maxStack := 3, maxLocals := 2, code := jdk_31_method_11_code, exceptionTable := #[], attributes := #[] }
def k13m1 : Method := { name := "requireNonNull", desc := "(Ljava/lang/Object;Ljava/lang/String;)Ljava/lang/Object;", sig := { parameters := [(.object "java/lang/Object"), (.object "java/lang/String")], returnType := some (.object "java/lang/Object") }, accessFlags := 9, code := some k13c1 }
/-- java/util/Objects -/
def k13 : Class := { plain "java/util/Objects" (some 0) with
  accessFlags := 49
  interfaces := #[]
  cf := some (fileOf pool13 42 #[] #[{ accessFlags := 2, nameIndex := 5, descriptorIndex := 6, attributes := #[] }, { accessFlags := 9, nameIndex := 45, descriptorIndex := 94, attributes := #[] }] 49 2 #[] #[])
  fields := #[]
  methods := #[k13m0, k13m1]
  instanceTypes := #[]
  staticTypes := #[]
  resolved := Array.replicate 184 none
  statics := none }

def pool14 : Array CpInfo := pool [(4, .class_ 6), (1, u "java/lang/Object"), (0, u "<init>"), (0, u "()V"), (5, .class_ 16), (1, u "java/lang/StringLatin1"), (104, u "$assertionsDisabled"), (0, u "Z"), (98, .class_ 223), (1, u "java/lang/StringLatin1$LinesSpliterator"), (166, .class_ 391), (0, u "java/lang/StringLatin1$CharsSpliterator")] 3

def k14m0 : Method := { name := "<init>", desc := "()V", sig := { parameters := [], returnType := none }, accessFlags := 0, code := none }
/-- java/lang/StringLatin1 -/
def k14 : Class := { plain "java/lang/StringLatin1" (some 0) with
  accessFlags := 48
  interfaces := #[]
  cf := some (fileOf pool14 14 #[.nestMembers #[390, 221]] #[{ accessFlags := 0, nameIndex := 7, descriptorIndex := 8, attributes := #[] }] 48 4 #[] #[{ accessFlags := 4120, nameIndex := 121, descriptorIndex := 122, attributes := #[] }])
  fields := #[{ name := "$assertionsDisabled", type := .boolean, accessFlags := 4120, slot := 0, constantValue := 0 }]
  methods := #[k14m0]
  instanceTypes := #[]
  staticTypes := #[.boolean]
  resolved := Array.replicate 395 none
  statics := none }

def pool15 : Array CpInfo := pool [(2, .class_ 4), (1, u "java/lang/Object"), (0, u "<init>"), (0, u "()V"), (17, .class_ 26), (1, u "jdk/internal/util/Preconditions"), (28, .class_ 56), (0, u "jdk/internal/util/Preconditions$4"), (57, .class_ 115), (0, u "jdk/internal/util/Preconditions$1"), (7, u "SIOOBE_FORMATTER"), (0, u "Ljava/util/function/BiFunction;"), (0, .class_ 126), (0, u "jdk/internal/util/Preconditions$2"), (3, u "AIOOBE_FORMATTER"), (0, .class_ 132), (0, u "jdk/internal/util/Preconditions$3"), (3, u "IOOBE_FORMATTER")] 57

def k15m0 : Method := { name := "<init>", desc := "()V", sig := { parameters := [], returnType := none }, accessFlags := 1, code := none }
/-- jdk/internal/util/Preconditions -/
def k15 : Class := { plain "jdk/internal/util/Preconditions" (some 0) with
  accessFlags := 33
  interfaces := #[]
  cf := some (fileOf pool15 24 #[.nestMembers #[55, 131, 125, 114]] #[{ accessFlags := 1, nameIndex := 5, descriptorIndex := 6, attributes := #[] }] 33 2 #[] #[{ accessFlags := 25, nameIndex := 123, descriptorIndex := 124, attributes := #[] }, { accessFlags := 25, nameIndex := 130, descriptorIndex := 124, attributes := #[] }, { accessFlags := 25, nameIndex := 136, descriptorIndex := 124, attributes := #[] }])
  fields := #[{ name := "SIOOBE_FORMATTER", type := (.object "java/util/function/BiFunction"), accessFlags := 25, slot := 0, constantValue := 0 }, { name := "AIOOBE_FORMATTER", type := (.object "java/util/function/BiFunction"), accessFlags := 25, slot := 1, constantValue := 0 }, { name := "IOOBE_FORMATTER", type := (.object "java/util/function/BiFunction"), accessFlags := 25, slot := 2, constantValue := 0 }]
  methods := #[k15m0]
  instanceTypes := #[]
  staticTypes := #[(.object "java/util/function/BiFunction"), (.object "java/util/function/BiFunction"), (.object "java/util/function/BiFunction")]
  resolved := Array.replicate 194 none
  statics := some 2 }

def pool16 : Array CpInfo := pool [(9, u "<init>"), (6, .class_ 18), (1, u "java/lang/Object"), (0, u "()V"), (1, .class_ 23), (1, u "jdk/internal/util/ArraysSupport"), (0, u "LOG2_ARRAY_LONG_INDEX_SCALE"), (0, u "I"), (2, u "U"), (0, u "Ljdk/internal/misc/Unsafe;"), (8, u "BIG_ENDIAN"), (0, u "Z"), (8, u "LOG2_BYTE_BIT_SIZE"), (4, u "LOG2_ARRAY_INT_INDEX_SCALE"), (54, u "JLA"), (0, u "Ljdk/internal/access/JavaLangAccess;"), (11, u "LOG2_ARRAY_BOOLEAN_INDEX_SCALE"), (9, u "LOG2_ARRAY_BYTE_INDEX_SCALE"), (5, u "LOG2_ARRAY_CHAR_INDEX_SCALE"), (5, u "LOG2_ARRAY_SHORT_INDEX_SCALE"), (18, u "LOG2_ARRAY_FLOAT_INDEX_SCALE"), (24, u "LOG2_ARRAY_DOUBLE_INDEX_SCALE"), (89, u "T_BOOLEAN"), (2, u "T_CHAR"), (1, u "T_FLOAT"), (1, u "T_DOUBLE"), (1, u "T_BYTE"), (1, u "T_SHORT"), (1, u "T_INT"), (1, u "T_LONG"), (1, u "SOFT_MAX_ARRAY_LENGTH")] 83

def k16m0 : Method := { name := "<init>", desc := "()V", sig := { parameters := [], returnType := none }, accessFlags := 2, code := none }
/-- jdk/internal/util/ArraysSupport -/
def k16 : Class := { plain "jdk/internal/util/ArraysSupport" (some 0) with
  accessFlags := 33
  interfaces := #[]
  cf := some (fileOf pool16 21 #[] #[{ accessFlags := 2, nameIndex := 9, descriptorIndex := 19, attributes := #[] }] 33 16 #[] #[{ accessFlags := 24, nameIndex := 28, descriptorIndex := 29, attributes := #[] }, { accessFlags := 26, nameIndex := 38, descriptorIndex := 39, attributes := #[] }, { accessFlags := 25, nameIndex := 121, descriptorIndex := 25, attributes := #[] }, { accessFlags := 25, nameIndex := 131, descriptorIndex := 25, attributes := #[] }, { accessFlags := 25, nameIndex := 137, descriptorIndex := 25, attributes := #[] }, { accessFlags := 25, nameIndex := 143, descriptorIndex := 25, attributes := #[] }, { accessFlags := 25, nameIndex := 53, descriptorIndex := 25, attributes := #[] }, { accessFlags := 25, nameIndex := 24, descriptorIndex := 25, attributes := #[] }, { accessFlags := 25, nameIndex := 162, descriptorIndex := 25, attributes := #[] }, { accessFlags := 25, nameIndex := 187, descriptorIndex := 25, attributes := #[] }, { accessFlags := 26, nameIndex := 48, descriptorIndex := 25, attributes := #[] }, { accessFlags := 25, nameIndex := 277, descriptorIndex := 25, attributes := #[] }, { accessFlags := 25, nameIndex := 280, descriptorIndex := 25, attributes := #[] }, { accessFlags := 25, nameIndex := 282, descriptorIndex := 25, attributes := #[] }, { accessFlags := 25, nameIndex := 284, descriptorIndex := 25, attributes := #[] }, { accessFlags := 25, nameIndex := 286, descriptorIndex := 25, attributes := #[] }, { accessFlags := 25, nameIndex := 288, descriptorIndex := 25, attributes := #[] }, { accessFlags := 25, nameIndex := 290, descriptorIndex := 25, attributes := #[] }, { accessFlags := 25, nameIndex := 292, descriptorIndex := 25, attributes := #[] }, { accessFlags := 26, nameIndex := 108, descriptorIndex := 109, attributes := #[] }, { accessFlags := 25, nameIndex := 294, descriptorIndex := 25, attributes := #[] }])
  fields := #[{ name := "U", type := (.object "jdk/internal/misc/Unsafe"), accessFlags := 24, slot := 0, constantValue := 0 }, { name := "BIG_ENDIAN", type := .boolean, accessFlags := 26, slot := 1, constantValue := 0 }, { name := "LOG2_ARRAY_BOOLEAN_INDEX_SCALE", type := .int, accessFlags := 25, slot := 2, constantValue := 0 }, { name := "LOG2_ARRAY_BYTE_INDEX_SCALE", type := .int, accessFlags := 25, slot := 3, constantValue := 0 }, { name := "LOG2_ARRAY_CHAR_INDEX_SCALE", type := .int, accessFlags := 25, slot := 4, constantValue := 0 }, { name := "LOG2_ARRAY_SHORT_INDEX_SCALE", type := .int, accessFlags := 25, slot := 5, constantValue := 0 }, { name := "LOG2_ARRAY_INT_INDEX_SCALE", type := .int, accessFlags := 25, slot := 6, constantValue := 0 }, { name := "LOG2_ARRAY_LONG_INDEX_SCALE", type := .int, accessFlags := 25, slot := 7, constantValue := 0 }, { name := "LOG2_ARRAY_FLOAT_INDEX_SCALE", type := .int, accessFlags := 25, slot := 8, constantValue := 0 }, { name := "LOG2_ARRAY_DOUBLE_INDEX_SCALE", type := .int, accessFlags := 25, slot := 9, constantValue := 0 }, { name := "LOG2_BYTE_BIT_SIZE", type := .int, accessFlags := 26, slot := 10, constantValue := 0 }, { name := "T_BOOLEAN", type := .int, accessFlags := 25, slot := 11, constantValue := 0 }, { name := "T_CHAR", type := .int, accessFlags := 25, slot := 12, constantValue := 0 }, { name := "T_FLOAT", type := .int, accessFlags := 25, slot := 13, constantValue := 0 }, { name := "T_DOUBLE", type := .int, accessFlags := 25, slot := 14, constantValue := 0 }, { name := "T_BYTE", type := .int, accessFlags := 25, slot := 15, constantValue := 0 }, { name := "T_SHORT", type := .int, accessFlags := 25, slot := 16, constantValue := 0 }, { name := "T_INT", type := .int, accessFlags := 25, slot := 17, constantValue := 0 }, { name := "T_LONG", type := .int, accessFlags := 25, slot := 18, constantValue := 0 }, { name := "JLA", type := (.object "jdk/internal/access/JavaLangAccess"), accessFlags := 26, slot := 19, constantValue := 0 }, { name := "SOFT_MAX_ARRAY_LENGTH", type := .int, accessFlags := 25, slot := 20, constantValue := 0 }]
  methods := #[k16m0]
  instanceTypes := #[]
  staticTypes := #[(.object "jdk/internal/misc/Unsafe"), .boolean, .int, .int, .int, .int, .int, .int, .int, .int, .int, .int, .int, .int, .int, .int, .int, .int, .int, (.object "jdk/internal/access/JavaLangAccess"), .int]
  resolved := Array.replicate 378 none
  statics := none }

def pool17 : Array CpInfo := pool [(1, u "java/lang/Cloneable"), (0, .class_ 1), (0, u "java/lang/Object"), (0, .class_ 3)] 3

/-- java/lang/Cloneable -/
def k17 : Class := { plain "java/lang/Cloneable" (some 0) with
  accessFlags := 1537
  interfaces := #[]
  cf := some (fileOf pool17 2 #[] #[] 1537 4 #[] #[])
  fields := #[]
  methods := #[]
  instanceTypes := #[]
  staticTypes := #[]
  resolved := Array.replicate 8 none
  statics := none }

/-- the primitive byte -/
def k18 : Class := { plain "byte" none with kind := .primitive 'B', accessFlags := 0x411 }
/-- [B -/
def k19 : Class := { plain "[B" (some 0) with kind := .array 18 .byte, interfaces := #[17, 2], accessFlags := 1041 }

/-- the primitive char -/
def k20 : Class := { plain "char" none with kind := .primitive 'C', accessFlags := 0x411 }
/-- [C -/
def k21 : Class := { plain "[C" (some 0) with kind := .array 20 .char, interfaces := #[17, 2], accessFlags := 1041 }

/-- the primitive int -/
def k22 : Class := { plain "int" none with kind := .primitive 'I', accessFlags := 0x411 }
/-- [I -/
def k23 : Class := { plain "[I" (some 0) with kind := .array 22 .int, interfaces := #[17, 2], accessFlags := 1041 }

def heap : Heap := #[{ cls := 7, slots := #[.long 0, .int 1, .null, .int 0, .null, .int 0, .int 0], vm := .statics 7 },
  { cls := 10, slots := #[.ref 3, .ref 4, .null], vm := .statics 10 },
  { cls := 15, slots := #[.null, .null, .null], vm := .statics 15 },
  { cls := 10, slots := #[.null, .int 0, .int 0, .null], vm := .none },
  { cls := 10, slots := #[.null, .int 1, .int 0, .null], vm := .none }]
def classes : Array Class := #[k0, k1, k2, k3, k4, k5, k6, k7, k8, k9, k10, k11, k12, k13, k14, k15, k16, k17, k18, k19, k20, k21, k22, k23]
def interned : List (Array UInt16 × Addr) := []
def slotsUsed : Nat := 21
def theMethod : MethodId := ⟨1, 1⟩
def args0 : Array Value := #[.int 1, .int 7, .int 16705, .int 16706]
def aboutOver (below : List Frame) : State where
  vm := { classes := classes, interned := interned.toArray }
  heap := heap
  slotsUsed := slotsUsed
  threads := #[{ frames := .invoking theMethod args0 :: below }]
def below0 : List Frame := [.native { method := ⟨0, 0⟩, args := #[] }]
def about1 : State := aboutOver below0
def p0 : Program := .bare "" "" ""
def e0 : Env := launch0.env 0 0 0
theorem w_frames : about1.frames = Frame.invoking theMethod args0 :: below0 := rfl
set_option maxRecDepth 65536 in
theorem w_args : argsFit about1.vm theMethod args0 = true := by decide +kernel
set_option maxRecDepth 65536 in
theorem w_heap : heapFits about1 = true := by decide +kernel
set_option maxRecDepth 65536 in
theorem w_runnable : about1.curStatus? = some .runnable := by decide +kernel
set_option maxRecDepth 65536 in
theorem w_alone : about1.alone = true := by decide +kernel
set_option maxRecDepth 65536 in
theorem w_named : about1.methodNamed? x = some theMethod := by decide +kernel
set_option maxRecDepth 65536 in
theorem w_hears : about1.hears theMethod below0 = true := by decide +kernel
set_option maxRecDepth 65536 in
theorem w_ripe : about1.ripe theMethod args0 below0 = true := by decide +kernel
theorem w_running : about1.status = .running := rfl
set_option maxRecDepth 65536 in
theorem w_room : about1.hasRoom e0.platform room_1 = true :=
  launch0.hasRoom_least _ room_1 (by decide +kernel) (by decide +kernel) (by decide +kernel) (by decide +kernel) (by decide +kernel) (by decide +kernel)
theorem allAtoms_all (ts : List Jvm.Cond) (a : Array Jvm.Value) (st : Jvm.State) : (allAtoms ts).before a st = ts.all (fun c => c.before a st) := by
  induction ts with
  | nil => rfl
  | cons c t ih =>
    show (Jvm.Cond.and c (allAtoms t)).before a st = _
    rw [Jvm.Cond.before_and, ih, List.all_cons]
def words1 : List Jvm.Cond := Jvm.Cond.code x code maxLocals ret :: tables_1
/-- a 'code' word, met by the world's own term for the bytes: nothing is compared byte by byte -/
theorem code_word {y : MethodName} {bytes : ByteArray} {mx : Nat} {rt : Option FieldType} {a : Array Value} {s : State} {m : MethodId} {meth : Method} {c : Code} (h1 : s.methodNamed? y = some m) (h2 : s.vm.method? m = some meth) (h3 : meth.code = some c) (h4 : c.code = bytes)
    (h5 : (c.maxLocals == mx && c.exceptionTable.isEmpty && decide (c.maxStack ≤ mostOperands) && decide (meth.sig.returnType = rt) && !meth.locks && decide (parseMethodDescriptor y.desc = some meth.sig)) = true) : (Jvm.Cond.code y bytes mx rt).before a s = true := by
  simp only [Bool.and_eq_true, beq_iff_eq, Bool.not_eq_true', decide_eq_true_eq] at h5
  obtain ⟨⟨⟨⟨⟨g1, g2⟩, g3⟩, g4⟩, g5⟩, g6⟩ := h5
  simp [Cond.before, Cond.holds, Cond.value, h1, h2, h3, h4, g1, g2, g3, g4, g5, g6]
def isCode : Jvm.Cond → Bool
  | .code _ _ _ _ => true
  | _ => false
theorem all_split {L : List Jvm.Cond} {P : Jvm.Cond → Bool} (h1 : L.all (fun c => isCode c || P c) = true) (h2 : ∀ c ∈ L.filter isCode, P c = true) : L.all P = true := by
  refine List.all_eq_true.mpr fun c hc => ?_
  have h := List.all_eq_true.mp h1 c hc
  rcases Bool.eq_false_or_eq_true (isCode c) with hi | hi
  · exact h2 c (List.mem_filter.mpr ⟨hc, hi⟩)
  · simpa [hi] using h
set_option maxRecDepth 65536 in
theorem w_c0 : (Jvm.Cond.code x code maxLocals ret).before args0 about1 = true := code_word (m := ⟨1, 1⟩) (meth := k1m1) (c := k1c1) (by decide +kernel) rfl rfl rfl (by decide +kernel)
set_option maxRecDepth 65536 in
theorem w_c1 : (Jvm.Cond.code ({ cls := "java/lang/String", name := "<init>", desc := "([C)V" } : Jvm.MethodName) jdk_42_method_3_code (2 : Nat) (Option.none : Option Jvm.ClassFile.FieldType)).before args0 about1 = true := code_word (m := ⟨7, 1⟩) (meth := k7m1) (c := k7c1) (by decide +kernel) rfl rfl rfl (by decide +kernel)
set_option maxRecDepth 65536 in
theorem w_c2 : (Jvm.Cond.code ({ cls := "java/lang/String", name := "<init>", desc := "([CIILjava/lang/Void;)V" } : Jvm.MethodName) jdk_42_method_149_code (6 : Nat) (Option.none : Option Jvm.ClassFile.FieldType)).before args0 about1 = true := code_word (m := ⟨7, 2⟩) (meth := k7m2) (c := k7c2) (by decide +kernel) rfl rfl rfl (by decide +kernel)
set_option maxRecDepth 65536 in
theorem w_c3 : (Jvm.Cond.code ({ cls := "java/lang/Object", name := "<init>", desc := "()V" } : Jvm.MethodName) object_method_1_code (1 : Nat) (Option.none : Option Jvm.ClassFile.FieldType)).before args0 about1 = true := code_word (m := ⟨0, 0⟩) (meth := k0m0) (c := k0c0) (by decide +kernel) rfl rfl rfl (by decide +kernel)
set_option maxRecDepth 65536 in
theorem w_c4 : (Jvm.Cond.code ({ cls := "java/lang/StringUTF16", name := "compress", desc := "([CII)[B" } : Jvm.MethodName) jdk_52_method_16_code (6 : Nat) (Option.some (Jvm.ClassFile.FieldType.array Jvm.ClassFile.FieldType.byte))).before args0 about1 = true := code_word (m := ⟨8, 2⟩) (meth := k8m2) (c := k8c2) (by decide +kernel) rfl rfl rfl (by decide +kernel)
set_option maxRecDepth 65536 in
theorem w_c5 : (Jvm.Cond.code ({ cls := "java/lang/StringUTF16", name := "compress", desc := "([CI[BII)I" } : Jvm.MethodName) jdk_52_method_21_code (7 : Nat) (Option.some Jvm.ClassFile.FieldType.int)).before args0 about1 = true := code_word (m := ⟨8, 3⟩) (meth := k8m3) (c := k8c3) (by decide +kernel) rfl rfl rfl (by decide +kernel)
set_option maxRecDepth 65536 in
theorem w_c6 : (Jvm.Cond.code ({ cls := "java/lang/StringUTF16", name := "coderFromArrayLen", desc := "([BI)B" } : Jvm.MethodName) jdk_52_method_15_code (2 : Nat) (Option.some Jvm.ClassFile.FieldType.byte)).before args0 about1 = true := code_word (m := ⟨8, 1⟩) (meth := k8m1) (c := k8c1) (by decide +kernel) rfl rfl rfl (by decide +kernel)
set_option maxRecDepth 65536 in
theorem w_c7 : (Jvm.Cond.code ({ cls := "com/example/headwright/headwright/Diagnostic", name := "<init>", desc := "(Ljava/lang/String;ILcom/example/headwright/headwright/Diagnostic$Severity;Ljava/lang/String;)V" } : Jvm.MethodName) prog_6_method_1_code (5 : Nat) (Option.none : Option Jvm.ClassFile.FieldType)).before args0 about1 = true := code_word (m := ⟨12, 0⟩) (meth := k12m0) (c := k12c0) (by decide +kernel) rfl rfl rfl (by decide +kernel)
set_option maxRecDepth 65536 in
theorem w_c8 : (Jvm.Cond.code ({ cls := "java/lang/Record", name := "<init>", desc := "()V" } : Jvm.MethodName) jdk_30_method_1_code (1 : Nat) (Option.none : Option Jvm.ClassFile.FieldType)).before args0 about1 = true := code_word (m := ⟨11, 0⟩) (meth := k11m0) (c := k11c0) (by decide +kernel) rfl rfl rfl (by decide +kernel)
set_option maxRecDepth 65536 in
theorem w_c9 : (Jvm.Cond.code ({ cls := "java/util/Objects", name := "requireNonNull", desc := "(Ljava/lang/Object;Ljava/lang/String;)Ljava/lang/Object;" } : Jvm.MethodName) jdk_31_method_11_code (2 : Nat) (Option.some (Jvm.ClassFile.FieldType.object "java/lang/Object"))).before args0 about1 = true := code_word (m := ⟨13, 1⟩) (meth := k13m1) (c := k13c1) (by decide +kernel) rfl rfl rfl (by decide +kernel)
set_option maxRecDepth 65536 in
theorem w_c10 : (Jvm.Cond.code ({ cls := "com/example/headwright/headwright/Diagnostic", name := "isError", desc := "()Z" } : Jvm.MethodName) prog_6_method_4_code (1 : Nat) (Option.some Jvm.ClassFile.FieldType.boolean)).before args0 about1 = true := code_word (m := ⟨12, 1⟩) (meth := k12m1) (c := k12c1) (by decide +kernel) rfl rfl rfl (by decide +kernel)
def codes1 : List Jvm.Cond := [Jvm.Cond.code x code maxLocals ret, Jvm.Cond.code ({ cls := "java/lang/String", name := "<init>", desc := "([C)V" } : Jvm.MethodName) jdk_42_method_3_code (2 : Nat) (Option.none : Option Jvm.ClassFile.FieldType), Jvm.Cond.code ({ cls := "java/lang/String", name := "<init>", desc := "([CIILjava/lang/Void;)V" } : Jvm.MethodName) jdk_42_method_149_code (6 : Nat) (Option.none : Option Jvm.ClassFile.FieldType), Jvm.Cond.code ({ cls := "java/lang/Object", name := "<init>", desc := "()V" } : Jvm.MethodName) object_method_1_code (1 : Nat) (Option.none : Option Jvm.ClassFile.FieldType), Jvm.Cond.code ({ cls := "java/lang/StringUTF16", name := "compress", desc := "([CII)[B" } : Jvm.MethodName) jdk_52_method_16_code (6 : Nat) (Option.some (Jvm.ClassFile.FieldType.array Jvm.ClassFile.FieldType.byte)), Jvm.Cond.code ({ cls := "java/lang/StringUTF16", name := "compress", desc := "([CI[BII)I" } : Jvm.MethodName) jdk_52_method_21_code (7 : Nat) (Option.some Jvm.ClassFile.FieldType.int), Jvm.Cond.code ({ cls := "java/lang/StringUTF16", name := "coderFromArrayLen", desc := "([BI)B" } : Jvm.MethodName) jdk_52_method_15_code (2 : Nat) (Option.some Jvm.ClassFile.FieldType.byte), Jvm.Cond.code ({ cls := "com/example/headwright/headwright/Diagnostic", name := "<init>", desc := "(Ljava/lang/String;ILcom/example/headwright/headwright/Diagnostic$Severity;Ljava/lang/String;)V" } : Jvm.MethodName) prog_6_method_1_code (5 : Nat) (Option.none : Option Jvm.ClassFile.FieldType), Jvm.Cond.code ({ cls := "java/lang/Record", name := "<init>", desc := "()V" } : Jvm.MethodName) jdk_30_method_1_code (1 : Nat) (Option.none : Option Jvm.ClassFile.FieldType), Jvm.Cond.code ({ cls := "java/util/Objects", name := "requireNonNull", desc := "(Ljava/lang/Object;Ljava/lang/String;)Ljava/lang/Object;" } : Jvm.MethodName) jdk_31_method_11_code (2 : Nat) (Option.some (Jvm.ClassFile.FieldType.object "java/lang/Object")), Jvm.Cond.code ({ cls := "com/example/headwright/headwright/Diagnostic", name := "isError", desc := "()Z" } : Jvm.MethodName) prog_6_method_4_code (1 : Nat) (Option.some Jvm.ClassFile.FieldType.boolean)]
set_option maxRecDepth 65536 in
theorem codes_eq : words1.filter isCode = codes1 := rfl
theorem w_codes : ∀ c ∈ words1.filter isCode, c.before args0 about1 = true := by
  rw [codes_eq]
  intro c hc
  simp only [codes1, List.mem_cons, List.not_mem_nil, or_false] at hc
  rcases hc with rfl | rfl | rfl | rfl | rfl | rfl | rfl | rfl | rfl | rfl | rfl
  · exact w_c0
  · exact w_c1
  · exact w_c2
  · exact w_c3
  · exact w_c4
  · exact w_c5
  · exact w_c6
  · exact w_c7
  · exact w_c8
  · exact w_c9
  · exact w_c10
set_option maxRecDepth 65536 in
theorem w_t1 : (words1.take 24).all (fun c => isCode c || c.before args0 about1) = true := by decide +kernel
set_option maxRecDepth 65536 in
theorem w_t2 : ((words1.drop 24).take 24).all (fun c => isCode c || c.before args0 about1) = true := by decide +kernel
set_option maxRecDepth 65536 in
theorem w_t3 : ((words1.drop 24).drop 24).all (fun c => isCode c || c.before args0 about1) = true := by decide +kernel
theorem w_tables : (allAtoms (Jvm.Cond.code x code maxLocals ret :: tables_1)).before args0 about1 = true := by
  rw [allAtoms_all]
  show words1.all (fun c => c.before args0 about1) = true
  refine all_split ?_ w_codes
  rw [← List.take_append_drop 24 words1, List.all_append, w_t1, ← List.take_append_drop 24 (words1.drop 24), List.all_append, w_t2, w_t3]
  rfl
set_option maxRecDepth 65536 in
theorem w_rest : rest_1_c.before args0 about1 = true := by decide +kernel
set_option maxRecDepth 65536 in
theorem w_case : (Jvm.Cond.and given_1 narrow_1).before args0 about1 = true := by decide +kernel
theorem w_applies : (headSpec (Jvm.Cond.code x code maxLocals ret :: tables_1) room_1).applies x e0.platform about1 = true :=
  (Spec.applies_iff w_frames).mpr ⟨w_running, w_runnable, w_alone, w_named, w_hears, w_ripe, w_room, w_tables⟩
theorem atStart : AtStart classFile x code maxLocals ret World_1 tables_1 room_1 Calls_1 rest_1 Pre_1 launch0 p0 e0 about1 theMethod args0 below0 :=
  ⟨lists_1, trivial, launch0.admits_env _ _ _, launch0.least_env, fairChoices_fair.cas, fairChoices_fair.clock, w_frames, w_args, w_heap, w_applies, trivial, w_rest, w_case⟩
end start1
theorem witness_1 : WitnessClaimed_1 := ⟨start1.p0, start1.e0, start1.about1, start1.theMethod, start1.args0, start1.below0, start1.atStart⟩
end Jvm.Pilot.@@N@@
