import JvmDerived
import JvmDerived.Pilot.@@N@@Statement
import JvmDerived.Pilot.@@N@@Code
set_option linter.unusedVariables false
set_option linter.unusedSimpArgs false
namespace Jvm.Pilot.@@N@@
open Jvm Jvm.ClassFile Sem Op Lib Jvm.Free Jvm.Stand Jvm.LawKit Jvm.RoadKit Bundle Jvm.Pilot.@@N@@.Jvm.D
/-- the run from S ends as G says -/
def own_Fin (p : Program) (e : Env) (below : List Frame) (G : Outcome → State → Prop) (S : State) : Prop :=
  ∃ t o, Steps p.tables e below S t ∧ t.status = .running ∧ Ended t below o ∧ G o t
theorem own_go {p : Program} {e : Env} {below : List Frame} {G : Outcome → State → Prop} {S S' : State} (h : Steps p.tables e below S S') (k : own_Fin p e below G S') : own_Fin p e below G S := by
  obtain ⟨t, o, h1, h2, h3, h4⟩ := k
  exact ⟨t, o, h.trans h1, h2, h3, h4⟩
theorem own_by {p : Program} {e : Env} {below : List Frame} {G : Outcome → State → Prop} {S S' : State} (h : ∀ t, Steps p.tables e below S' t → Steps p.tables e below S t) (k : own_Fin p e below G S') : own_Fin p e below G S := by
  obtain ⟨t, o, h1, h2, h3, h4⟩ := k
  exact ⟨t, o, h t h1, h2, h3, h4⟩
theorem own_done {p : Program} {e : Env} {below : List Frame} {G : Outcome → State → Prop} {S t : State} {o : Outcome} (h1 : Steps p.tables e below S t) (h2 : t.status = .running) (h3 : Ended t below o) (h4 : G o t) : own_Fin p e below G S := ⟨t, o, h1, h2, h3, h4⟩
def own_get (rs : List Int32) (j : Int32) : Int32 := rs.getD j.toNatClampNeg 0
theorem own_getD (rs : List Int32) (j : Int32) : (rs.map Value.int).getD j.toNatClampNeg (.int (0 : Int32)) = .int (own_get rs j) := by
  unfold own_get
  rw [List.getD_eq_getElem?_getD, List.getD_eq_getElem?_getD, List.getElem?_map]
  cases rs[j.toNatClampNeg]? <;> rfl
theorem own_retI {p : Program} {l : Launch} {e : Env} {R : Room} {s : State} {m : MethodId} {args : Array Value} {below : List Frame} {meth : Method} {c : Code} {T : State} {locs : List Loc} {cells slots : Nat} (X : Stand p l e R s m args below meth c T locs cells slots) (hx : p.tables.exec = Jvm.exec) {pc : Nat} {Ls : Array Slot} {z : Int32} {rest : List Value} (hret : meth.sig.returnType = some .int) (hd : decode c.code pc = .ok (.ireturn, 1)) {fs : List Frame}
    (hl : ∀ (f : JFrame) (acts : List Action), f.method = m → f.locked = none → f.entered = [] → (doReturn e (T.setTop f) acts (some (.int z))).1 = T.setFrames fs) : Steps p.tables e below (T.setTop (mkF m pc Ls (.int z :: rest))) (T.setFrames fs) :=
  retOut X hx hret rfl (Or.inl ⟨rfl, Or.inl rfl, z, rfl⟩) hd hl
section OwnK
open Jvm.Free.SB Jvm.Free.SBG
variable {p : Program} {l : Launch} {e : Env} {R : Room} {s : State} {m : MethodId} {args : Array Value} {below : List Frame} {meth : Method} {c : Code} {T : State} {locs : List Loc} {cells slots : Nat} {Z : State} {a0 : Array Value} {h h' : Heap} {vm0 vm1 : Vm}
/-- the constant "" of String's own: either nothing has been interned since the case's start, or the entry is resolved and its String is an ordinary one -/
def own_K (Z : State) (h : Heap) (vm : Vm) : Prop := IB Z vm [] ∨ ∃ a b : Addr, Lit (Z.setVm vm) "java/lang/String" 7 a ∧ Exa Z h a "java/lang/String" ∧ Fld Z h a "java/lang/String" "coder" "B" (.int (0 : Int32)) ∧ Fld Z h a "java/lang/String" "value" "[B" (.ref b)
theorem own_K.warm (K : own_K Z h vm0) (W : (s.setVm vm0).WarmedH vm1) : own_K Z h vm1 := by
  rcases K with ⟨more, e, hm⟩ | ⟨a, b, L, r⟩
  · exact Or.inl ⟨more, (show vm1.interned = _ from W.interned_eq.trans e), hm⟩
  · exact Or.inr ⟨a, b, (Lit.stays (s := s) (show Lit (s.setVm vm0) _ _ _ from L) W.wide : Lit (s.setVm vm1) "java/lang/String" 7 a), r⟩
theorem own_K.keep (K : own_K Z h vm0) (Kp : Keep h h' []) : own_K Z h' vm0 := by
  rcases K with q | ⟨a, b, L, r1, r2, r3⟩
  · exact Or.inl q
  · exact Or.inr ⟨a, b, L, r1.keep Kp, r2.keep Kp (by simp), r3.keep Kp (by simp)⟩
theorem own_ldcK (X : Stand p l e R (s.setVm vm0) m args below meth c T [] cells slots) (hx : p.tables.exec = Jvm.exec) (hZ : Z.Warmed39 vm0) (hown : vm0.findClass "java/lang/String" = some m.cls) (w : (Jvm.Cond.stringLink "java/lang/String" 7 "").before a0 Z = true) (wS : ∀ a ∈ Bundle.stringAtoms, a.before a0 Z = true)
    (eT : T.heap = h) {k0 : Nat} (hS : s.Since vm0 k0) (hk : k0 ≤ h.size) (hkeep : ∀ (b : Addr) (cl : Cell), Z.heap[b]? = some cl → s.heap[b]? = some cl) (K : own_K Z h vm0) (hh : Jvm.Lit.constHeld Z "java/lang/String" 7) (hcw : Jvm.Lit.compactW.before a0 Z = true)
    {g : JFrame} (hg : g.method = m) (hd : decode c.code g.pc = .ok (.ldc 7, 2)) (hc : cells + 2 ≤ R.cells) (hl' : slots + 4 ≤ R.slots) :
    ∃ (a : Addr) (T' : State) (h' : Heap) (k1 : Nat) (b : Addr) (vm1 : Vm), Stand p l e R (s.setVm vm1) m args below meth c T' [] (cells + 2) (slots + 4) ∧ T'.heap = h' ∧ Ext h h' ∧ s.Since vm1 k1 ∧ k1 ≤ h'.size ∧ Z.Warmed39 (s.setVm vm1).vm ∧ (s.setVm vm1).vm.findClass "java/lang/String" = some m.cls ∧
      Exa Z h' a "java/lang/String" ∧ Fld Z h' a "java/lang/String" "coder" "B" (.int (0 : Int32)) ∧ Fld Z h' a "java/lang/String" "value" "[B" (.ref b) ∧ Lit (s.setVm vm1) "java/lang/String" 7 a ∧
      ∀ target, Steps p.tables e below (T'.setTop { g with pc := g.pc + 2, stack := .ref a :: g.stack }) target → Steps p.tables e below (T.setTop g) target := by
  rcases K with I | ⟨a, b, L, r1, r2, r3⟩
  · obtain ⟨a, T', h', k1, b, k, r1, r2, r3, r4, r5, r6, r7, r8, r9, r10, r11, r12, r13, r14, r15, r16⟩ := ldcSVL X hx hZ hown w wS eT hS hk (Fr.nil _) hkeep I (by simp) hh hcw (vs := []) (z := 0) ⟨by decide, by decide⟩ (by decide) (by decide) hg hd (n := 0) (by decide) (by decide) hc hl'
    exact ⟨a, T', h', k1, b, T'.vm, r1, r2, r3, r4, r5, r6, r7, r8, r9, r10, r15, r16⟩
  · exact ⟨a, T, h, k0, b, vm0, X.more (by omega) (by omega), eT, ⟨Nat.le_refl _, fun _ _ q => q⟩, hS, hk, hZ, hown, r1, r2, r3, L, ldcAgain X hx hZ hown w (show Lit (s.setVm vm0) _ _ _ from L) hg hd⟩
theorem own_backK {y : MethodName} {bytes : ByteArray} {maxL : Nat} {ret : Option FieldType} {rm : Room} {len W : Nat} {as' : Array Value} {Q : Option Value → Heap → List Loc → Prop}
    (hM : MetFree l y (head1 [Cond.code y bytes maxL ret] rm) (fun a U => a = as' ∧ (Z.Warmed39 U.vm ∧ own_K Z h U.vm) ∧ U.heap = h) (fun _ _ _ _ _ => True) (fun _ U o U' => ∃ v L, o = .returned v ∧ (Q v U'.heap L ∧ own_K Z U'.heap U'.vm) ∧ ReturnedEndW U o U' L rm.cells rm.slots))
    (hZ : Z.Warmed39 s.vm) (wc : (Cond.code y bytes maxL ret).before a0 Z = true) (wz : (Cond.initialized y.cls).before a0 Z = true) (hf : rm.frames + 1 ≤ R.frames) (hl : W + (maxL + 11) + rm.locals ≤ R.locals) :
    BackS l R p e below s args y len W (fun A a => a = as' ∧ A.U.heap = h ∧ A.cells + rm.cells ≤ R.cells ∧ A.slots + rm.slots ≤ R.slots ∧ own_K Z h A.U.vm)
      (fun A _ v B => ∃ L, (Q v B.U.heap L ∧ own_K Z B.U.heap B.U.vm) ∧ B.locs = A.locs ++ L ∧ B.cells = A.cells + rm.cells ∧ B.slots = A.slots + rm.slots) :=
  BackS.of_freeW (bytes := bytes) (maxL := maxL) (ret := ret) (E := fun _ _ o t L k n => k = rm.cells ∧ n = rm.slots ∧ ∃ v, o = .returned v ∧ Q v t.heap L ∧ own_K Z t.heap t.vm) hM hf hl
    (fun m meth c A a Y hp => have hU : Z.Warmed39 A.U.vm := wtrans hZ Y.warmed
      ⟨by show (Cond.and _ .tt).before a A.U = true; rw [Cond.before_and, mv hU wc]; rfl, mv hU wc, mv hU wz, hp.2.2.1, hp.2.2.2.1⟩)
    (fun m meth c A a g mk Y hp => ⟨hp.1, ⟨wtrans hZ Y.warmed, hp.2.2.2.2⟩, hp.2.1⟩) (fun _ _ _ _ _ _ _ _ _ => trivial)
    (fun _ _ _ _ ⟨v, L, h1, h2, h3⟩ => ⟨L, _, _, h3, rfl, rfl, v, h1, h2⟩)
    (fun m meth c A a g mk v t L k n Y hp _ _ ⟨e1, e2, v', e3, e4⟩ => by cases e3; subst e1 e2; exact ⟨L, e4, rfl, rfl, rfl⟩)
end OwnK
theorem own_and255 (x : Int32) : ∃ k : Fin 256, x &&& (255 : Int32) = Int32.ofNat k.val := by
  have h1 : (x &&& (255 : Int32)).toInt = x.toInt % (2 ^ 8 : Nat) := c_mask x 255 8 (by decide) (by decide)
  generalize x &&& (255 : Int32) = y at h1 ⊢
  refine ⟨⟨y.toNatClampNeg, by unfold Int32.toNatClampNeg; omega⟩, ?_⟩
  apply Int32.toInt_inj.mp
  rw [Int32.toInt_ofNat_of_lt (by unfold Int32.toNatClampNeg; omega)]
  show y.toInt = ((y.toInt.toNat : Nat) : Int)
  omega
theorem own_nc (x : Int32) : nar .char ((x &&& (255 : Int32)).toUInt32.toUInt16.toUInt32.toInt32) = x &&& (255 : Int32) := by
  obtain ⟨k, hk⟩ := own_and255 x
  rw [hk]
  exact (show ∀ k : Fin 256, nar .char ((Int32.ofNat k.val).toUInt32.toUInt16.toUInt32.toInt32) = Int32.ofNat k.val by decide +kernel) k
theorem own_lt (x : Int32) : ¬ (255 : Int32) < x &&& (255 : Int32) := by
  obtain ⟨k, hk⟩ := own_and255 x
  rw [hk]
  exact (show ∀ k : Fin 256, ¬ (255 : Int32) < Int32.ofNat k.val by decide +kernel) k
theorem d5_0 : decode jdk_52_method_21_code 0 = .ok (.iconst 0, 1) := by decide +kernel
theorem d5_1 : decode jdk_52_method_21_code 1 = .ok (.istore 5, 2) := by decide +kernel
theorem d5_3 : decode jdk_52_method_21_code 3 = .ok (.iload 5, 2) := by decide +kernel
theorem d5_5 : decode jdk_52_method_21_code 5 = .ok (.iload 4, 2) := by decide +kernel
theorem d5_7 : decode jdk_52_method_21_code 7 = .ok (.if_icmp .ge 37, 3) := by decide +kernel
theorem d5_10 : decode jdk_52_method_21_code 10 = .ok (.aload_n 0, 1) := by decide +kernel
theorem d5_11 : decode jdk_52_method_21_code 11 = .ok (.iload_n 1, 1) := by decide +kernel
theorem d5_12 : decode jdk_52_method_21_code 12 = .ok (.caload, 1) := by decide +kernel
theorem d5_13 : decode jdk_52_method_21_code 13 = .ok (.istore 6, 2) := by decide +kernel
theorem d5_15 : decode jdk_52_method_21_code 15 = .ok (.iload 6, 2) := by decide +kernel
theorem d5_17 : decode jdk_52_method_21_code 17 = .ok (.sipush 255, 3) := by decide +kernel
theorem d5_20 : decode jdk_52_method_21_code 20 = .ok (.if_icmp .le 6, 3) := by decide +kernel
theorem d5_23 : decode jdk_52_method_21_code 23 = .ok (.iload 5, 2) := by decide +kernel
theorem d5_25 : decode jdk_52_method_21_code 25 = .ok (.ireturn, 1) := by decide +kernel
theorem d5_26 : decode jdk_52_method_21_code 26 = .ok (.aload_n 2, 1) := by decide +kernel
theorem d5_27 : decode jdk_52_method_21_code 27 = .ok (.iload_n 3, 1) := by decide +kernel
theorem d5_28 : decode jdk_52_method_21_code 28 = .ok (.iload 6, 2) := by decide +kernel
theorem d5_30 : decode jdk_52_method_21_code 30 = .ok (.i2b, 1) := by decide +kernel
theorem d5_31 : decode jdk_52_method_21_code 31 = .ok (.bastore, 1) := by decide +kernel
theorem d5_32 : decode jdk_52_method_21_code 32 = .ok (.iinc 1 1, 3) := by decide +kernel
theorem d5_35 : decode jdk_52_method_21_code 35 = .ok (.iinc 3 1, 3) := by decide +kernel
theorem d5_38 : decode jdk_52_method_21_code 38 = .ok (.iinc 5 1, 3) := by decide +kernel
theorem d5_41 : decode jdk_52_method_21_code 41 = .ok (.goto (-38), 3) := by decide +kernel
theorem d5_44 : decode jdk_52_method_21_code 44 = .ok (.iload 4, 2) := by decide +kernel
theorem d5_46 : decode jdk_52_method_21_code 46 = .ok (.ireturn, 1) := by decide +kernel
theorem pn_java_lang_StringUTF16 : plainName "java/lang/StringUTF16" = true := by first | (simp [plainName, overriddenIn]; done) | decide +kernel
theorem ef_cm_1 (m : MethodId) (x0 : Addr) (x1 : Int32) (x2 : Addr) (x3 : Int32) (x4 : Int32) : entryFrame m #[(.ref x0), (.int x1), (.ref x2), (.int x3), (.int x4)] 7 = mkF m 0 #[.val (.ref x0), .val (.int x1), .val (.ref x2), .val (.int x3), .val (.int x4), .unset, .unset] [] := by first | (simp [entryFrame, mkF, argsToLocals, Value.category]; done) | rfl
def Qcm_1 (Z : State) (a1 : Addr) (k : ClassId) (c0 : Int32) (a3 : Addr) (kb : ClassId) (h0 : Heap) (n0 : Nat) (v : Option Value) (h : Heap) (L : List Loc) : Prop := v = some (.int (1 : Int32)) ∧ Fr n0 L ∧ Keep h0 h [a3] ∧ Arv Z h a3 kb .byte (1 : Int32) [(.int (nar .byte (c0.toInt8.toInt32)))] (.int (0 : Int32))
abbrev Gcm_1 (Z : State) (a1 : Addr) (k : ClassId) (c0 : Int32) (a3 : Addr) (kb : ClassId) (h0 : Heap) (n0 : Nat) (s : State) : Outcome → State → Prop := fun o U' => ∃ v L, o = .returned v ∧ Qcm_1 Z a1 k c0 a3 kb h0 n0 v U'.heap L ∧ FrameEnd s o U' L ({ frames := 0, cells := 0, slots := 0, locals := 0 } : Room).cells ({ frames := 0, cells := 0, slots := 0, locals := 0 } : Room).slots
set_option maxRecDepth 65536 in
set_option maxHeartbeats 40000000 in
theorem rmcm_1 (l : Launch) (Z : State) (a0 : Array Value) (hw : ∀ d ∈ tables_1, d.before a0 Z = true) (ws : List Jvm.Cond) (a1 : Addr) (k : ClassId) (c0 : Int32) (a3 : Addr) (kb : ClassId) (h0 : Heap) (n0 : Nat) (Z0 : n0 ≤ h0.size) (V_a1 : Arv Z h0 a1 k .char (1 : Int32) [(.int c0)] (.int (0 : Int32))) (V_a3 : Arv Z h0 a3 kb .byte (1 : Int32) [(.int (0 : Int32))] (.int (0 : Int32))) (g_a3 : n0 ≤ a3) (ne13 : a1 ≠ a3) (hc0 : ¬ (255 : Int32) < c0) :
    MetFree l (⟨"java/lang/StringUTF16", "compress", "([CI[BII)I"⟩ : MethodName) (head1 (Jvm.Cond.code (⟨"java/lang/StringUTF16", "compress", "([CI[BII)I"⟩ : MethodName) jdk_52_method_21_code 7 (some .int) :: ws) ({ frames := 0, cells := 0, slots := 0, locals := 0 } : Room)) (fun a U => a = #[(.ref a1), (.int (0 : Int32)), (.ref a3), (.int (0 : Int32)), (.int (1 : Int32))] ∧ Z.Warmed39 U.vm ∧ U.heap = h0) (fun _ _ _ _ _ => True) (fun _ U o U' => ∃ v L, o = .returned v ∧ Qcm_1 Z a1 k c0 a3 kb h0 n0 v U'.heap L ∧ FrameEnd U o U' L ({ frames := 0, cells := 0, slots := 0, locals := 0 } : Room).cells ({ frames := 0, cells := 0, slots := 0, locals := 0 } : Room).slots) := by
  refine MetFree.of_bodySF (plainFor_of_name pn_java_lang_StringUTF16) hisR ?_
  intro p e s m args below meth c s₁ Bd hml0 hP hK
  obtain ⟨rfl, hZ, hh⟩ := hP
  have hx := Bd.exec
  have hby := Bd.bytes
  have hml : c.maxLocals = 7 := hml0
  have hown : s.vm.findClass "java/lang/StringUTF16" = some m.cls := findClass_of_methodNamed Bd.named
  have hnm := (name_of_methodNamed Bd.named Bd.method).1
  have X0 : Stand p l e ({ frames := 0, cells := 0, slots := 0, locals := 0 } : Room) s m #[(.ref a1), (.int (0 : Int32)), (.ref a3), (.int (0 : Int32)), (.int (1 : Int32))] below meth c s₁ [] 0 0 := Stand.of_body Bd
  have e0 : s₁.heap = h0 := by rw [← hh, Bd.state]; rfl
  have es0 : s.heap = h0 := hh
  have N0 := Fr.nil n0
  show own_Fin p e below (Gcm_1 Z a1 k c0 a3 kb h0 n0 s) (s₁.setTop (entryFrame m #[(.ref a1), (.int (0 : Int32)), (.ref a3), (.int (0 : Int32)), (.int (1 : Int32))] 7))
  rw [ef_cm_1 m a1 (0 : Int32) a3 (0 : Int32) (1 : Int32)]
  have Kz := Keep.refl h0 [a3]
  refine own_go (XS.iconst X0.here hx rfl (hb hby d5_0) (Steps.refl _)) ?_
  show own_Fin _ _ _ _ (s₁.setTop (mkF m 1 #[rv a1, iv (0 : Int32), rv a3, iv (0 : Int32), iv (1 : Int32), .unset, .unset] [(.int (0 : Int32))]))
  refine own_go (XS.istore X0.here hx rfl (hb hby d5_1) rfl rfl (Steps.refl _)) ?_
  show own_Fin _ _ _ _ (s₁.setTop (mkF m 3 #[rv a1, iv (0 : Int32), rv a3, iv (0 : Int32), iv (1 : Int32), iv (0 : Int32), .unset] []))
  refine own_go (XS.iload X0.here hx rfl (hb hby d5_3) rfl (Steps.refl _)) ?_
  show own_Fin _ _ _ _ (s₁.setTop (mkF m 5 #[rv a1, iv (0 : Int32), rv a3, iv (0 : Int32), iv (1 : Int32), iv (0 : Int32), .unset] [(.int (0 : Int32))]))
  refine own_go (XS.iload X0.here hx rfl (hb hby d5_5) rfl (Steps.refl _)) ?_
  show own_Fin _ _ _ _ (s₁.setTop (mkF m 7 #[rv a1, iv (0 : Int32), rv a3, iv (0 : Int32), iv (1 : Int32), iv (0 : Int32), .unset] [(.int (1 : Int32)), (.int (0 : Int32))]))
  refine own_go (XS.icmpNo X0.here hx rfl (hb hby d5_7) rfl (tlt (by decide : (0 : Int32) < (1 : Int32))).2.1 (Steps.refl _)) ?_
  show own_Fin _ _ _ _ (s₁.setTop (mkF m 10 #[rv a1, iv (0 : Int32), rv a3, iv (0 : Int32), iv (1 : Int32), iv (0 : Int32), .unset] []))
  refine own_go (XS.aloadN X0.here hx rfl (hb hby d5_10) rfl rfl (Steps.refl _)) ?_
  show own_Fin _ _ _ _ (s₁.setTop (mkF m 11 #[rv a1, iv (0 : Int32), rv a3, iv (0 : Int32), iv (1 : Int32), iv (0 : Int32), .unset] [(.ref a1)]))
  refine own_go (XS.iloadN X0.here hx rfl (hb hby d5_11) rfl (Steps.refl _)) ?_
  show own_Fin _ _ _ _ (s₁.setTop (mkF m 12 #[rv a1, iv (0 : Int32), rv a3, iv (0 : Int32), iv (1 : Int32), iv (0 : Int32), .unset] [(.int (0 : Int32)), (.ref a1)]))
  obtain ⟨cl1, Ar1, qa1, Sa1, Na1, Ha1, Ga1⟩ := id V_a1
  have hin1 : ¬ ((0 : Int32) < 0 ∨ cl1.slots.size ≤ ((0 : Int32)).toNatClampNeg) := inb_of Sa1 ⟨by decide, by decide⟩
  have hat1 : cl1.slots[((0 : Int32)).toNatClampNeg]? = some (.int c0) := Has.at Ha1 hin1 rfl
  refine own_by (X0.caload hx (j := (0 : Int32)) (v := (.int c0)) (by rw [e0]; exact Ar1.1) (State.isArrayOf_alike hZ.alike Ar1.2.1) Ar1.2.2 hin1 hat1 (g := (mkF m 12 #[rv a1, iv (0 : Int32), rv a3, iv (0 : Int32), iv (1 : Int32), iv (0 : Int32), .unset] [(.int (0 : Int32)), (.ref a1)])) rfl rfl (hb hby d5_12)) ?_
  show own_Fin _ _ _ _ (s₁.setTop (mkF m 13 #[rv a1, iv (0 : Int32), rv a3, iv (0 : Int32), iv (1 : Int32), iv (0 : Int32), .unset] [(.int c0)]))
  refine own_go (XS.istore X0.here hx rfl (hb hby d5_13) rfl rfl (Steps.refl _)) ?_
  show own_Fin _ _ _ _ (s₁.setTop (mkF m 15 #[rv a1, iv (0 : Int32), rv a3, iv (0 : Int32), iv (1 : Int32), iv (0 : Int32), iv c0] []))
  refine own_go (XS.iload X0.here hx rfl (hb hby d5_15) rfl (Steps.refl _)) ?_
  show own_Fin _ _ _ _ (s₁.setTop (mkF m 17 #[rv a1, iv (0 : Int32), rv a3, iv (0 : Int32), iv (1 : Int32), iv (0 : Int32), iv c0] [(.int c0)]))
  refine own_go (XS.sipush X0.here hx rfl (hb hby d5_17) (Steps.refl _)) ?_
  show own_Fin _ _ _ _ (s₁.setTop (mkF m 20 #[rv a1, iv (0 : Int32), rv a3, iv (0 : Int32), iv (1 : Int32), iv (0 : Int32), iv c0] [(.int (255 : Int32)), (.int c0)]))
  refine own_go (XS.icmpYes X0.here hx rfl (pc0 := 20) (pc' := 26) rfl (hb hby d5_20) rfl (flt (show ¬ ((255 : Int32) < c0) from hc0)).2.2.2 (by decide) (by decide) (Steps.refl _)) ?_
  show own_Fin _ _ _ _ (s₁.setTop (mkF m 26 #[rv a1, iv (0 : Int32), rv a3, iv (0 : Int32), iv (1 : Int32), iv (0 : Int32), iv c0] []))
  refine own_go (XS.aloadN X0.here hx rfl (hb hby d5_26) rfl rfl (Steps.refl _)) ?_
  show own_Fin _ _ _ _ (s₁.setTop (mkF m 27 #[rv a1, iv (0 : Int32), rv a3, iv (0 : Int32), iv (1 : Int32), iv (0 : Int32), iv c0] [(.ref a3)]))
  refine own_go (XS.iloadN X0.here hx rfl (hb hby d5_27) rfl (Steps.refl _)) ?_
  show own_Fin _ _ _ _ (s₁.setTop (mkF m 28 #[rv a1, iv (0 : Int32), rv a3, iv (0 : Int32), iv (1 : Int32), iv (0 : Int32), iv c0] [(.int (0 : Int32)), (.ref a3)]))
  refine own_go (XS.iload X0.here hx rfl (hb hby d5_28) rfl (Steps.refl _)) ?_
  show own_Fin _ _ _ _ (s₁.setTop (mkF m 30 #[rv a1, iv (0 : Int32), rv a3, iv (0 : Int32), iv (1 : Int32), iv (0 : Int32), iv c0] [(.int c0), (.int (0 : Int32)), (.ref a3)]))
  refine own_go (XS.i2b X0.here hx rfl (hb hby d5_30) rfl (Steps.refl _)) ?_
  show own_Fin _ _ _ _ (s₁.setTop (mkF m 31 #[rv a1, iv (0 : Int32), rv a3, iv (0 : Int32), iv (1 : Int32), iv (0 : Int32), iv c0] [(.int (c0.toInt8.toInt32)), (.int (0 : Int32)), (.ref a3)]))
  obtain ⟨cl2, Ar2, qa2, Sa2, Na2, Ha2, Ga2⟩ := id V_a3
  have hin2 : ¬ ((0 : Int32) < 0 ∨ cl2.slots.size ≤ ((0 : Int32)).toNatClampNeg) := inb_of Sa2 ⟨by decide, by decide⟩
  obtain ⟨T3, h3, X3, e3, W3, st3⟩ := stB X0 hx hZ e0 Ar2 (j := (0 : Int32)) hin2 (g := (mkF m 31 #[rv a1, iv (0 : Int32), rv a3, iv (0 : Int32), iv (1 : Int32), iv (0 : Int32), iv c0] [(.int (c0.toInt8.toInt32)), (.int (0 : Int32)), (.ref a3)])) rfl rfl (hb hby d5_31)
  refine own_by st3 ?_
  have V_a3_3 : Arv Z h3 a3 kb .byte (1 : Int32) [(.int (nar .byte (c0.toInt8.toInt32)))] (.int (0 : Int32)) := Arv.set Ar2 qa2 Sa2 Na2 Ha2 Ga2 (fits_nar_byte (c0.toInt8.toInt32)) W3 0 rfl (Nat.le_of_ble_eq_true rfl)
  have V_a1_3 := V_a1.other W3 ne13
  have N3 := Fr.snoc X3 N0 g_a3
  have Z3 : n0 ≤ h3.size := Nat.le_trans Z0 (Keep.of_wr W3).1
  have K3 := Kz.wr W3 (Or.inl (List.mem_of_getElem? (i := 0) rfl))
  show own_Fin _ _ _ _ (T3.setTop (mkF m 32 #[rv a1, iv (0 : Int32), rv a3, iv (0 : Int32), iv (1 : Int32), iv (0 : Int32), iv c0] []))
  refine own_go (XS.iinc X3.here hx rfl (hb hby d5_32) rfl rfl (Steps.refl _)) ?_
  show own_Fin _ _ _ _ (T3.setTop (mkF m 35 #[rv a1, iv (1 : Int32), rv a3, iv (0 : Int32), iv (1 : Int32), iv (0 : Int32), iv c0] []))
  refine own_go (XS.iinc X3.here hx rfl (hb hby d5_35) rfl rfl (Steps.refl _)) ?_
  show own_Fin _ _ _ _ (T3.setTop (mkF m 38 #[rv a1, iv (1 : Int32), rv a3, iv (1 : Int32), iv (1 : Int32), iv (0 : Int32), iv c0] []))
  refine own_go (XS.iinc X3.here hx rfl (hb hby d5_38) rfl rfl (Steps.refl _)) ?_
  show own_Fin _ _ _ _ (T3.setTop (mkF m 41 #[rv a1, iv (1 : Int32), rv a3, iv (1 : Int32), iv (1 : Int32), iv (1 : Int32), iv c0] []))
  refine own_go (XS.goto X3.here hx rfl (pc0 := 41) (pc' := 3) rfl (hb hby d5_41) (by decide) (by decide) (Steps.refl _)) ?_
  show own_Fin _ _ _ _ (T3.setTop (mkF m 3 #[rv a1, iv (1 : Int32), rv a3, iv (1 : Int32), iv (1 : Int32), iv (1 : Int32), iv c0] []))
  refine own_go (XS.iload X3.here hx rfl (hb hby d5_3) rfl (Steps.refl _)) ?_
  show own_Fin _ _ _ _ (T3.setTop (mkF m 5 #[rv a1, iv (1 : Int32), rv a3, iv (1 : Int32), iv (1 : Int32), iv (1 : Int32), iv c0] [(.int (1 : Int32))]))
  refine own_go (XS.iload X3.here hx rfl (hb hby d5_5) rfl (Steps.refl _)) ?_
  show own_Fin _ _ _ _ (T3.setTop (mkF m 7 #[rv a1, iv (1 : Int32), rv a3, iv (1 : Int32), iv (1 : Int32), iv (1 : Int32), iv c0] [(.int (1 : Int32)), (.int (1 : Int32))]))
  refine own_go (XS.icmpYes X3.here hx rfl (pc0 := 7) (pc' := 44) rfl (hb hby d5_7) rfl (flt (by decide : ¬ ((1 : Int32) < (1 : Int32)))).2.1 (by decide) (by decide) (Steps.refl _)) ?_
  show own_Fin _ _ _ _ (T3.setTop (mkF m 44 #[rv a1, iv (1 : Int32), rv a3, iv (1 : Int32), iv (1 : Int32), iv (1 : Int32), iv c0] []))
  refine own_go (XS.iload X3.here hx rfl (hb hby d5_44) rfl (Steps.refl _)) ?_
  show own_Fin _ _ _ _ (T3.setTop (mkF m 46 #[rv a1, iv (1 : Int32), rv a3, iv (1 : Int32), iv (1 : Int32), iv (1 : Int32), iv c0] [(.int (1 : Int32))]))
  obtain ⟨fs4, hr4, hrun4, hended4, hW4, hsame4⟩ := X3.leave (v := some (.int (1 : Int32))) (fun h => by rw [Bd.returns] at h; cases h)
  refine own_done (own_retI X3 hx Bd.returns (hb hby d5_46) hr4) hrun4 hended4 ⟨_, _, rfl, ?_, ⟨_, rfl⟩, hW4, hsame4.mono (by decide) (by decide)⟩
  show Qcm_1 Z a1 k c0 a3 kb h0 n0 _ T3.heap _
  rw [e3]
  exact ⟨rfl, N3, K3, V_a3_3⟩
theorem d4_0 : decode jdk_52_method_16_code 0 = .ok (.iload_n 2, 1) := by decide +kernel
theorem d4_1 : decode jdk_52_method_16_code 1 = .ok (.newarray .byte, 2) := by decide +kernel
theorem d4_3 : decode jdk_52_method_16_code 3 = .ok (.astore_n 3, 1) := by decide +kernel
theorem d4_4 : decode jdk_52_method_16_code 4 = .ok (.aload_n 0, 1) := by decide +kernel
theorem d4_5 : decode jdk_52_method_16_code 5 = .ok (.iload_n 1, 1) := by decide +kernel
theorem d4_6 : decode jdk_52_method_16_code 6 = .ok (.aload_n 3, 1) := by decide +kernel
theorem d4_7 : decode jdk_52_method_16_code 7 = .ok (.iconst 0, 1) := by decide +kernel
theorem d4_8 : decode jdk_52_method_16_code 8 = .ok (.iload_n 2, 1) := by decide +kernel
theorem d4_9 : decode jdk_52_method_16_code 9 = .ok (.invokestatic 115, 3) := by decide +kernel
theorem d4_12 : decode jdk_52_method_16_code 12 = .ok (.istore 4, 2) := by decide +kernel
theorem d4_14 : decode jdk_52_method_16_code 14 = .ok (.iload 4, 2) := by decide +kernel
theorem d4_16 : decode jdk_52_method_16_code 16 = .ok (.iload_n 2, 1) := by decide +kernel
theorem d4_17 : decode jdk_52_method_16_code 17 = .ok (.if_icmp .eq 40, 3) := by decide +kernel
theorem d4_20 : decode jdk_52_method_16_code 20 = .ok (.aload_n 0, 1) := by decide +kernel
theorem d4_21 : decode jdk_52_method_16_code 21 = .ok (.iload_n 1, 1) := by decide +kernel
theorem d4_22 : decode jdk_52_method_16_code 22 = .ok (.iload_n 2, 1) := by decide +kernel
theorem d4_23 : decode jdk_52_method_16_code 23 = .ok (.invokestatic 119, 3) := by decide +kernel
theorem d4_26 : decode jdk_52_method_16_code 26 = .ok (.astore 5, 2) := by decide +kernel
theorem d4_28 : decode jdk_52_method_16_code 28 = .ok (.aload 5, 2) := by decide +kernel
theorem d4_30 : decode jdk_52_method_16_code 30 = .ok (.iload 4, 2) := by decide +kernel
theorem d4_32 : decode jdk_52_method_16_code 32 = .ok (.invokestatic 71, 3) := by decide +kernel
theorem d4_35 : decode jdk_52_method_16_code 35 = .ok (.sipush 255, 3) := by decide +kernel
theorem d4_38 : decode jdk_52_method_16_code 38 = .ok (.if_icmp .gt 16, 3) := by decide +kernel
theorem d4_41 : decode jdk_52_method_16_code 41 = .ok (.aload 5, 2) := by decide +kernel
theorem d4_43 : decode jdk_52_method_16_code 43 = .ok (.iconst 0, 1) := by decide +kernel
theorem d4_44 : decode jdk_52_method_16_code 44 = .ok (.aload_n 3, 1) := by decide +kernel
theorem d4_45 : decode jdk_52_method_16_code 45 = .ok (.iconst 0, 1) := by decide +kernel
theorem d4_46 : decode jdk_52_method_16_code 46 = .ok (.iload_n 2, 1) := by decide +kernel
theorem d4_47 : decode jdk_52_method_16_code 47 = .ok (.invokestatic 123, 3) := by decide +kernel
theorem d4_50 : decode jdk_52_method_16_code 50 = .ok (.iload_n 2, 1) := by decide +kernel
theorem d4_51 : decode jdk_52_method_16_code 51 = .ok (.if_icmp .eq 6, 3) := by decide +kernel
theorem d4_54 : decode jdk_52_method_16_code 54 = .ok (.aload 5, 2) := by decide +kernel
theorem d4_56 : decode jdk_52_method_16_code 56 = .ok (.areturn, 1) := by decide +kernel
theorem d4_57 : decode jdk_52_method_16_code 57 = .ok (.aload_n 3, 1) := by decide +kernel
theorem d4_58 : decode jdk_52_method_16_code 58 = .ok (.areturn, 1) := by decide +kernel
theorem ef_c3_1 (m : MethodId) (x0 : Addr) (x1 : Int32) (x2 : Int32) : entryFrame m #[(.ref x0), (.int x1), (.int x2)] 6 = mkF m 0 #[.val (.ref x0), .val (.int x1), .val (.int x2), .unset, .unset, .unset] [] := by first | (simp [entryFrame, mkF, argsToLocals, Value.category]; done) | rfl
def Qc3_1 (Z : State) (a1 : Addr) (k : ClassId) (c0 : Int32) (h0 : Heap) (n0 : Nat) (v : Option Value) (h : Heap) (L : List Loc) : Prop := ∃ (b : Addr) (kb : ClassId), v = some (.ref b) ∧ Fr n0 L ∧ Keep h0 h [] ∧ n0 ≤ b ∧ h0.size ≤ b ∧ Arv Z h b kb .byte (1 : Int32) [(.int (nar .byte (c0.toInt8.toInt32)))] (.int (0 : Int32))
abbrev Gc3_1 (Z : State) (a1 : Addr) (k : ClassId) (c0 : Int32) (h0 : Heap) (n0 : Nat) (s : State) : Outcome → State → Prop := fun o U' => ∃ v L, o = .returned v ∧ Qc3_1 Z a1 k c0 h0 n0 v U'.heap L ∧ FrameEnd s o U' L ({ frames := 1, cells := 1, slots := 1, locals := 24 } : Room).cells ({ frames := 1, cells := 1, slots := 1, locals := 24 } : Room).slots
theorem pd__28__5b_CI_5b_BII_29_I : parseMethodDescriptor "([CI[BII)I" = some ⟨[(.array .char), .int, (.array .byte), .int, .int], some .int⟩ := by decide +kernel
set_option maxRecDepth 65536 in
set_option maxHeartbeats 40000000 in
theorem rmc3_1 (l : Launch) (Z : State) (a0 : Array Value) (hw : ∀ d ∈ tables_1, d.before a0 Z = true) (ws : List Jvm.Cond) (a1 : Addr) (k : ClassId) (c0 : Int32) (h0 : Heap) (n0 : Nat) (Z0 : n0 ≤ h0.size) (V_a1 : Arv Z h0 a1 k .char (1 : Int32) [(.int c0)] (.int (0 : Int32))) (hc0 : ¬ (255 : Int32) < c0) :
    MetFree l (⟨"java/lang/StringUTF16", "compress", "([CII)[B"⟩ : MethodName) (head1 (Jvm.Cond.code (⟨"java/lang/StringUTF16", "compress", "([CII)[B"⟩ : MethodName) jdk_52_method_16_code 6 (some (.array .byte)) :: ws) ({ frames := 1, cells := 1, slots := 1, locals := 24 } : Room)) (fun a U => a = #[(.ref a1), (.int (0 : Int32)), (.int (1 : Int32))] ∧ Z.Warmed39 U.vm ∧ U.heap = h0) (fun _ _ _ _ _ => True) (fun _ U o U' => ∃ v L, o = .returned v ∧ Qc3_1 Z a1 k c0 h0 n0 v U'.heap L ∧ FrameEnd U o U' L ({ frames := 1, cells := 1, slots := 1, locals := 24 } : Room).cells ({ frames := 1, cells := 1, slots := 1, locals := 24 } : Room).slots) := by
  refine MetFree.of_bodySF (plainFor_of_name pn_java_lang_StringUTF16) hisR ?_
  intro p e s m args below meth c s₁ Bd hml0 hP hK
  obtain ⟨rfl, hZ, hh⟩ := hP
  have hx := Bd.exec
  have hby := Bd.bytes
  have hml : c.maxLocals = 6 := hml0
  have hown : s.vm.findClass "java/lang/StringUTF16" = some m.cls := findClass_of_methodNamed Bd.named
  have hnm := (name_of_methodNamed Bd.named Bd.method).1
  have X0 : Stand p l e ({ frames := 1, cells := 1, slots := 1, locals := 24 } : Room) s m #[(.ref a1), (.int (0 : Int32)), (.int (1 : Int32))] below meth c s₁ [] 0 0 := Stand.of_body Bd
  have e0 : s₁.heap = h0 := by rw [← hh, Bd.state]; rfl
  have es0 : s.heap = h0 := hh
  have N0 := Fr.nil n0
  show own_Fin p e below (Gc3_1 Z a1 k c0 h0 n0 s) (s₁.setTop (entryFrame m #[(.ref a1), (.int (0 : Int32)), (.int (1 : Int32))] 6))
  rw [ef_c3_1 m a1 (0 : Int32) (1 : Int32)]
  have Kz := Keep.refl h0 []
  refine own_go (XS.iloadN X0.here hx rfl (hb hby d4_0) rfl (Steps.refl _)) ?_
  show own_Fin _ _ _ _ (s₁.setTop (mkF m 1 #[rv a1, iv (0 : Int32), iv (1 : Int32), .unset, .unset, .unset] [(.int (1 : Int32))]))
  obtain ⟨T5, h5, k5, X5, e5, E5, A5, st5⟩ := newP X0 hx hZ (hw _ (List.mem_of_getElem? (i := 0) rfl)) e0 (g := (mkF m 1 #[rv a1, iv (0 : Int32), iv (1 : Int32), .unset, .unset, .unset] [(.int (1 : Int32))])) rfl (hb hby d4_1) rfl (by decide) (cap := 1) (by decide) (by decide) (by decide) (by decide)
  obtain ⟨b5, g5⟩ : ∃ z, z = h0.size := ⟨_, rfl⟩
  rw [← g5] at A5 st5
  refine own_by st5 ?_
  have ne_a1_b5 : a1 ≠ b5 := Nat.ne_of_lt (Nat.lt_of_lt_of_eq V_a1.lt g5.symm)
  have V_a1_5 := V_a1.ext E5
  have g_b5 : n0 ≤ b5 := Nat.le_trans Z0 (Nat.le_of_eq g5.symm)
  have sz_b5 : h0.size ≤ b5 := Nat.le_trans Kz.1 (Nat.le_of_eq g5.symm)
  have K5 := Kz.ext E5
  have Z5 : n0 ≤ h5.size := Nat.le_trans Z0 E5.1
  have V_b5 : Arv Z h5 b5 k5 .byte (1 : Int32) [(.int (0 : Int32))] (.int (0 : Int32)) := (Arv.new A5 (by decide)).pad (pad_rep [] (.int (0 : Int32)) 1)
  show own_Fin _ _ _ _ (T5.setTop (mkF m 3 #[rv a1, iv (0 : Int32), iv (1 : Int32), .unset, .unset, .unset] [(.ref b5)]))
  refine own_go (XS.astoreN X5.here hx rfl (hb hby d4_3) rfl rfl rfl (Steps.refl _)) ?_
  show own_Fin _ _ _ _ (T5.setTop (mkF m 4 #[rv a1, iv (0 : Int32), iv (1 : Int32), rv b5, .unset, .unset] []))
  refine own_go (XS.aloadN X5.here hx rfl (hb hby d4_4) rfl rfl (Steps.refl _)) ?_
  show own_Fin _ _ _ _ (T5.setTop (mkF m 5 #[rv a1, iv (0 : Int32), iv (1 : Int32), rv b5, .unset, .unset] [(.ref a1)]))
  refine own_go (XS.iloadN X5.here hx rfl (hb hby d4_5) rfl (Steps.refl _)) ?_
  show own_Fin _ _ _ _ (T5.setTop (mkF m 6 #[rv a1, iv (0 : Int32), iv (1 : Int32), rv b5, .unset, .unset] [(.int (0 : Int32)), (.ref a1)]))
  refine own_go (XS.aloadN X5.here hx rfl (hb hby d4_6) rfl rfl (Steps.refl _)) ?_
  show own_Fin _ _ _ _ (T5.setTop (mkF m 7 #[rv a1, iv (0 : Int32), iv (1 : Int32), rv b5, .unset, .unset] [(.ref b5), (.int (0 : Int32)), (.ref a1)]))
  refine own_go (XS.iconst X5.here hx rfl (hb hby d4_7) (Steps.refl _)) ?_
  show own_Fin _ _ _ _ (T5.setTop (mkF m 8 #[rv a1, iv (0 : Int32), iv (1 : Int32), rv b5, .unset, .unset] [(.int (0 : Int32)), (.ref b5), (.int (0 : Int32)), (.ref a1)]))
  refine own_go (XS.iloadN X5.here hx rfl (hb hby d4_8) rfl (Steps.refl _)) ?_
  show own_Fin _ _ _ _ (T5.setTop (mkF m 9 #[rv a1, iv (0 : Int32), iv (1 : Int32), rv b5, .unset, .unset] [(.int (1 : Int32)), (.int (0 : Int32)), (.ref b5), (.int (0 : Int32)), (.ref a1)]))
  obtain ⟨_, _, ⟨T6, L6, k6, n6⟩, -, X6, ⟨Lc6, hQ6, l6, y6, z6⟩, st6⟩ := Jvm.LawKit.callS X5 hx (y := (⟨"java/lang/StringUTF16", "compress", "([CI[BII)I"⟩ : MethodName)) hown (mvT hZ (hw _ (List.mem_of_getElem? (i := 20) rfl))) (mvT hZ (hw _ (List.mem_of_getElem? (i := 21) rfl))) (mvT hZ (hw _ (List.mem_of_getElem? (i := 18) rfl))) (mvT hZ (hw _ (List.mem_of_getElem? (i := 22) rfl))) (by decide) (backOf (W := 0) (rmcm_1 l Z a0 hw [] a1 k c0 b5 k5 h5 n0 Z5 V_a1_5 V_b5 g_b5 ne_a1_b5 hc0) hZ (hw _ (List.mem_of_getElem? (i := 22) rfl)) (hw _ (List.mem_of_getElem? (i := 18) rfl)) (by decide) (by decide)) (g := (mkF m 9 #[rv a1, iv (0 : Int32), iv (1 : Int32), rv b5, .unset, .unset] [(.int (1 : Int32)), (.int (0 : Int32)), (.ref b5), (.int (0 : Int32)), (.ref a1)])) rfl (by rw [hml]; rfl) (argsL := [(.ref a1), (.int (0 : Int32)), (.ref b5), (.int (0 : Int32)), (.int (1 : Int32))]) (rest := []) (lenOf pd__28__5b_CI_5b_BII_29_I rfl) rfl (by show 2 * 0 + _ ≤ _; exact Nat.le_of_eq rfl) (hb hby d4_9) (fun _ hv => ⟨rfl, e5, (by decide : 1 + 0 ≤ _), (by decide : 1 + 0 ≤ _)⟩)
  dsimp only [Pt.U, Pt.locs, Pt.cells, Pt.slots] at X6 l6 y6 z6 st6 hQ6
  subst l6 y6 z6
  refine own_by st6 ?_
  obtain ⟨rfl, Nq6, K6, r6_0⟩ := hQ6
  have V_a1_6 := V_a1_5.keep K6 (ninS ne_a1_b5 nin0)
  have Z6 : n0 ≤ T6.heap.size := Nat.le_trans Z5 K6.1
  have Kt6 := K5.trans K6 (allS (P := fun x => x ∈ _ ∨ _ ≤ x) (Or.inr sz_b5) all0)
  have N6 := Fr.app N0 Nq6
  show own_Fin _ _ _ _ (T6.setTop (mkF m 12 #[rv a1, iv (0 : Int32), iv (1 : Int32), rv b5, .unset, .unset] [(.int (1 : Int32))]))
  refine own_go (XS.istore X6.here hx rfl (hb hby d4_12) rfl rfl (Steps.refl _)) ?_
  show own_Fin _ _ _ _ (T6.setTop (mkF m 14 #[rv a1, iv (0 : Int32), iv (1 : Int32), rv b5, iv (1 : Int32), .unset] []))
  refine own_go (XS.iload X6.here hx rfl (hb hby d4_14) rfl (Steps.refl _)) ?_
  show own_Fin _ _ _ _ (T6.setTop (mkF m 16 #[rv a1, iv (0 : Int32), iv (1 : Int32), rv b5, iv (1 : Int32), .unset] [(.int (1 : Int32))]))
  refine own_go (XS.iloadN X6.here hx rfl (hb hby d4_16) rfl (Steps.refl _)) ?_
  show own_Fin _ _ _ _ (T6.setTop (mkF m 17 #[rv a1, iv (0 : Int32), iv (1 : Int32), rv b5, iv (1 : Int32), .unset] [(.int (1 : Int32)), (.int (1 : Int32))]))
  refine own_go (XS.icmpYes X6.here hx rfl (pc0 := 17) (pc' := 57) rfl (hb hby d4_17) rfl (teq (by decide : (1 : Int32) = (1 : Int32))).1 (by decide) (by decide) (Steps.refl _)) ?_
  show own_Fin _ _ _ _ (T6.setTop (mkF m 57 #[rv a1, iv (0 : Int32), iv (1 : Int32), rv b5, iv (1 : Int32), .unset] []))
  refine own_go (XS.aloadN X6.here hx rfl (hb hby d4_57) rfl rfl (Steps.refl _)) ?_
  show own_Fin _ _ _ _ (T6.setTop (mkF m 58 #[rv a1, iv (0 : Int32), iv (1 : Int32), rv b5, iv (1 : Int32), .unset] [(.ref b5)]))
  obtain ⟨fs7, hr7, hrun7, hended7, hW7, hsame7⟩ := X6.leave (v := some (.ref b5)) (fun h => by rw [Bd.returns] at h; cases h)
  refine own_done (retOut X6 hx Bd.returns rfl (Or.inr (Or.inr (Or.inr (Or.inr ⟨rfl, rfl, rfl⟩)))) (hb hby d4_58) hr7) hrun7 hended7 ⟨_, _, rfl, ?_, ⟨_, rfl⟩, hW7, hsame7.mono (by decide) (by decide)⟩
  show Qc3_1 Z a1 k c0 h0 n0 _ T6.heap _
  exact ⟨b5, k5, rfl, N6, Kt6, g_b5, sz_b5, r6_0⟩
theorem d6_0 : decode jdk_52_method_15_code 0 = .ok (.iload_n 1, 1) := by decide +kernel
theorem d6_1 : decode jdk_52_method_15_code 1 = .ok (.aload_n 0, 1) := by decide +kernel
theorem d6_2 : decode jdk_52_method_15_code 2 = .ok (.arraylength, 1) := by decide +kernel
theorem d6_3 : decode jdk_52_method_15_code 3 = .ok (.isub, 1) := by decide +kernel
theorem d6_4 : decode jdk_52_method_15_code 4 = .ok (.bipush 31, 2) := by decide +kernel
theorem d6_6 : decode jdk_52_method_15_code 6 = .ok (.iushr, 1) := by decide +kernel
theorem d6_7 : decode jdk_52_method_15_code 7 = .ok (.i2b, 1) := by decide +kernel
theorem d6_8 : decode jdk_52_method_15_code 8 = .ok (.ireturn, 1) := by decide +kernel
theorem ef_cf_1 (m : MethodId) (x0 : Addr) (x1 : Int32) : entryFrame m #[(.ref x0), (.int x1)] 2 = mkF m 0 #[.val (.ref x0), .val (.int x1)] [] := by first | (simp [entryFrame, mkF, argsToLocals, Value.category]; done) | rfl
def Qcf_1 (Z : State) (a1 : Addr) (k : ClassId) (c0 : Int32) (h0 : Heap) (n0 : Nat) (v : Option Value) (h : Heap) (L : List Loc) : Prop := v = some (.int (0 : Int32)) ∧ Fr n0 L ∧ h = h0
abbrev Gcf_1 (Z : State) (a1 : Addr) (k : ClassId) (c0 : Int32) (h0 : Heap) (n0 : Nat) (s : State) : Outcome → State → Prop := fun o U' => ∃ v L, o = .returned v ∧ Qcf_1 Z a1 k c0 h0 n0 v U'.heap L ∧ FrameEnd s o U' L ({ frames := 0, cells := 0, slots := 0, locals := 0 } : Room).cells ({ frames := 0, cells := 0, slots := 0, locals := 0 } : Room).slots
set_option maxRecDepth 65536 in
set_option maxHeartbeats 40000000 in
theorem rmcf_1 (l : Launch) (Z : State) (a0 : Array Value) (hw : ∀ d ∈ tables_1, d.before a0 Z = true) (ws : List Jvm.Cond) (a1 : Addr) (k : ClassId) (c0 : Int32) (h0 : Heap) (n0 : Nat) (Z0 : n0 ≤ h0.size) (V_a1 : Arv Z h0 a1 k .byte (1 : Int32) [(.int (nar .byte (c0.toInt8.toInt32)))] (.int (0 : Int32))) :
    MetFree l (⟨"java/lang/StringUTF16", "coderFromArrayLen", "([BI)B"⟩ : MethodName) (head1 (Jvm.Cond.code (⟨"java/lang/StringUTF16", "coderFromArrayLen", "([BI)B"⟩ : MethodName) jdk_52_method_15_code 2 (some .byte) :: ws) ({ frames := 0, cells := 0, slots := 0, locals := 0 } : Room)) (fun a U => a = #[(.ref a1), (.int (1 : Int32))] ∧ Z.Warmed39 U.vm ∧ U.heap = h0) (fun _ _ _ _ _ => True) (fun _ U o U' => ∃ v L, o = .returned v ∧ Qcf_1 Z a1 k c0 h0 n0 v U'.heap L ∧ FrameEnd U o U' L ({ frames := 0, cells := 0, slots := 0, locals := 0 } : Room).cells ({ frames := 0, cells := 0, slots := 0, locals := 0 } : Room).slots) := by
  refine MetFree.of_bodySF (plainFor_of_name pn_java_lang_StringUTF16) hisR ?_
  intro p e s m args below meth c s₁ Bd hml0 hP hK
  obtain ⟨rfl, hZ, hh⟩ := hP
  have hx := Bd.exec
  have hby := Bd.bytes
  have hml : c.maxLocals = 2 := hml0
  have hown : s.vm.findClass "java/lang/StringUTF16" = some m.cls := findClass_of_methodNamed Bd.named
  have hnm := (name_of_methodNamed Bd.named Bd.method).1
  have X0 : Stand p l e ({ frames := 0, cells := 0, slots := 0, locals := 0 } : Room) s m #[(.ref a1), (.int (1 : Int32))] below meth c s₁ [] 0 0 := Stand.of_body Bd
  have e0 : s₁.heap = h0 := by rw [← hh, Bd.state]; rfl
  have es0 : s.heap = h0 := hh
  have N0 := Fr.nil n0
  show own_Fin p e below (Gcf_1 Z a1 k c0 h0 n0 s) (s₁.setTop (entryFrame m #[(.ref a1), (.int (1 : Int32))] 2))
  rw [ef_cf_1 m a1 (1 : Int32)]
  refine own_go (XS.iloadN X0.here hx rfl (hb hby d6_0) rfl (Steps.refl _)) ?_
  show own_Fin _ _ _ _ (s₁.setTop (mkF m 1 #[rv a1, iv (1 : Int32)] [(.int (1 : Int32))]))
  refine own_go (XS.aloadN X0.here hx rfl (hb hby d6_1) rfl rfl (Steps.refl _)) ?_
  show own_Fin _ _ _ _ (s₁.setTop (mkF m 2 #[rv a1, iv (1 : Int32)] [(.ref a1), (.int (1 : Int32))]))
  obtain ⟨cl8, Ar8, qa8, Sa8, Na8, Ha8, Ga8⟩ := id V_a1
  refine own_by (X0.arraylength hx (by rw [e0]; exact Ar8.1) (State.isArrayOf_alike hZ.alike Ar8.2.1) (g := (mkF m 2 #[rv a1, iv (1 : Int32)] [(.ref a1), (.int (1 : Int32))])) rfl rfl (hb hby d6_2)) ?_
  rw [len_of Sa8 Na8]
  show own_Fin _ _ _ _ (s₁.setTop (mkF m 3 #[rv a1, iv (1 : Int32)] [(.int (1 : Int32)), (.int (1 : Int32))]))
  refine own_go (XS.isub X0.here hx rfl (hb hby d6_3) rfl (Steps.refl _)) ?_
  show own_Fin _ _ _ _ (s₁.setTop (mkF m 4 #[rv a1, iv (1 : Int32)] [(.int (0 : Int32))]))
  refine own_go (XS.bipush X0.here hx rfl (hb hby d6_4) (Steps.refl _)) ?_
  show own_Fin _ _ _ _ (s₁.setTop (mkF m 6 #[rv a1, iv (1 : Int32)] [(.int (31 : Int32)), (.int (0 : Int32))]))
  refine own_go (XS.iushr X0.here hx rfl (hb hby d6_6) rfl (Steps.refl _)) ?_
  show own_Fin _ _ _ _ (s₁.setTop (mkF m 7 #[rv a1, iv (1 : Int32)] [(.int (((0 : Int32).toUInt32 >>> ((31 : Int32) &&& 31).toUInt32).toInt32))]))
  refine own_go (XS.i2b X0.here hx rfl (hb hby d6_7) rfl (Steps.refl _)) ?_
  show own_Fin _ _ _ _ (s₁.setTop (mkF m 8 #[rv a1, iv (1 : Int32)] [(.int ((((0 : Int32).toUInt32 >>> ((31 : Int32) &&& 31).toUInt32).toInt32).toInt8.toInt32))]))
  obtain ⟨fs9, hr9, hrun9, hended9, hW9, hsame9⟩ := X0.leave (v := some (.int ((((0 : Int32).toUInt32 >>> ((31 : Int32) &&& 31).toUInt32).toInt32).toInt8.toInt32))) (fun h => by rw [Bd.returns] at h; cases h)
  refine own_done (retN X0 hx (t := .byte) Bd.returns (by simp) (hb hby d6_8) hr9) hrun9 hended9 ⟨_, _, rfl, ?_, ⟨_, rfl⟩, hW9, hsame9.mono (by decide) (by decide)⟩
  show Qcf_1 Z a1 k c0 h0 n0 _ s₁.heap _
  rw [e0]
  exact ⟨(by decide), N0, rfl⟩
theorem d2_0 : decode jdk_42_method_149_code 0 = .ok (.aload_n 0, 1) := by decide +kernel
theorem d2_1 : decode jdk_42_method_149_code 1 = .ok (.invokespecial 1, 3) := by decide +kernel
theorem d2_4 : decode jdk_42_method_149_code 4 = .ok (.iload_n 3, 1) := by decide +kernel
theorem d2_5 : decode jdk_42_method_149_code 5 = .ok (.ifCond .ne 22, 3) := by decide +kernel
theorem d2_8 : decode jdk_42_method_149_code 8 = .ok (.aload_n 0, 1) := by decide +kernel
theorem d2_9 : decode jdk_42_method_149_code 9 = .ok (.ldc 7, 2) := by decide +kernel
theorem d2_11 : decode jdk_42_method_149_code 11 = .ok (.getfield 9, 3) := by decide +kernel
theorem d2_14 : decode jdk_42_method_149_code 14 = .ok (.putfield 9, 3) := by decide +kernel
theorem d2_17 : decode jdk_42_method_149_code 17 = .ok (.aload_n 0, 1) := by decide +kernel
theorem d2_18 : decode jdk_42_method_149_code 18 = .ok (.ldc 7, 2) := by decide +kernel
theorem d2_20 : decode jdk_42_method_149_code 20 = .ok (.getfield 15, 3) := by decide +kernel
theorem d2_23 : decode jdk_42_method_149_code 23 = .ok (.putfield 15, 3) := by decide +kernel
theorem d2_26 : decode jdk_42_method_149_code 26 = .ok (.return_, 1) := by decide +kernel
theorem d2_27 : decode jdk_42_method_149_code 27 = .ok (.getstatic 38, 3) := by decide +kernel
theorem d2_30 : decode jdk_42_method_149_code 30 = .ok (.ifCond .eq 28, 3) := by decide +kernel
theorem d2_33 : decode jdk_42_method_149_code 33 = .ok (.aload_n 1, 1) := by decide +kernel
theorem d2_34 : decode jdk_42_method_149_code 34 = .ok (.iload_n 2, 1) := by decide +kernel
theorem d2_35 : decode jdk_42_method_149_code 35 = .ok (.iload_n 3, 1) := by decide +kernel
theorem d2_36 : decode jdk_42_method_149_code 36 = .ok (.invokestatic 177, 3) := by decide +kernel
theorem d2_39 : decode jdk_42_method_149_code 39 = .ok (.astore 5, 2) := by decide +kernel
theorem d2_41 : decode jdk_42_method_149_code 41 = .ok (.aload_n 0, 1) := by decide +kernel
theorem d2_42 : decode jdk_42_method_149_code 42 = .ok (.aload 5, 2) := by decide +kernel
theorem d2_44 : decode jdk_42_method_149_code 44 = .ok (.iload_n 3, 1) := by decide +kernel
theorem d2_45 : decode jdk_42_method_149_code 45 = .ok (.invokestatic 47, 3) := by decide +kernel
theorem d2_48 : decode jdk_42_method_149_code 48 = .ok (.putfield 15, 3) := by decide +kernel
theorem d2_51 : decode jdk_42_method_149_code 51 = .ok (.aload_n 0, 1) := by decide +kernel
theorem d2_52 : decode jdk_42_method_149_code 52 = .ok (.aload 5, 2) := by decide +kernel
theorem d2_54 : decode jdk_42_method_149_code 54 = .ok (.putfield 9, 3) := by decide +kernel
theorem d2_57 : decode jdk_42_method_149_code 57 = .ok (.return_, 1) := by decide +kernel
theorem d2_58 : decode jdk_42_method_149_code 58 = .ok (.aload_n 0, 1) := by decide +kernel
theorem d2_59 : decode jdk_42_method_149_code 59 = .ok (.iconst 1, 1) := by decide +kernel
theorem d2_60 : decode jdk_42_method_149_code 60 = .ok (.putfield 15, 3) := by decide +kernel
theorem d2_63 : decode jdk_42_method_149_code 63 = .ok (.aload_n 0, 1) := by decide +kernel
theorem d2_64 : decode jdk_42_method_149_code 64 = .ok (.aload_n 1, 1) := by decide +kernel
theorem d2_65 : decode jdk_42_method_149_code 65 = .ok (.iload_n 2, 1) := by decide +kernel
theorem d2_66 : decode jdk_42_method_149_code 66 = .ok (.iload_n 3, 1) := by decide +kernel
theorem d2_67 : decode jdk_42_method_149_code 67 = .ok (.invokestatic 180, 3) := by decide +kernel
theorem d2_70 : decode jdk_42_method_149_code 70 = .ok (.putfield 9, 3) := by decide +kernel
theorem d2_73 : decode jdk_42_method_149_code 73 = .ok (.return_, 1) := by decide +kernel
theorem pn_java_lang_String : plainName "java/lang/String" = true := by first | (simp [plainName, overriddenIn]; done) | decide +kernel
theorem ef_i4_1 (m : MethodId) (x0 : Addr) (x1 : Addr) (x2 : Int32) (x3 : Int32) : entryFrame m #[(.ref x0), (.ref x1), (.int x2), (.int x3), .null] 6 = mkF m 0 #[.val (.ref x0), .val (.ref x1), .val (.int x2), .val (.int x3), .val .null, .unset] [] := by first | (simp [entryFrame, mkF, argsToLocals, Value.category]; done) | rfl
def Qi4_1 (Z : State) (a1 : Addr) (a2 : Addr) (k : ClassId) (cs : Int32) (c0 : Int32) (h0 : Heap) (n0 : Nat) (v : Option Value) (h : Heap) (L : List Loc) : Prop := ∃ (b : Addr) (kb : ClassId), v = none ∧ Fr n0 L ∧ Keep h0 h [a1] ∧ n0 ≤ b ∧ h0.size ≤ b ∧ Exa Z h a1 "java/lang/String" ∧ Fld Z h a1 "java/lang/String" "value" "[B" (.ref b) ∧ Fld Z h a1 "java/lang/String" "coder" "B" (.int (0 : Int32)) ∧ Arv Z h b kb .byte (1 : Int32) [(.int (nar .byte (c0.toInt8.toInt32)))] (.int (0 : Int32))
abbrev Gi4_1 (Z : State) (a1 : Addr) (a2 : Addr) (k : ClassId) (cs : Int32) (c0 : Int32) (h0 : Heap) (n0 : Nat) (s : State) : Outcome → State → Prop := fun o U' => ∃ v L, o = .returned v ∧ Qi4_1 Z a1 a2 k cs c0 h0 n0 v U'.heap L ∧ FrameEnd s o U' L ({ frames := 2, cells := 1, slots := 1, locals := 48 } : Room).cells ({ frames := 2, cells := 1, slots := 1, locals := 48 } : Room).slots
theorem pd__28__5b_CII_29__5b_B : parseMethodDescriptor "([CII)[B" = some ⟨[(.array .char), .int, .int], some (.array .byte)⟩ := by decide +kernel
theorem pd__28__5b_BI_29_B : parseMethodDescriptor "([BI)B" = some ⟨[(.array .byte), .int], some .byte⟩ := by decide +kernel
set_option maxRecDepth 65536 in
set_option maxHeartbeats 40000000 in
theorem rmi4_1 (l : Launch) (Z : State) (a0 : Array Value) (hw : ∀ d ∈ tables_1, d.before a0 Z = true) (ws : List Jvm.Cond) (a1 : Addr) (a2 : Addr) (k : ClassId) (cs : Int32) (c0 : Int32) (h0 : Heap) (n0 : Nat) (Z0 : n0 ≤ h0.size) (E_a1 : Exa Z h0 a1 "java/lang/String") (F_value_a1 : Fld Z h0 a1 "java/lang/String" "value" "[B" .null) (F_coder_a1 : Fld Z h0 a1 "java/lang/String" "coder" "B" (.int (0 : Int32))) (g_a1 : n0 ≤ a1) (O0 : Old Z n0 h0) (S_COMPACT_STRINGS : Sta Z Z.heap "java/lang/String" "COMPACT_STRINGS" "Z" (.int cs)) (hcs : ¬ cs = (0 : Int32)) (V_a2 : Arv Z h0 a2 k .char (1 : Int32) [(.int c0)] (.int (0 : Int32))) (hc0 : ¬ (255 : Int32) < c0) :
    MetFree l (⟨"java/lang/String", "<init>", "([CIILjava/lang/Void;)V"⟩ : MethodName) (head1 (Jvm.Cond.code (⟨"java/lang/String", "<init>", "([CIILjava/lang/Void;)V"⟩ : MethodName) jdk_42_method_149_code 6 none :: ws) ({ frames := 2, cells := 1, slots := 1, locals := 48 } : Room)) (fun a U => a = #[(.ref a1), (.ref a2), (.int (0 : Int32)), (.int (1 : Int32)), .null] ∧ Z.Warmed39 U.vm ∧ U.heap = h0) (fun _ _ _ _ _ => True) (fun _ U o U' => ∃ v L, o = .returned v ∧ Qi4_1 Z a1 a2 k cs c0 h0 n0 v U'.heap L ∧ FrameEnd U o U' L ({ frames := 2, cells := 1, slots := 1, locals := 48 } : Room).cells ({ frames := 2, cells := 1, slots := 1, locals := 48 } : Room).slots) := by
  refine MetFree.of_bodySF (plainFor_of_name pn_java_lang_String) hisR ?_
  intro p e s m args below meth c s₁ Bd hml0 hP hK
  obtain ⟨rfl, hZ, hh⟩ := hP
  have hx := Bd.exec
  have hby := Bd.bytes
  have hml : c.maxLocals = 6 := hml0
  have hown : s.vm.findClass "java/lang/String" = some m.cls := findClass_of_methodNamed Bd.named
  have hnm := (name_of_methodNamed Bd.named Bd.method).1
  have X0 : Stand p l e ({ frames := 2, cells := 1, slots := 1, locals := 48 } : Room) s m #[(.ref a1), (.ref a2), (.int (0 : Int32)), (.int (1 : Int32)), .null] below meth c s₁ [] 0 0 := Stand.of_body Bd
  have e0 : s₁.heap = h0 := by rw [← hh, Bd.state]; rfl
  have es0 : s.heap = h0 := hh
  have N0 := Fr.nil n0
  show own_Fin p e below (Gi4_1 Z a1 a2 k cs c0 h0 n0 s) (s₁.setTop (entryFrame m #[(.ref a1), (.ref a2), (.int (0 : Int32)), (.int (1 : Int32)), .null] 6))
  rw [ef_i4_1 m a1 a2 (0 : Int32) (1 : Int32)]
  have Kz := Keep.refl h0 [a1]
  refine own_go (XS.aloadN X0.here hx rfl (hb hby d2_0) rfl rfl (Steps.refl _)) ?_
  show own_Fin _ _ _ _ (s₁.setTop (mkF m 1 #[rv a1, rv a2, iv (0 : Int32), iv (1 : Int32), .val .null, .unset] [(.ref a1)]))
  obtain ⟨T10, X10, e10, st10⟩ := initO X0 hx hZ hown (hw _ (List.mem_of_getElem? (i := 12) rfl)) (hw _ (List.mem_of_getElem? (i := 13) rfl)) (hw _ (List.mem_of_getElem? (i := 14) rfl)) e0 (g := (mkF m 1 #[rv a1, rv a2, iv (0 : Int32), iv (1 : Int32), .val .null, .unset] [(.ref a1)])) rfl (by rw [hml]; rfl) rfl (hb hby d2_1) (by decide) (W := 0) (by show 2 * 0 + _ ≤ _; exact Nat.le_of_eq rfl) (by decide)
  refine own_by st10 ?_
  show own_Fin _ _ _ _ (T10.setTop (mkF m 4 #[rv a1, rv a2, iv (0 : Int32), iv (1 : Int32), .val .null, .unset] []))
  refine own_go (XS.iloadN X10.here hx rfl (hb hby d2_4) rfl (Steps.refl _)) ?_
  show own_Fin _ _ _ _ (T10.setTop (mkF m 5 #[rv a1, rv a2, iv (0 : Int32), iv (1 : Int32), .val .null, .unset] [(.int (1 : Int32))]))
  refine own_go (XS.ifYes X10.here hx rfl (pc0 := 5) (pc' := 27) rfl (hb hby d2_5) rfl ((if0 _ _).trans (feq (by decide : ¬ ((1 : Int32) = (0 : Int32)))).2) (by decide) (by decide) (Steps.refl _)) ?_
  show own_Fin _ _ _ _ (T10.setTop (mkF m 27 #[rv a1, rv a2, iv (0 : Int32), iv (1 : Int32), .val .null, .unset] []))
  obtain ⟨T11, X11, e11, st11⟩ := getS2 X10 hx hZ hown (host := "") (Or.inl (hw _ (List.mem_of_getElem? (i := 15) rfl))) Via.refl e10 (S_COMPACT_STRINGS.ext O0.2) (g := (mkF m 27 #[rv a1, rv a2, iv (0 : Int32), iv (1 : Int32), .val .null, .unset] [])) rfl (hb hby d2_27)
  refine own_by st11 ?_
  show own_Fin _ _ _ _ (T11.setTop (mkF m 30 #[rv a1, rv a2, iv (0 : Int32), iv (1 : Int32), .val .null, .unset] [(.int cs)]))
  refine own_go (XS.ifNo X11.here hx rfl (hb hby d2_30) rfl ((if0 _ _).trans (feq (show ¬ (cs = (0 : Int32)) from hcs)).1) (Steps.refl _)) ?_
  show own_Fin _ _ _ _ (T11.setTop (mkF m 33 #[rv a1, rv a2, iv (0 : Int32), iv (1 : Int32), .val .null, .unset] []))
  refine own_go (XS.aloadN X11.here hx rfl (hb hby d2_33) rfl rfl (Steps.refl _)) ?_
  show own_Fin _ _ _ _ (T11.setTop (mkF m 34 #[rv a1, rv a2, iv (0 : Int32), iv (1 : Int32), .val .null, .unset] [(.ref a2)]))
  refine own_go (XS.iloadN X11.here hx rfl (hb hby d2_34) rfl (Steps.refl _)) ?_
  show own_Fin _ _ _ _ (T11.setTop (mkF m 35 #[rv a1, rv a2, iv (0 : Int32), iv (1 : Int32), .val .null, .unset] [(.int (0 : Int32)), (.ref a2)]))
  refine own_go (XS.iloadN X11.here hx rfl (hb hby d2_35) rfl (Steps.refl _)) ?_
  show own_Fin _ _ _ _ (T11.setTop (mkF m 36 #[rv a1, rv a2, iv (0 : Int32), iv (1 : Int32), .val .null, .unset] [(.int (1 : Int32)), (.int (0 : Int32)), (.ref a2)]))
  obtain ⟨_, _, ⟨T12, L12, k12, n12⟩, -, X12, ⟨Lc12, hQ12, l12, y12, z12⟩, st12⟩ := Jvm.LawKit.callS X11 hx (y := (⟨"java/lang/StringUTF16", "compress", "([CII)[B"⟩ : MethodName)) hown (mvT hZ (hw _ (List.mem_of_getElem? (i := 16) rfl))) (mvT hZ (hw _ (List.mem_of_getElem? (i := 17) rfl))) (mvT hZ (hw _ (List.mem_of_getElem? (i := 18) rfl))) (mvT hZ (hw _ (List.mem_of_getElem? (i := 19) rfl))) (by decide) (backOf (W := 0) (rmc3_1 l Z a0 hw [] a2 k c0 h0 n0 Z0 V_a2 hc0) hZ (hw _ (List.mem_of_getElem? (i := 19) rfl)) (hw _ (List.mem_of_getElem? (i := 18) rfl)) (by decide) (by decide)) (g := (mkF m 36 #[rv a1, rv a2, iv (0 : Int32), iv (1 : Int32), .val .null, .unset] [(.int (1 : Int32)), (.int (0 : Int32)), (.ref a2)])) rfl (by rw [hml]; rfl) (argsL := [(.ref a2), (.int (0 : Int32)), (.int (1 : Int32))]) (rest := []) (lenOf pd__28__5b_CII_29__5b_B rfl) rfl (by show 2 * 0 + _ ≤ _; exact Nat.le_of_eq rfl) (hb hby d2_36) (fun _ hv => ⟨rfl, e11, (by decide : 0 + 1 ≤ _), (by decide : 0 + 1 ≤ _)⟩)
  dsimp only [Pt.U, Pt.locs, Pt.cells, Pt.slots] at X12 l12 y12 z12 st12 hQ12
  subst l12 y12 z12
  refine own_by st12 ?_
  obtain ⟨b_12, kb_12, rfl, Nq12, K12, g_b_12, sb_b_12, r12_0⟩ := hQ12
  have ne_a1_b_12 : a1 ≠ b_12 := Nat.ne_of_lt (Nat.lt_of_lt_of_le E_a1.lt sb_b_12)
  have ne_a2_b_12 : a2 ≠ b_12 := Nat.ne_of_lt (Nat.lt_of_lt_of_le V_a2.lt sb_b_12)
  have sz_b_12 : h0.size ≤ b_12 := Nat.le_trans Kz.1 sb_b_12
  have Od12 := O0.keep K12 all0
  have E_a1_12 := E_a1.keep K12
  have F_value_a1_12 := F_value_a1.keep K12 nin0
  have F_coder_a1_12 := F_coder_a1.keep K12 nin0
  have V_a2_12 := V_a2.keep K12 nin0
  have Z12 : n0 ≤ T12.heap.size := Nat.le_trans Z0 K12.1
  have Kt12 := Kz.trans K12 all0
  have N12 := Fr.app N0 Nq12
  show own_Fin _ _ _ _ (T12.setTop (mkF m 39 #[rv a1, rv a2, iv (0 : Int32), iv (1 : Int32), .val .null, .unset] [(.ref b_12)]))
  refine own_go (XS.astore X12.here hx rfl (hb hby d2_39) rfl rfl rfl (Steps.refl _)) ?_
  show own_Fin _ _ _ _ (T12.setTop (mkF m 41 #[rv a1, rv a2, iv (0 : Int32), iv (1 : Int32), .val .null, rv b_12] []))
  refine own_go (XS.aloadN X12.here hx rfl (hb hby d2_41) rfl rfl (Steps.refl _)) ?_
  show own_Fin _ _ _ _ (T12.setTop (mkF m 42 #[rv a1, rv a2, iv (0 : Int32), iv (1 : Int32), .val .null, rv b_12] [(.ref a1)]))
  refine own_go (XS.aload X12.here hx rfl (hb hby d2_42) rfl rfl (Steps.refl _)) ?_
  show own_Fin _ _ _ _ (T12.setTop (mkF m 44 #[rv a1, rv a2, iv (0 : Int32), iv (1 : Int32), .val .null, rv b_12] [(.ref b_12), (.ref a1)]))
  refine own_go (XS.iloadN X12.here hx rfl (hb hby d2_44) rfl (Steps.refl _)) ?_
  show own_Fin _ _ _ _ (T12.setTop (mkF m 45 #[rv a1, rv a2, iv (0 : Int32), iv (1 : Int32), .val .null, rv b_12] [(.int (1 : Int32)), (.ref b_12), (.ref a1)]))
  obtain ⟨_, _, ⟨T13, L13, k13, n13⟩, -, X13, ⟨Lc13, hQ13, l13, y13, z13⟩, st13⟩ := Jvm.LawKit.callS X12 hx (y := (⟨"java/lang/StringUTF16", "coderFromArrayLen", "([BI)B"⟩ : MethodName)) hown (mvT hZ (hw _ (List.mem_of_getElem? (i := 23) rfl))) (mvT hZ (hw _ (List.mem_of_getElem? (i := 24) rfl))) (mvT hZ (hw _ (List.mem_of_getElem? (i := 18) rfl))) (mvT hZ (hw _ (List.mem_of_getElem? (i := 25) rfl))) (by decide) (backOf (W := 1) (rmcf_1 l Z a0 hw [] b_12 kb_12 c0 T12.heap n0 Z12 r12_0) hZ (hw _ (List.mem_of_getElem? (i := 25) rfl)) (hw _ (List.mem_of_getElem? (i := 18) rfl)) (by decide) (by decide)) (g := (mkF m 45 #[rv a1, rv a2, iv (0 : Int32), iv (1 : Int32), .val .null, rv b_12] [(.int (1 : Int32)), (.ref b_12), (.ref a1)])) rfl (by rw [hml]; rfl) (argsL := [(.ref b_12), (.int (1 : Int32))]) (rest := [(.ref a1)]) (lenOf pd__28__5b_BI_29_B rfl) rfl (by show 2 * 0 + _ ≤ _; exact Nat.le_of_eq rfl) (hb hby d2_45) (fun _ hv => ⟨rfl, rfl, (by decide : 1 + 0 ≤ _), (by decide : 1 + 0 ≤ _)⟩)
  dsimp only [Pt.U, Pt.locs, Pt.cells, Pt.slots] at X13 l13 y13 z13 st13 hQ13
  subst l13 y13 z13
  obtain ⟨rfl, Nq13, e13⟩ := hQ13
  refine own_by st13 ?_
  have N13 := Fr.app N12 Nq13
  show own_Fin _ _ _ _ (T13.setTop (mkF m 48 #[rv a1, rv a2, iv (0 : Int32), iv (1 : Int32), .val .null, rv b_12] [(.int (0 : Int32)), (.ref a1)]))
  obtain ⟨T14, h14, X14, e14, W14, st14⟩ := putFN X13 hx hZ hown (hw _ (List.mem_of_getElem? (i := 26) rfl)) Via.refl e13 F_coder_a1_12 E_a1_12 (Or.inr ⟨(hw _ (List.mem_of_getElem? (i := 27) rfl)), rfl, hnm⟩) (hw _ (List.mem_of_getElem? (i := 3) rfl)) (ty := .byte) (v' := (.int (nar .byte (0 : Int32)))) (by decide) rfl (fits_nar_byte _) (g := (mkF m 48 #[rv a1, rv a2, iv (0 : Int32), iv (1 : Int32), .val .null, rv b_12] [(.int (0 : Int32)), (.ref a1)])) rfl rfl (hb hby d2_48)
  refine own_by st14 ?_
  have F_coder_a1_14 := F_coder_a1_12.same W14
  have Od14 := Od12.wr W14 g_a1
  have E_a1_14 := E_a1_12.wr W14
  have F_value_a1_14 := F_value_a1_12.other W14 (Or.inr (slot_ne (Or.inr (hw _ (List.mem_of_getElem? (i := 29) rfl))) (Or.inr (hw _ (List.mem_of_getElem? (i := 27) rfl))) (by decide) (t := (.array .byte)) (t' := .byte) (by decide) (by decide)))
  have V_a2_14 := V_a2_12.other W14 (Ne.symm (Exa.neArv E_a1_12 V_a2_12 (hw _ (List.mem_of_getElem? (i := 3) rfl))))
  have r12_0_14 := r12_0.other W14 (Ne.symm ne_a1_b_12)
  have N14 := Fr.snoc X14 N13 g_a1
  have Z14 : n0 ≤ h14.size := Nat.le_trans Z12 (Keep.of_wr W14).1
  have K14 := Kt12.wr W14 (Or.inl (List.mem_of_getElem? (i := 0) rfl))
  show own_Fin _ _ _ _ (T14.setTop (mkF m 51 #[rv a1, rv a2, iv (0 : Int32), iv (1 : Int32), .val .null, rv b_12] []))
  refine own_go (XS.aloadN X14.here hx rfl (hb hby d2_51) rfl rfl (Steps.refl _)) ?_
  show own_Fin _ _ _ _ (T14.setTop (mkF m 52 #[rv a1, rv a2, iv (0 : Int32), iv (1 : Int32), .val .null, rv b_12] [(.ref a1)]))
  refine own_go (XS.aload X14.here hx rfl (hb hby d2_52) rfl rfl (Steps.refl _)) ?_
  show own_Fin _ _ _ _ (T14.setTop (mkF m 54 #[rv a1, rv a2, iv (0 : Int32), iv (1 : Int32), .val .null, rv b_12] [(.ref b_12), (.ref a1)]))
  obtain ⟨T15, h15, X15, e15, W15, st15⟩ := putF X14 hx hZ hown (host := "") (Or.inl (hw _ (List.mem_of_getElem? (i := 28) rfl))) Via.refl e14 F_value_a1_14 E_a1_14 (Or.inr ⟨(hw _ (List.mem_of_getElem? (i := 29) rfl)), rfl, hnm⟩) (hw _ (List.mem_of_getElem? (i := 3) rfl)) (ty := (.array .byte)) (by decide) rfl rfl (g := (mkF m 54 #[rv a1, rv a2, iv (0 : Int32), iv (1 : Int32), .val .null, rv b_12] [(.ref b_12), (.ref a1)])) rfl rfl (hb hby d2_54)
  refine own_by st15 ?_
  have F_value_a1_15 := F_value_a1_14.same W15
  have Od15 := Od14.wr W15 g_a1
  have E_a1_15 := E_a1_14.wr W15
  have F_coder_a1_15 := F_coder_a1_14.other W15 (Or.inr (slot_ne (Or.inr (hw _ (List.mem_of_getElem? (i := 27) rfl))) (Or.inr (hw _ (List.mem_of_getElem? (i := 29) rfl))) (by decide) (t := .byte) (t' := (.array .byte)) (by decide) (by decide)))
  have V_a2_15 := V_a2_14.other W15 (Ne.symm (Exa.neArv E_a1_14 V_a2_14 (hw _ (List.mem_of_getElem? (i := 3) rfl))))
  have r12_0_15 := r12_0_14.other W15 (Ne.symm ne_a1_b_12)
  have N15 := Fr.snoc X15 N14 g_a1
  have Z15 : n0 ≤ h15.size := Nat.le_trans Z14 (Keep.of_wr W15).1
  have K15 := K14.wr W15 (Or.inl (List.mem_of_getElem? (i := 0) rfl))
  show own_Fin _ _ _ _ (T15.setTop (mkF m 57 #[rv a1, rv a2, iv (0 : Int32), iv (1 : Int32), .val .null, rv b_12] []))
  obtain ⟨fs16, hr16, hrun16, hended16, hW16, hsame16⟩ := X15.leave (v := none) (fun _ => rfl)
  refine own_done (X15.returnOut hx Bd.returns (hb hby d2_57) hr16) hrun16 hended16 ⟨_, _, rfl, ?_, ⟨_, rfl⟩, hW16, hsame16.mono (by decide) (by decide)⟩
  show Qi4_1 Z a1 a2 k cs c0 h0 n0 _ T15.heap _
  rw [e15]
  exact ⟨b_12, kb_12, rfl, N15, K15, g_b_12, sz_b_12, E_a1_15, F_value_a1_15, F_coder_a1_15, r12_0_15⟩
theorem d1_0 : decode jdk_42_method_3_code 0 = .ok (.aload_n 0, 1) := by decide +kernel
theorem d1_1 : decode jdk_42_method_3_code 1 = .ok (.aload_n 1, 1) := by decide +kernel
theorem d1_2 : decode jdk_42_method_3_code 2 = .ok (.iconst 0, 1) := by decide +kernel
theorem d1_3 : decode jdk_42_method_3_code 3 = .ok (.aload_n 1, 1) := by decide +kernel
theorem d1_4 : decode jdk_42_method_3_code 4 = .ok (.arraylength, 1) := by decide +kernel
theorem d1_5 : decode jdk_42_method_3_code 5 = .ok (.aconst_null, 1) := by decide +kernel
theorem d1_6 : decode jdk_42_method_3_code 6 = .ok (.invokespecial 27, 3) := by decide +kernel
theorem d1_9 : decode jdk_42_method_3_code 9 = .ok (.return_, 1) := by decide +kernel
theorem ef_str_1 (m : MethodId) (x0 : Addr) (x1 : Addr) : entryFrame m #[(.ref x0), (.ref x1)] 2 = mkF m 0 #[.val (.ref x0), .val (.ref x1)] [] := by first | (simp [entryFrame, mkF, argsToLocals, Value.category]; done) | rfl
def Qstr_1 (Z : State) (a1 : Addr) (a2 : Addr) (k : ClassId) (cs : Int32) (c0 : Int32) (h0 : Heap) (n0 : Nat) (v : Option Value) (h : Heap) (L : List Loc) : Prop := ∃ (b : Addr) (kb : ClassId), v = none ∧ Fr n0 L ∧ Keep h0 h [a1] ∧ n0 ≤ b ∧ h0.size ≤ b ∧ Exa Z h a1 "java/lang/String" ∧ Fld Z h a1 "java/lang/String" "value" "[B" (.ref b) ∧ Fld Z h a1 "java/lang/String" "coder" "B" (.int (0 : Int32)) ∧ Arv Z h b kb .byte (1 : Int32) [(.int (nar .byte (c0.toInt8.toInt32)))] (.int (0 : Int32))
abbrev Gstr_1 (Z : State) (a1 : Addr) (a2 : Addr) (k : ClassId) (cs : Int32) (c0 : Int32) (h0 : Heap) (n0 : Nat) (s : State) : Outcome → State → Prop := fun o U' => ∃ v L, o = .returned v ∧ Qstr_1 Z a1 a2 k cs c0 h0 n0 v U'.heap L ∧ FrameEnd s o U' L ({ frames := 3, cells := 1, slots := 1, locals := 68 } : Room).cells ({ frames := 3, cells := 1, slots := 1, locals := 68 } : Room).slots
theorem pd__28__5b_CIILjava_2f_lang_2f_Void_3b__29_V : parseMethodDescriptor "([CIILjava/lang/Void;)V" = some ⟨[(.array .char), .int, .int, (.object "java/lang/Void")], none⟩ := by decide +kernel
set_option maxRecDepth 65536 in
set_option maxHeartbeats 40000000 in
theorem rmstr_1 (l : Launch) (Z : State) (a0 : Array Value) (hw : ∀ d ∈ tables_1, d.before a0 Z = true) (ws : List Jvm.Cond) (a1 : Addr) (a2 : Addr) (k : ClassId) (cs : Int32) (c0 : Int32) (h0 : Heap) (n0 : Nat) (Z0 : n0 ≤ h0.size) (E_a1 : Exa Z h0 a1 "java/lang/String") (F_value_a1 : Fld Z h0 a1 "java/lang/String" "value" "[B" .null) (F_coder_a1 : Fld Z h0 a1 "java/lang/String" "coder" "B" (.int (0 : Int32))) (g_a1 : n0 ≤ a1) (O0 : Old Z n0 h0) (S_COMPACT_STRINGS : Sta Z Z.heap "java/lang/String" "COMPACT_STRINGS" "Z" (.int cs)) (hcs : ¬ cs = (0 : Int32)) (V_a2 : Arv Z h0 a2 k .char (1 : Int32) [(.int c0)] (.int (0 : Int32))) (hc0 : ¬ (255 : Int32) < c0) :
    MetFree l (⟨"java/lang/String", "<init>", "([C)V"⟩ : MethodName) (head1 (Jvm.Cond.code (⟨"java/lang/String", "<init>", "([C)V"⟩ : MethodName) jdk_42_method_3_code 2 none :: ws) ({ frames := 3, cells := 1, slots := 1, locals := 68 } : Room)) (fun a U => a = #[(.ref a1), (.ref a2)] ∧ Z.Warmed39 U.vm ∧ U.heap = h0) (fun _ _ _ _ _ => True) (fun _ U o U' => ∃ v L, o = .returned v ∧ Qstr_1 Z a1 a2 k cs c0 h0 n0 v U'.heap L ∧ FrameEnd U o U' L ({ frames := 3, cells := 1, slots := 1, locals := 68 } : Room).cells ({ frames := 3, cells := 1, slots := 1, locals := 68 } : Room).slots) := by
  refine MetFree.of_bodySF (plainFor_of_name pn_java_lang_String) hisR ?_
  intro p e s m args below meth c s₁ Bd hml0 hP hK
  obtain ⟨rfl, hZ, hh⟩ := hP
  have hx := Bd.exec
  have hby := Bd.bytes
  have hml : c.maxLocals = 2 := hml0
  have hown : s.vm.findClass "java/lang/String" = some m.cls := findClass_of_methodNamed Bd.named
  have hnm := (name_of_methodNamed Bd.named Bd.method).1
  have X0 : Stand p l e ({ frames := 3, cells := 1, slots := 1, locals := 68 } : Room) s m #[(.ref a1), (.ref a2)] below meth c s₁ [] 0 0 := Stand.of_body Bd
  have e0 : s₁.heap = h0 := by rw [← hh, Bd.state]; rfl
  have es0 : s.heap = h0 := hh
  have N0 := Fr.nil n0
  show own_Fin p e below (Gstr_1 Z a1 a2 k cs c0 h0 n0 s) (s₁.setTop (entryFrame m #[(.ref a1), (.ref a2)] 2))
  rw [ef_str_1 m a1 a2]
  have Kz := Keep.refl h0 [a1]
  refine own_go (XS.aloadN X0.here hx rfl (hb hby d1_0) rfl rfl (Steps.refl _)) ?_
  show own_Fin _ _ _ _ (s₁.setTop (mkF m 1 #[rv a1, rv a2] [(.ref a1)]))
  refine own_go (XS.aloadN X0.here hx rfl (hb hby d1_1) rfl rfl (Steps.refl _)) ?_
  show own_Fin _ _ _ _ (s₁.setTop (mkF m 2 #[rv a1, rv a2] [(.ref a2), (.ref a1)]))
  refine own_go (XS.iconst X0.here hx rfl (hb hby d1_2) (Steps.refl _)) ?_
  show own_Fin _ _ _ _ (s₁.setTop (mkF m 3 #[rv a1, rv a2] [(.int (0 : Int32)), (.ref a2), (.ref a1)]))
  refine own_go (XS.aloadN X0.here hx rfl (hb hby d1_3) rfl rfl (Steps.refl _)) ?_
  show own_Fin _ _ _ _ (s₁.setTop (mkF m 4 #[rv a1, rv a2] [(.ref a2), (.int (0 : Int32)), (.ref a2), (.ref a1)]))
  obtain ⟨cl17, Ar17, qa17, Sa17, Na17, Ha17, Ga17⟩ := id V_a2
  refine own_by (X0.arraylength hx (by rw [e0]; exact Ar17.1) (State.isArrayOf_alike hZ.alike Ar17.2.1) (g := (mkF m 4 #[rv a1, rv a2] [(.ref a2), (.int (0 : Int32)), (.ref a2), (.ref a1)])) rfl rfl (hb hby d1_4)) ?_
  rw [len_of Sa17 Na17]
  show own_Fin _ _ _ _ (s₁.setTop (mkF m 5 #[rv a1, rv a2] [(.int (1 : Int32)), (.int (0 : Int32)), (.ref a2), (.ref a1)]))
  refine own_go (XS.aconstNull X0.here hx rfl (hb hby d1_5) (Steps.refl _)) ?_
  show own_Fin _ _ _ _ (s₁.setTop (mkF m 6 #[rv a1, rv a2] [.null, (.int (1 : Int32)), (.int (0 : Int32)), (.ref a2), (.ref a1)]))
  obtain ⟨_, _, ⟨T18, L18, k18, n18⟩, -, X18, ⟨Lc18, hQ18, l18, y18, z18⟩, st18⟩ := X0.specialBack hx (y := (⟨"java/lang/String", "<init>", "([CIILjava/lang/Void;)V"⟩ : MethodName)) rfl hown (mvT hZ (hw _ (List.mem_of_getElem? (i := 8) rfl))) (mvT hZ (hw _ (List.mem_of_getElem? (i := 9) rfl))) (mvT hZ (hw _ (List.mem_of_getElem? (i := 11) rfl))) (by decide) (backOf (W := 0) (rmi4_1 l Z a0 hw [] a1 a2 k cs c0 h0 n0 Z0 E_a1 F_value_a1 F_coder_a1 g_a1 O0 S_COMPACT_STRINGS hcs V_a2 hc0) hZ (hw _ (List.mem_of_getElem? (i := 11) rfl)) (hw _ (List.mem_of_getElem? (i := 4) rfl)) (by decide) (by decide)) (g := (mkF m 6 #[rv a1, rv a2] [.null, (.int (1 : Int32)), (.int (0 : Int32)), (.ref a2), (.ref a1)])) rfl (by rw [hml]; rfl) (Steps.refl _) (a := a1) (argsL := [(.ref a2), (.int (0 : Int32)), (.int (1 : Int32)), .null]) (rest := []) (lenOf pd__28__5b_CIILjava_2f_lang_2f_Void_3b__29_V rfl) rfl (by show 2 * 0 + _ ≤ _; exact Nat.le_of_eq rfl) (hb hby d1_6) (fun _ hv => ⟨rfl, e0, (by decide : 0 + 1 ≤ _), (by decide : 0 + 1 ≤ _)⟩)
  dsimp only [Pt.U, Pt.locs, Pt.cells, Pt.slots] at X18 l18 y18 z18 st18 hQ18
  subst l18 y18 z18
  refine own_go st18 ?_
  obtain ⟨b_18, kb_18, rfl, Nq18, K18, g_b_18, sb_b_18, r18_0, r18_1, r18_2, r18_3⟩ := hQ18
  have ne_a1_b_18 : a1 ≠ b_18 := Nat.ne_of_lt (Nat.lt_of_lt_of_le E_a1.lt sb_b_18)
  have ne_a2_b_18 : a2 ≠ b_18 := Nat.ne_of_lt (Nat.lt_of_lt_of_le V_a2.lt sb_b_18)
  have sz_b_18 : h0.size ≤ b_18 := Nat.le_trans Kz.1 sb_b_18
  have Od18 := O0.keep K18 (allS g_a1 all0)
  have E_a1_18 := E_a1.keep K18
  have V_a2_18 := V_a2.keep K18 (ninS (Ne.symm (Exa.neArv E_a1 V_a2 (hw _ (List.mem_of_getElem? (i := 3) rfl)))) nin0)
  have Z18 : n0 ≤ T18.heap.size := Nat.le_trans Z0 K18.1
  have Kt18 := Kz.trans K18 (allS (P := fun x => x ∈ _ ∨ _ ≤ x) (Or.inl (List.mem_of_getElem? (i := 0) rfl)) all0)
  have N18 := Fr.app N0 Nq18
  show own_Fin _ _ _ _ (T18.setTop (mkF m 9 #[rv a1, rv a2] []))
  obtain ⟨fs19, hr19, hrun19, hended19, hW19, hsame19⟩ := X18.leave (v := none) (fun _ => rfl)
  refine own_done (X18.returnOut hx Bd.returns (hb hby d1_9) hr19) hrun19 hended19 ⟨_, _, rfl, ?_, ⟨_, rfl⟩, hW19, hsame19.mono (by decide) (by decide)⟩
  show Qstr_1 Z a1 a2 k cs c0 h0 n0 _ T18.heap _
  exact ⟨b_18, kb_18, rfl, N18, Kt18, g_b_18, sz_b_18, r18_0, r18_1, r18_2, r18_3⟩
theorem ef_i4_0 (m : MethodId) (x0 : Addr) (x1 : Addr) (x2 : Int32) (x3 : Int32) : entryFrame m #[(.ref x0), (.ref x1), (.int x2), (.int x3), .null] 6 = mkF m 0 #[.val (.ref x0), .val (.ref x1), .val (.int x2), .val (.int x3), .val .null, .unset] [] := by first | (simp [entryFrame, mkF, argsToLocals, Value.category]; done) | rfl
def Qi4_0 (Z : State) (a1 : Addr) (a2 : Addr) (k : ClassId) (h0 : Heap) (n0 : Nat) (v : Option Value) (h : Heap) (L : List Loc) : Prop := v = none ∧ Fr n0 L ∧ Keep h0 h [a1] ∧ Exa Z h a1 "java/lang/String"
abbrev Gi4_0 (Z : State) (a1 : Addr) (a2 : Addr) (k : ClassId) (h0 : Heap) (n0 : Nat) (s : State) : Outcome → State → Prop := fun o U' => ∃ v L, o = .returned v ∧ (Qi4_0 Z a1 a2 k h0 n0 v U'.heap L ∧ own_K Z U'.heap U'.vm) ∧ ReturnedEndW s o U' L ({ frames := 1, cells := 2, slots := 4, locals := 12 } : Room).cells ({ frames := 1, cells := 2, slots := 4, locals := 12 } : Room).slots
set_option maxRecDepth 65536 in
set_option maxHeartbeats 40000000 in
theorem rmi4_0 (l : Launch) (Z : State) (a0 : Array Value) (hw : ∀ d ∈ tables_1, d.before a0 Z = true) (ws : List Jvm.Cond) (a1 : Addr) (a2 : Addr) (k : ClassId) (h0 : Heap) (n0 : Nat) (Z0 : n0 ≤ h0.size) (E_a1 : Exa Z h0 a1 "java/lang/String") (F_value_a1 : Fld Z h0 a1 "java/lang/String" "value" "[B" .null) (F_coder_a1 : Fld Z h0 a1 "java/lang/String" "coder" "B" (.int (0 : Int32))) (g_a1 : n0 ≤ a1) (O0 : Old Z n0 h0) (V_a2 : Arv Z h0 a2 k .char (0 : Int32) [] (.int (0 : Int32))) (hh7 : Jvm.Lit.constHeld Z "java/lang/String" 7) (hcw : Jvm.Lit.compactW.before a0 Z = true) :
    MetFree l (⟨"java/lang/String", "<init>", "([CIILjava/lang/Void;)V"⟩ : MethodName) (head1 (Jvm.Cond.code (⟨"java/lang/String", "<init>", "([CIILjava/lang/Void;)V"⟩ : MethodName) jdk_42_method_149_code 6 none :: ws) ({ frames := 1, cells := 2, slots := 4, locals := 12 } : Room)) (fun a U => a = #[(.ref a1), (.ref a2), (.int (0 : Int32)), (.int (0 : Int32)), .null] ∧ (Z.Warmed39 U.vm ∧ own_K Z h0 U.vm) ∧ U.heap = h0) (fun _ _ _ _ _ => True) (fun _ U o U' => ∃ v L, o = .returned v ∧ (Qi4_0 Z a1 a2 k h0 n0 v U'.heap L ∧ own_K Z U'.heap U'.vm) ∧ ReturnedEndW U o U' L ({ frames := 1, cells := 2, slots := 4, locals := 12 } : Room).cells ({ frames := 1, cells := 2, slots := 4, locals := 12 } : Room).slots) := by
  refine MetFree.of_bodySF (plainFor_of_name pn_java_lang_String) hisR ?_
  intro p e s m args below meth c s₁ Bd hml0 hP hK
  obtain ⟨rfl, ⟨hZ, hK0⟩, hh⟩ := hP
  have hx := Bd.exec
  have hby := Bd.bytes
  have hml : c.maxLocals = 6 := hml0
  have hown : s.vm.findClass "java/lang/String" = some m.cls := findClass_of_methodNamed Bd.named
  have hnm := (name_of_methodNamed Bd.named Bd.method).1
  have X0 : Stand p l e ({ frames := 1, cells := 2, slots := 4, locals := 12 } : Room) s m #[(.ref a1), (.ref a2), (.int (0 : Int32)), (.int (0 : Int32)), .null] below meth c s₁ [] 0 0 := Stand.of_body Bd
  have e0 : s₁.heap = h0 := by rw [← hh, Bd.state]; rfl
  have es0 : s.heap = h0 := hh
  have N0 := Fr.nil n0
  show own_Fin p e below (Gi4_0 Z a1 a2 k h0 n0 s) (s₁.setTop (entryFrame m #[(.ref a1), (.ref a2), (.int (0 : Int32)), (.int (0 : Int32)), .null] 6))
  rw [ef_i4_0 m a1 a2 (0 : Int32) (0 : Int32)]
  have X0w : Stand p l e ({ frames := 1, cells := 2, slots := 4, locals := 12 } : Room) (s.setVm s.vm) m #[(.ref a1), (.ref a2), (.int (0 : Int32)), (.int (0 : Int32)), .null] below meth c s₁ [] 0 0 := X0
  have hS0 : s.Since s.vm 0 := (State.WarmedH.refl s).since 0
  have hk0 : 0 ≤ h0.size := Nat.zero_le _
  have Kz := Keep.refl h0 [a1]
  have wS : ∀ a ∈ Bundle.stringAtoms, a.before a0 Z = true := by
    intro d hd
    simp only [Bundle.stringAtoms, List.mem_cons, List.not_mem_nil, or_false] at hd
    rcases hd with rfl | rfl | rfl | rfl | rfl | rfl | rfl
    · exact (hw _ (List.mem_of_getElem? (i := 4) rfl))
    · exact (hw _ (List.mem_of_getElem? (i := 3) rfl))
    · exact (hw _ (List.mem_of_getElem? (i := 0) rfl))
    · exact (hw _ (List.mem_of_getElem? (i := 29) rfl))
    · exact (hw _ (List.mem_of_getElem? (i := 27) rfl))
    · exact (hw _ (List.mem_of_getElem? (i := 86) rfl))
    · exact (hw _ (List.mem_of_getElem? (i := 87) rfl))
  refine own_go (XS.aloadN X0w.here hx rfl (hb hby d2_0) rfl rfl (Steps.refl _)) ?_
  show own_Fin _ _ _ _ (s₁.setTop (mkF m 1 #[rv a1, rv a2, iv (0 : Int32), iv (0 : Int32), .val .null, .unset] [(.ref a1)]))
  obtain ⟨T20, X20, e20, st20⟩ := initO X0w hx hZ hown (hw _ (List.mem_of_getElem? (i := 12) rfl)) (hw _ (List.mem_of_getElem? (i := 13) rfl)) (hw _ (List.mem_of_getElem? (i := 14) rfl)) e0 (g := (mkF m 1 #[rv a1, rv a2, iv (0 : Int32), iv (0 : Int32), .val .null, .unset] [(.ref a1)])) rfl (by rw [hml]; rfl) rfl (hb hby d2_1) (by decide) (W := 0) (by show 2 * 0 + _ ≤ _; exact Nat.le_of_eq rfl) (by decide)
  refine own_by st20 ?_
  show own_Fin _ _ _ _ (T20.setTop (mkF m 4 #[rv a1, rv a2, iv (0 : Int32), iv (0 : Int32), .val .null, .unset] []))
  refine own_go (XS.iloadN X20.here hx rfl (hb hby d2_4) rfl (Steps.refl _)) ?_
  show own_Fin _ _ _ _ (T20.setTop (mkF m 5 #[rv a1, rv a2, iv (0 : Int32), iv (0 : Int32), .val .null, .unset] [(.int (0 : Int32))]))
  refine own_go (XS.ifNo X20.here hx rfl (hb hby d2_5) rfl ((if0 _ _).trans (teq (by decide : (0 : Int32) = (0 : Int32))).2) (Steps.refl _)) ?_
  show own_Fin _ _ _ _ (T20.setTop (mkF m 8 #[rv a1, rv a2, iv (0 : Int32), iv (0 : Int32), .val .null, .unset] []))
  refine own_go (XS.aloadN X20.here hx rfl (hb hby d2_8) rfl rfl (Steps.refl _)) ?_
  show own_Fin _ _ _ _ (T20.setTop (mkF m 9 #[rv a1, rv a2, iv (0 : Int32), iv (0 : Int32), .val .null, .unset] [(.ref a1)]))
  obtain ⟨a21, T21, h21, k21, b21, vm21, X21, e21, E21, hS21, hk21, hZ21, hown21, Ex21, Fc21, Fv21, Li21, st21⟩ := own_ldcK (s := s) (vm0 := s.vm) X20 hx hZ hown (hw _ (List.mem_of_getElem? (i := 98) rfl)) wS e20 hS0 hk0 (fun b cl q => by rw [es0]; exact O0.2.2 b cl q) hK0 hh7 hcw (g := (mkF m 9 #[rv a1, rv a2, iv (0 : Int32), iv (0 : Int32), .val .null, .unset] [(.ref a1)])) rfl (hb hby d2_9) (by decide) (by decide)
  refine own_by st21 ?_
  have Od21 := O0.ext E21
  have E_a1_21 := E_a1.ext E21
  have F_value_a1_21 := F_value_a1.ext E21
  have F_coder_a1_21 := F_coder_a1.ext E21
  have V_a2_21 := V_a2.ext E21
  have Z21 : n0 ≤ h21.size := Nat.le_trans Z0 E21.1
  have K21 := Kz.ext E21
  show own_Fin _ _ _ _ (T21.setTop (mkF m 11 #[rv a1, rv a2, iv (0 : Int32), iv (0 : Int32), .val .null, .unset] [(.ref a21), (.ref a1)]))
  have ne_a1_a21 : a1 ≠ a21 := Fld.ne F_value_a1_21 Fv21 (fun q => by cases q)
  obtain ⟨T22, X22, e22, st22⟩ := getF X21 hx hZ21 hown21 (host := "") (Or.inl (hw _ (List.mem_of_getElem? (i := 28) rfl))) Via.refl e21 Fv21 (g := (mkF m 11 #[rv a1, rv a2, iv (0 : Int32), iv (0 : Int32), .val .null, .unset] [(.ref a21), (.ref a1)])) rfl rfl (hb hby d2_11)
  refine own_by st22 ?_
  show own_Fin _ _ _ _ (T22.setTop (mkF m 14 #[rv a1, rv a2, iv (0 : Int32), iv (0 : Int32), .val .null, .unset] [(.ref b21), (.ref a1)]))
  obtain ⟨T23, h23, X23, e23, W23, st23⟩ := putF X22 hx hZ21 hown21 (host := "") (Or.inl (hw _ (List.mem_of_getElem? (i := 28) rfl))) Via.refl e22 F_value_a1_21 E_a1_21 (Or.inr ⟨(hw _ (List.mem_of_getElem? (i := 29) rfl)), rfl, hnm⟩) (hw _ (List.mem_of_getElem? (i := 3) rfl)) (ty := (.array .byte)) (by decide) rfl rfl (g := (mkF m 14 #[rv a1, rv a2, iv (0 : Int32), iv (0 : Int32), .val .null, .unset] [(.ref b21), (.ref a1)])) rfl rfl (hb hby d2_14)
  refine own_by st23 ?_
  have F_value_a1_23 := F_value_a1_21.same W23
  have Od23 := Od21.wr W23 g_a1
  have E_a1_23 := E_a1_21.wr W23
  have F_coder_a1_23 := F_coder_a1_21.other W23 (Or.inr (slot_ne (Or.inr (hw _ (List.mem_of_getElem? (i := 27) rfl))) (Or.inr (hw _ (List.mem_of_getElem? (i := 29) rfl))) (by decide) (t := .byte) (t' := (.array .byte)) (by decide) (by decide)))
  have V_a2_23 := V_a2_21.other W23 (Ne.symm (Exa.neArv E_a1_21 V_a2_21 (hw _ (List.mem_of_getElem? (i := 3) rfl))))
  have Ex21_23 := Ex21.wr W23
  have Fc21_23 := Fc21.other W23 (Or.inl (Ne.symm ne_a1_a21))
  have Fv21_23 := Fv21.other W23 (Or.inl (Ne.symm ne_a1_a21))
  have N23 := Fr.snoc X23 N0 g_a1
  have Z23 : n0 ≤ h23.size := Nat.le_trans Z21 (Keep.of_wr W23).1
  have hk23 : k21 ≤ h23.size := Nat.le_trans hk21 (Keep.of_wr W23).1
  have K23 := K21.wr W23 (Or.inl (List.mem_of_getElem? (i := 0) rfl))
  show own_Fin _ _ _ _ (T23.setTop (mkF m 17 #[rv a1, rv a2, iv (0 : Int32), iv (0 : Int32), .val .null, .unset] []))
  refine own_go (XS.aloadN X23.here hx rfl (hb hby d2_17) rfl rfl (Steps.refl _)) ?_
  show own_Fin _ _ _ _ (T23.setTop (mkF m 18 #[rv a1, rv a2, iv (0 : Int32), iv (0 : Int32), .val .null, .unset] [(.ref a1)]))
  refine own_by (ldcAgain (s := s) (vm0 := vm21) X23 hx hZ21 hown21 (hw _ (List.mem_of_getElem? (i := 98) rfl)) Li21 (g := (mkF m 18 #[rv a1, rv a2, iv (0 : Int32), iv (0 : Int32), .val .null, .unset] [(.ref a1)])) rfl (hb hby d2_18)) ?_
  show own_Fin _ _ _ _ (T23.setTop (mkF m 20 #[rv a1, rv a2, iv (0 : Int32), iv (0 : Int32), .val .null, .unset] [(.ref a21), (.ref a1)]))
  obtain ⟨T24, X24, e24, st24⟩ := getF X23 hx hZ21 hown21 (host := "") (Or.inl (hw _ (List.mem_of_getElem? (i := 26) rfl))) Via.refl e23 Fc21_23 (g := (mkF m 20 #[rv a1, rv a2, iv (0 : Int32), iv (0 : Int32), .val .null, .unset] [(.ref a21), (.ref a1)])) rfl rfl (hb hby d2_20)
  refine own_by st24 ?_
  show own_Fin _ _ _ _ (T24.setTop (mkF m 23 #[rv a1, rv a2, iv (0 : Int32), iv (0 : Int32), .val .null, .unset] [(.int (0 : Int32)), (.ref a1)]))
  obtain ⟨T25, h25, X25, e25, W25, st25⟩ := putFN X24 hx hZ21 hown21 (hw _ (List.mem_of_getElem? (i := 26) rfl)) Via.refl e24 F_coder_a1_23 E_a1_23 (Or.inr ⟨(hw _ (List.mem_of_getElem? (i := 27) rfl)), rfl, hnm⟩) (hw _ (List.mem_of_getElem? (i := 3) rfl)) (ty := .byte) (v' := (.int (nar .byte (0 : Int32)))) (by decide) rfl (fits_nar_byte _) (g := (mkF m 23 #[rv a1, rv a2, iv (0 : Int32), iv (0 : Int32), .val .null, .unset] [(.int (0 : Int32)), (.ref a1)])) rfl rfl (hb hby d2_23)
  refine own_by st25 ?_
  have F_coder_a1_25 := F_coder_a1_23.same W25
  have Od25 := Od23.wr W25 g_a1
  have E_a1_25 := E_a1_23.wr W25
  have F_value_a1_25 := F_value_a1_23.other W25 (Or.inr (slot_ne (Or.inr (hw _ (List.mem_of_getElem? (i := 29) rfl))) (Or.inr (hw _ (List.mem_of_getElem? (i := 27) rfl))) (by decide) (t := (.array .byte)) (t' := .byte) (by decide) (by decide)))
  have V_a2_25 := V_a2_23.other W25 (Ne.symm (Exa.neArv E_a1_23 V_a2_23 (hw _ (List.mem_of_getElem? (i := 3) rfl))))
  have Ex21_25 := Ex21_23.wr W25
  have Fc21_25 := Fc21_23.other W25 (Or.inl (Ne.symm ne_a1_a21))
  have Fv21_25 := Fv21_23.other W25 (Or.inl (Ne.symm ne_a1_a21))
  have N25 := Fr.snoc X25 N23 g_a1
  have Z25 : n0 ≤ h25.size := Nat.le_trans Z23 (Keep.of_wr W25).1
  have hk25 : k21 ≤ h25.size := Nat.le_trans hk23 (Keep.of_wr W25).1
  have K25 := K23.wr W25 (Or.inl (List.mem_of_getElem? (i := 0) rfl))
  show own_Fin _ _ _ _ (T25.setTop (mkF m 26 #[rv a1, rv a2, iv (0 : Int32), iv (0 : Int32), .val .null, .unset] []))
  obtain ⟨fs26, hr26, hrun26, hended26, hRW26⟩ := X25.leaveW (s := s) hS21 (n := k21) (by rw [e25]; exact hk25) (v := none) (fun _ => rfl)
  refine own_done (X25.returnOut hx Bd.returns (hb hby d2_26) hr26) hrun26 hended26 ⟨_, _, rfl, ?_, hRW26.1, hRW26.2.1, hRW26.2.2.1, hRW26.2.2.2.mono (by decide) (by decide)⟩
  show (Qi4_0 Z a1 a2 k h0 n0 _ T25.heap _ ∧ own_K Z T25.heap T25.vm)
  rw [e25]
  exact ⟨⟨rfl, N25, K25, E_a1_25⟩, own_K.warm (s := s) (vm0 := vm21) (Or.inr ⟨a21, b21, Li21, Ex21_25, Fc21_25, Fv21_25⟩) X25.warmed⟩
theorem ef_str_0 (m : MethodId) (x0 : Addr) (x1 : Addr) : entryFrame m #[(.ref x0), (.ref x1)] 2 = mkF m 0 #[.val (.ref x0), .val (.ref x1)] [] := by first | (simp [entryFrame, mkF, argsToLocals, Value.category]; done) | rfl
def Qstr_0 (Z : State) (a1 : Addr) (a2 : Addr) (k : ClassId) (h0 : Heap) (n0 : Nat) (v : Option Value) (h : Heap) (L : List Loc) : Prop := v = none ∧ Fr n0 L ∧ Keep h0 h [a1] ∧ Exa Z h a1 "java/lang/String"
abbrev Gstr_0 (Z : State) (a1 : Addr) (a2 : Addr) (k : ClassId) (h0 : Heap) (n0 : Nat) (s : State) : Outcome → State → Prop := fun o U' => ∃ v L, o = .returned v ∧ (Qstr_0 Z a1 a2 k h0 n0 v U'.heap L ∧ own_K Z U'.heap U'.vm) ∧ ReturnedEndW s o U' L ({ frames := 2, cells := 2, slots := 4, locals := 40 } : Room).cells ({ frames := 2, cells := 2, slots := 4, locals := 40 } : Room).slots
set_option maxRecDepth 65536 in
set_option maxHeartbeats 40000000 in
theorem rmstr_0 (l : Launch) (Z : State) (a0 : Array Value) (hw : ∀ d ∈ tables_1, d.before a0 Z = true) (ws : List Jvm.Cond) (a1 : Addr) (a2 : Addr) (k : ClassId) (h0 : Heap) (n0 : Nat) (Z0 : n0 ≤ h0.size) (E_a1 : Exa Z h0 a1 "java/lang/String") (F_value_a1 : Fld Z h0 a1 "java/lang/String" "value" "[B" .null) (F_coder_a1 : Fld Z h0 a1 "java/lang/String" "coder" "B" (.int (0 : Int32))) (g_a1 : n0 ≤ a1) (O0 : Old Z n0 h0) (V_a2 : Arv Z h0 a2 k .char (0 : Int32) [] (.int (0 : Int32))) (hh7 : Jvm.Lit.constHeld Z "java/lang/String" 7) (hcw : Jvm.Lit.compactW.before a0 Z = true) :
    MetFree l (⟨"java/lang/String", "<init>", "([C)V"⟩ : MethodName) (head1 (Jvm.Cond.code (⟨"java/lang/String", "<init>", "([C)V"⟩ : MethodName) jdk_42_method_3_code 2 none :: ws) ({ frames := 2, cells := 2, slots := 4, locals := 40 } : Room)) (fun a U => a = #[(.ref a1), (.ref a2)] ∧ (Z.Warmed39 U.vm ∧ own_K Z h0 U.vm) ∧ U.heap = h0) (fun _ _ _ _ _ => True) (fun _ U o U' => ∃ v L, o = .returned v ∧ (Qstr_0 Z a1 a2 k h0 n0 v U'.heap L ∧ own_K Z U'.heap U'.vm) ∧ ReturnedEndW U o U' L ({ frames := 2, cells := 2, slots := 4, locals := 40 } : Room).cells ({ frames := 2, cells := 2, slots := 4, locals := 40 } : Room).slots) := by
  refine MetFree.of_bodySF (plainFor_of_name pn_java_lang_String) hisR ?_
  intro p e s m args below meth c s₁ Bd hml0 hP hK
  obtain ⟨rfl, ⟨hZ, hK0⟩, hh⟩ := hP
  have hx := Bd.exec
  have hby := Bd.bytes
  have hml : c.maxLocals = 2 := hml0
  have hown : s.vm.findClass "java/lang/String" = some m.cls := findClass_of_methodNamed Bd.named
  have hnm := (name_of_methodNamed Bd.named Bd.method).1
  have X0 : Stand p l e ({ frames := 2, cells := 2, slots := 4, locals := 40 } : Room) s m #[(.ref a1), (.ref a2)] below meth c s₁ [] 0 0 := Stand.of_body Bd
  have e0 : s₁.heap = h0 := by rw [← hh, Bd.state]; rfl
  have es0 : s.heap = h0 := hh
  have N0 := Fr.nil n0
  show own_Fin p e below (Gstr_0 Z a1 a2 k h0 n0 s) (s₁.setTop (entryFrame m #[(.ref a1), (.ref a2)] 2))
  rw [ef_str_0 m a1 a2]
  have X0w : Stand p l e ({ frames := 2, cells := 2, slots := 4, locals := 40 } : Room) (s.setVm s.vm) m #[(.ref a1), (.ref a2)] below meth c s₁ [] 0 0 := X0
  have hS0 : s.Since s.vm 0 := (State.WarmedH.refl s).since 0
  have hk0 : 0 ≤ h0.size := Nat.zero_le _
  have Kz := Keep.refl h0 [a1]
  refine own_go (XS.aloadN X0w.here hx rfl (hb hby d1_0) rfl rfl (Steps.refl _)) ?_
  show own_Fin _ _ _ _ (s₁.setTop (mkF m 1 #[rv a1, rv a2] [(.ref a1)]))
  refine own_go (XS.aloadN X0w.here hx rfl (hb hby d1_1) rfl rfl (Steps.refl _)) ?_
  show own_Fin _ _ _ _ (s₁.setTop (mkF m 2 #[rv a1, rv a2] [(.ref a2), (.ref a1)]))
  refine own_go (XS.iconst X0w.here hx rfl (hb hby d1_2) (Steps.refl _)) ?_
  show own_Fin _ _ _ _ (s₁.setTop (mkF m 3 #[rv a1, rv a2] [(.int (0 : Int32)), (.ref a2), (.ref a1)]))
  refine own_go (XS.aloadN X0w.here hx rfl (hb hby d1_3) rfl rfl (Steps.refl _)) ?_
  show own_Fin _ _ _ _ (s₁.setTop (mkF m 4 #[rv a1, rv a2] [(.ref a2), (.int (0 : Int32)), (.ref a2), (.ref a1)]))
  obtain ⟨cl27, Ar27, qa27, Sa27, Na27, Ha27, Ga27⟩ := id V_a2
  refine own_by (X0w.arraylength hx (by rw [e0]; exact Ar27.1) (State.isArrayOf_alike hZ.alike Ar27.2.1) (g := (mkF m 4 #[rv a1, rv a2] [(.ref a2), (.int (0 : Int32)), (.ref a2), (.ref a1)])) rfl rfl (hb hby d1_4)) ?_
  rw [len_of Sa27 Na27]
  show own_Fin _ _ _ _ (s₁.setTop (mkF m 5 #[rv a1, rv a2] [(.int (0 : Int32)), (.int (0 : Int32)), (.ref a2), (.ref a1)]))
  refine own_go (XS.aconstNull X0w.here hx rfl (hb hby d1_5) (Steps.refl _)) ?_
  show own_Fin _ _ _ _ (s₁.setTop (mkF m 6 #[rv a1, rv a2] [.null, (.int (0 : Int32)), (.int (0 : Int32)), (.ref a2), (.ref a1)]))
  obtain ⟨_, _, ⟨T28, L28, k28, n28⟩, -, X28, hs228, hgr28, ⟨Lc28, ⟨hQ28, hK28⟩, l28, y28, z28⟩, st28⟩ := X0w.specialBackS hx (y := (⟨"java/lang/String", "<init>", "([CIILjava/lang/Void;)V"⟩ : MethodName)) rfl hown (mvT hZ (hw _ (List.mem_of_getElem? (i := 8) rfl))) (mvT hZ (hw _ (List.mem_of_getElem? (i := 9) rfl))) (mvT hZ (hw _ (List.mem_of_getElem? (i := 11) rfl))) (by decide) (own_backK (W := 0) (rmi4_0 l Z a0 hw [] a1 a2 k h0 n0 Z0 E_a1 F_value_a1 F_coder_a1 g_a1 O0 V_a2 hh7 hcw) hZ (hw _ (List.mem_of_getElem? (i := 11) rfl)) (hw _ (List.mem_of_getElem? (i := 4) rfl)) (by decide) (by decide)) (g := (mkF m 6 #[rv a1, rv a2] [.null, (.int (0 : Int32)), (.int (0 : Int32)), (.ref a2), (.ref a1)])) rfl (by rw [hml]; rfl) (Steps.refl _) (a := a1) (argsL := [(.ref a2), (.int (0 : Int32)), (.int (0 : Int32)), .null]) (rest := []) (lenOf pd__28__5b_CIILjava_2f_lang_2f_Void_3b__29_V rfl) rfl (by show 2 * 0 + _ ≤ _; exact Nat.le_of_eq rfl) (hb hby d1_6) (fun _ hv => ⟨rfl, e0, (by decide : 0 + 2 ≤ _), (by decide : 0 + 4 ≤ _), own_K.warm hK0 hv⟩)
  dsimp only [Pt.U, Pt.locs, Pt.cells, Pt.slots] at X28 l28 y28 z28 st28 hQ28 hs228 hgr28 hK28
  subst l28 y28 z28
  obtain ⟨Xr28, hS28, hZ28, hown28⟩ := rebS hS0 (show 0 ≤ s₁.heap.size by rw [e0]; exact hk0) X28 hs228 hgr28 hZ hown
  refine own_go st28 ?_
  obtain ⟨rfl, Nq28, K28, r28_0⟩ := hQ28
  have Od28 := O0.keep K28 (allS g_a1 all0)
  have E_a1_28 := E_a1.keep K28
  have V_a2_28 := V_a2.keep K28 (ninS (Ne.symm (Exa.neArv E_a1 V_a2 (hw _ (List.mem_of_getElem? (i := 3) rfl)))) nin0)
  have Z28 : n0 ≤ T28.heap.size := Nat.le_trans Z0 K28.1
  have hk28 : 0 ≤ T28.heap.size := Nat.le_trans hk0 K28.1
  have Kt28 := Kz.trans K28 (allS (P := fun x => x ∈ _ ∨ _ ≤ x) (Or.inl (List.mem_of_getElem? (i := 0) rfl)) all0)
  have hkr28 : T28.heap.size ≤ T28.heap.size := Nat.le_refl _
  have N28 := Fr.app N0 Nq28
  show own_Fin _ _ _ _ (T28.setTop (mkF m 9 #[rv a1, rv a2] []))
  obtain ⟨fs29, hr29, hrun29, hended29, hRW29⟩ := Xr28.leaveW (s := s) hS28 (n := T28.heap.size) hkr28 (v := none) (fun _ => rfl)
  refine own_done (Xr28.returnOut hx Bd.returns (hb hby d1_9) hr29) hrun29 hended29 ⟨_, _, rfl, ?_, hRW29.1, hRW29.2.1, hRW29.2.2.1, hRW29.2.2.2.mono (by decide) (by decide)⟩
  show (Qstr_0 Z a1 a2 k h0 n0 _ T28.heap _ ∧ own_K Z T28.heap T28.vm)
  exact ⟨⟨rfl, N28, Kt28, r28_0⟩, own_K.warm (s := s) (vm0 := T28.vm) hK28 Xr28.warmed⟩
def own_b (x : Int32) : Int32 := if x = (0 : Int32) then (0 : Int32) else (1 : Int32)
def own_st (x p : Int32) : Int32 := if x = (0 : Int32) then p else (0 : Int32)
def own_ex (s : Int32) : Int32 := if s < (0 : Int32) then (1 : Int32) else if (0 : Int32) < s then (1 : Int32) else (0 : Int32)
def own_an (s : Int32) : Int32 := if s = (0 : Int32) then (0 : Int32) else (1 : Int32)
theorem own_exan (s : Int32) : own_an s = own_ex s := by
  unfold own_an own_ex
  by_cases h : s = 0
  · subst h; decide
  · rw [if_neg h]
    by_cases h1 : s < 0
    · rw [if_pos h1]
    · rw [if_neg h1, if_pos]
      rw [Int32.lt_iff_toInt_lt] at h1 ⊢
      have h2 : s.toInt ≠ (0 : Int32).toInt := fun q => h (Int32.toInt_inj.mp q)
      omega
theorem own_n4 (x : Int32) : x &&& (3 : Int32) = 0 ∨ x &&& (3 : Int32) = 1 ∨ x &&& (3 : Int32) = 2 ∨ x &&& (3 : Int32) = 3 := by
  have h1 : (x &&& (3 : Int32)).toInt = x.toInt % (2 ^ 2 : Nat) := c_mask x 3 2 (by decide) (by decide)
  generalize x &&& (3 : Int32) = y at h1 ⊢
  have h3 : y.toInt = (0 : Int32).toInt ∨ y.toInt = (1 : Int32).toInt ∨ y.toInt = (2 : Int32).toInt ∨ y.toInt = (3 : Int32).toInt := by
    simp only [Int32.reduceToInt]; omega
  simpa only [Int32.toInt_inj] using h3
theorem d9_0 : decode jdk_22_method_1_code 0 = .ok (.aload_n 0, 1) := by decide +kernel
theorem d9_1 : decode jdk_22_method_1_code 1 = .ok (.invokespecial 1, 3) := by decide +kernel
theorem d9_4 : decode jdk_22_method_1_code 4 = .ok (.return_, 1) := by decide +kernel
theorem pn_java_util_AbstractCollection : plainName "java/util/AbstractCollection" = true := by first | (simp [plainName, overriddenIn]; done) | decide +kernel
theorem ef_ac (m : MethodId) (x0 : Addr) : entryFrame m #[(.ref x0)] 1 = mkF m 0 #[.val (.ref x0)] [] := by first | (simp [entryFrame, mkF, argsToLocals, Value.category]; done) | rfl
def Qac (Z : State) (a1 : Addr) (h0 : Heap) (n0 : Nat) (v : Option Value) (h : Heap) (L : List Loc) : Prop := v = none ∧ Fr n0 L ∧ h = h0
abbrev Gac (Z : State) (a1 : Addr) (h0 : Heap) (n0 : Nat) (s : State) : Outcome → State → Prop := fun o U' => ∃ v L, o = .returned v ∧ Qac Z a1 h0 n0 v U'.heap L ∧ FrameEnd s o U' L ({ frames := 1, cells := 0, slots := 0, locals := 12 } : Room).cells ({ frames := 1, cells := 0, slots := 0, locals := 12 } : Room).slots
set_option maxRecDepth 65536 in
set_option maxHeartbeats 40000000 in
theorem rmac (l : Launch) (Z : State) (a0 : Array Value) (hw : ∀ d ∈ tables_1, d.before a0 Z = true) (ws : List Jvm.Cond) (a1 : Addr) (h0 : Heap) (n0 : Nat) (Z0 : n0 ≤ h0.size)  :
    MetFree l (⟨"java/util/AbstractCollection", "<init>", "()V"⟩ : MethodName) (head1 (Jvm.Cond.code (⟨"java/util/AbstractCollection", "<init>", "()V"⟩ : MethodName) jdk_22_method_1_code 1 none :: ws) ({ frames := 1, cells := 0, slots := 0, locals := 12 } : Room)) (fun a U => a = #[(.ref a1)] ∧ Z.Warmed39 U.vm ∧ U.heap = h0) (fun _ _ _ _ _ => True) (fun _ U o U' => ∃ v L, o = .returned v ∧ Qac Z a1 h0 n0 v U'.heap L ∧ FrameEnd U o U' L ({ frames := 1, cells := 0, slots := 0, locals := 12 } : Room).cells ({ frames := 1, cells := 0, slots := 0, locals := 12 } : Room).slots) := by
  refine MetFree.of_bodySF (plainFor_of_name pn_java_util_AbstractCollection) hisR ?_
  intro p e s m args below meth c s₁ Bd hml0 hP hK
  obtain ⟨rfl, hZ, hh⟩ := hP
  have hx := Bd.exec
  have hby := Bd.bytes
  have hml : c.maxLocals = 1 := hml0
  have hown : s.vm.findClass "java/util/AbstractCollection" = some m.cls := findClass_of_methodNamed Bd.named
  have hnm := (name_of_methodNamed Bd.named Bd.method).1
  have X0 : Stand p l e ({ frames := 1, cells := 0, slots := 0, locals := 12 } : Room) s m #[(.ref a1)] below meth c s₁ [] 0 0 := Stand.of_body Bd
  have e0 : s₁.heap = h0 := by rw [← hh, Bd.state]; rfl
  have es0 : s.heap = h0 := hh
  have N0 := Fr.nil n0
  show own_Fin p e below (Gac Z a1 h0 n0 s) (s₁.setTop (entryFrame m #[(.ref a1)] 1))
  rw [ef_ac m a1]
  refine own_go (XS.aloadN X0.here hx rfl (hb hby d9_0) rfl rfl (Steps.refl _)) ?_
  show own_Fin _ _ _ _ (s₁.setTop (mkF m 1 #[rv a1] [(.ref a1)]))
  obtain ⟨T30, X30, e30, st30⟩ := initO X0 hx hZ hown (hw _ (List.mem_of_getElem? (i := 48) rfl)) (hw _ (List.mem_of_getElem? (i := 13) rfl)) (hw _ (List.mem_of_getElem? (i := 14) rfl)) e0 (g := (mkF m 1 #[rv a1] [(.ref a1)])) rfl (by rw [hml]; rfl) rfl (hb hby d9_1) (by decide) (W := 0) (by show 2 * 0 + _ ≤ _; exact Nat.le_of_eq rfl) (by decide)
  refine own_by st30 ?_
  show own_Fin _ _ _ _ (T30.setTop (mkF m 4 #[rv a1] []))
  obtain ⟨fs31, hr31, hrun31, hended31, hW31, hsame31⟩ := X30.leave (v := none) (fun _ => rfl)
  refine own_done (X30.returnOut hx Bd.returns (hb hby d9_4) hr31) hrun31 hended31 ⟨_, _, rfl, ?_, ⟨_, rfl⟩, hW31, hsame31.mono (by decide) (by decide)⟩
  show Qac Z a1 h0 n0 _ T30.heap _
  rw [e30]
  exact ⟨rfl, N0, rfl⟩
theorem d8_0 : decode jdk_39_method_1_code 0 = .ok (.aload_n 0, 1) := by decide +kernel
theorem d8_1 : decode jdk_39_method_1_code 1 = .ok (.invokespecial 1, 3) := by decide +kernel
theorem d8_4 : decode jdk_39_method_1_code 4 = .ok (.aload_n 0, 1) := by decide +kernel
theorem d8_5 : decode jdk_39_method_1_code 5 = .ok (.iconst 0, 1) := by decide +kernel
theorem d8_6 : decode jdk_39_method_1_code 6 = .ok (.putfield 7, 3) := by decide +kernel
theorem d8_9 : decode jdk_39_method_1_code 9 = .ok (.return_, 1) := by decide +kernel
theorem pn_java_util_AbstractList : plainName "java/util/AbstractList" = true := by first | (simp [plainName, overriddenIn]; done) | decide +kernel
theorem ef_ab (m : MethodId) (x0 : Addr) : entryFrame m #[(.ref x0)] 1 = mkF m 0 #[.val (.ref x0)] [] := by first | (simp [entryFrame, mkF, argsToLocals, Value.category]; done) | rfl
def Qab (Z : State) (a1 : Addr) (h0 : Heap) (n0 : Nat) (v : Option Value) (h : Heap) (L : List Loc) : Prop := v = none ∧ Fr n0 L ∧ Keep h0 h [a1] ∧ Exa Z h a1 "java/util/ArrayList" ∧ Fld Z h a1 "java/util/AbstractList" "modCount" "I" (.int (0 : Int32)) ∧ Fld Z h a1 "java/util/ArrayList" "elementData" "[Ljava/lang/Object;" .null
abbrev Gab (Z : State) (a1 : Addr) (h0 : Heap) (n0 : Nat) (s : State) : Outcome → State → Prop := fun o U' => ∃ v L, o = .returned v ∧ Qab Z a1 h0 n0 v U'.heap L ∧ FrameEnd s o U' L ({ frames := 2, cells := 0, slots := 0, locals := 24 } : Room).cells ({ frames := 2, cells := 0, slots := 0, locals := 24 } : Room).slots
theorem pd__28__29_V : parseMethodDescriptor "()V" = some ⟨[], none⟩ := by decide +kernel
set_option maxRecDepth 65536 in
set_option maxHeartbeats 40000000 in
theorem rmab (l : Launch) (Z : State) (a0 : Array Value) (hw : ∀ d ∈ tables_1, d.before a0 Z = true) (ws : List Jvm.Cond) (a1 : Addr) (h0 : Heap) (n0 : Nat) (Z0 : n0 ≤ h0.size) (E_a1 : Exa Z h0 a1 "java/util/ArrayList") (F_modCount_a1 : Fld Z h0 a1 "java/util/AbstractList" "modCount" "I" (.int (0 : Int32))) (F_elementData_a1 : Fld Z h0 a1 "java/util/ArrayList" "elementData" "[Ljava/lang/Object;" .null) (g_a1 : n0 ≤ a1) :
    MetFree l (⟨"java/util/AbstractList", "<init>", "()V"⟩ : MethodName) (head1 (Jvm.Cond.code (⟨"java/util/AbstractList", "<init>", "()V"⟩ : MethodName) jdk_39_method_1_code 1 none :: ws) ({ frames := 2, cells := 0, slots := 0, locals := 24 } : Room)) (fun a U => a = #[(.ref a1)] ∧ Z.Warmed39 U.vm ∧ U.heap = h0) (fun _ _ _ _ _ => True) (fun _ U o U' => ∃ v L, o = .returned v ∧ Qab Z a1 h0 n0 v U'.heap L ∧ FrameEnd U o U' L ({ frames := 2, cells := 0, slots := 0, locals := 24 } : Room).cells ({ frames := 2, cells := 0, slots := 0, locals := 24 } : Room).slots) := by
  refine MetFree.of_bodySF (plainFor_of_name pn_java_util_AbstractList) hisR ?_
  intro p e s m args below meth c s₁ Bd hml0 hP hK
  obtain ⟨rfl, hZ, hh⟩ := hP
  have hx := Bd.exec
  have hby := Bd.bytes
  have hml : c.maxLocals = 1 := hml0
  have hown : s.vm.findClass "java/util/AbstractList" = some m.cls := findClass_of_methodNamed Bd.named
  have hnm := (name_of_methodNamed Bd.named Bd.method).1
  have X0 : Stand p l e ({ frames := 2, cells := 0, slots := 0, locals := 24 } : Room) s m #[(.ref a1)] below meth c s₁ [] 0 0 := Stand.of_body Bd
  have e0 : s₁.heap = h0 := by rw [← hh, Bd.state]; rfl
  have es0 : s.heap = h0 := hh
  have N0 := Fr.nil n0
  show own_Fin p e below (Gab Z a1 h0 n0 s) (s₁.setTop (entryFrame m #[(.ref a1)] 1))
  rw [ef_ab m a1]
  have Kz := Keep.refl h0 [a1]
  refine own_go (XS.aloadN X0.here hx rfl (hb hby d8_0) rfl rfl (Steps.refl _)) ?_
  show own_Fin _ _ _ _ (s₁.setTop (mkF m 1 #[rv a1] [(.ref a1)]))
  obtain ⟨_, _, ⟨T32, L32, k32, n32⟩, -, X32, ⟨Lc32, hQ32, l32, y32, z32⟩, st32⟩ := X0.specialBack hx (y := (⟨"java/util/AbstractCollection", "<init>", "()V"⟩ : MethodName)) rfl hown (mvT hZ (hw _ (List.mem_of_getElem? (i := 42) rfl))) (mvT hZ (hw _ (List.mem_of_getElem? (i := 43) rfl))) (mvT hZ (hw _ (List.mem_of_getElem? (i := 47) rfl))) (by decide) (backOf (W := 0) (rmac l Z a0 hw [] a1 h0 n0 Z0) hZ (hw _ (List.mem_of_getElem? (i := 47) rfl)) (hw _ (List.mem_of_getElem? (i := 46) rfl)) (by decide) (by decide)) (g := (mkF m 1 #[rv a1] [(.ref a1)])) rfl (by rw [hml]; rfl) (Steps.refl _) (a := a1) (argsL := []) (rest := []) (lenOf pd__28__29_V rfl) rfl (by show 2 * 0 + _ ≤ _; exact Nat.le_of_eq rfl) (hb hby d8_1) (fun _ hv => ⟨rfl, e0, (by decide : 0 + 0 ≤ _), (by decide : 0 + 0 ≤ _)⟩)
  dsimp only [Pt.U, Pt.locs, Pt.cells, Pt.slots] at X32 l32 y32 z32 st32 hQ32
  subst l32 y32 z32
  obtain ⟨rfl, Nq32, e32⟩ := hQ32
  refine own_go st32 ?_
  have N32 := Fr.app N0 Nq32
  show own_Fin _ _ _ _ (T32.setTop (mkF m 4 #[rv a1] []))
  refine own_go (XS.aloadN X32.here hx rfl (hb hby d8_4) rfl rfl (Steps.refl _)) ?_
  show own_Fin _ _ _ _ (T32.setTop (mkF m 5 #[rv a1] [(.ref a1)]))
  refine own_go (XS.iconst X32.here hx rfl (hb hby d8_5) (Steps.refl _)) ?_
  show own_Fin _ _ _ _ (T32.setTop (mkF m 6 #[rv a1] [(.int (0 : Int32)), (.ref a1)]))
  obtain ⟨T33, h33, X33, e33, W33, st33⟩ := putF X32 hx hZ hown (host := "") (Or.inl (hw _ (List.mem_of_getElem? (i := 49) rfl))) Via.refl e32 F_modCount_a1 E_a1 (Or.inl (hw _ (List.mem_of_getElem? (i := 50) rfl))) (hw _ (List.mem_of_getElem? (i := 31) rfl)) (ty := .int) (by decide) rfl rfl (g := (mkF m 6 #[rv a1] [(.int (0 : Int32)), (.ref a1)])) rfl rfl (hb hby d8_6)
  refine own_by st33 ?_
  have F_modCount_a1_33 := F_modCount_a1.same W33
  have E_a1_33 := E_a1.wr W33
  have F_elementData_a1_33 := F_elementData_a1.other W33 (Or.inr (slot_ne (Or.inl (hw _ (List.mem_of_getElem? (i := 53) rfl))) (Or.inl (hw _ (List.mem_of_getElem? (i := 50) rfl))) (by decide) (t := (.array (.object "java/lang/Object"))) (t' := .int) (by decide) (by decide)))
  have N33 := Fr.snoc X33 N32 g_a1
  have Z33 : n0 ≤ h33.size := Nat.le_trans Z0 (Keep.of_wr W33).1
  have K33 := Kz.wr W33 (Or.inl (List.mem_of_getElem? (i := 0) rfl))
  show own_Fin _ _ _ _ (T33.setTop (mkF m 9 #[rv a1] []))
  obtain ⟨fs34, hr34, hrun34, hended34, hW34, hsame34⟩ := X33.leave (v := none) (fun _ => rfl)
  refine own_done (X33.returnOut hx Bd.returns (hb hby d8_9) hr34) hrun34 hended34 ⟨_, _, rfl, ?_, ⟨_, rfl⟩, hW34, hsame34.mono (by decide) (by decide)⟩
  show Qab Z a1 h0 n0 _ T33.heap _
  rw [e33]
  exact ⟨rfl, N33, K33, E_a1_33, F_modCount_a1_33, F_elementData_a1_33⟩
theorem d7_0 : decode jdk_38_method_2_code 0 = .ok (.aload_n 0, 1) := by decide +kernel
theorem d7_1 : decode jdk_38_method_2_code 1 = .ok (.invokespecial 1, 3) := by decide +kernel
theorem d7_4 : decode jdk_38_method_2_code 4 = .ok (.aload_n 0, 1) := by decide +kernel
theorem d7_5 : decode jdk_38_method_2_code 5 = .ok (.getstatic 39, 3) := by decide +kernel
theorem d7_8 : decode jdk_38_method_2_code 8 = .ok (.putfield 9, 3) := by decide +kernel
theorem d7_11 : decode jdk_38_method_2_code 11 = .ok (.return_, 1) := by decide +kernel
theorem pn_java_util_ArrayList : plainName "java/util/ArrayList" = true := by first | (simp [plainName, overriddenIn]; done) | decide +kernel
theorem ef_ali (m : MethodId) (x0 : Addr) : entryFrame m #[(.ref x0)] 1 = mkF m 0 #[.val (.ref x0)] [] := by first | (simp [entryFrame, mkF, argsToLocals, Value.category]; done) | rfl
def Qali (Z : State) (a1 : Addr) (dd : Addr) (h0 : Heap) (n0 : Nat) (v : Option Value) (h : Heap) (L : List Loc) : Prop := v = none ∧ Fr n0 L ∧ Keep h0 h [a1] ∧ Exa Z h a1 "java/util/ArrayList" ∧ Fld Z h a1 "java/util/AbstractList" "modCount" "I" (.int (0 : Int32)) ∧ Fld Z h a1 "java/util/ArrayList" "elementData" "[Ljava/lang/Object;" (.ref dd)
abbrev Gali (Z : State) (a1 : Addr) (dd : Addr) (h0 : Heap) (n0 : Nat) (s : State) : Outcome → State → Prop := fun o U' => ∃ v L, o = .returned v ∧ Qali Z a1 dd h0 n0 v U'.heap L ∧ FrameEnd s o U' L ({ frames := 3, cells := 0, slots := 0, locals := 36 } : Room).cells ({ frames := 3, cells := 0, slots := 0, locals := 36 } : Room).slots
set_option maxRecDepth 65536 in
set_option maxHeartbeats 40000000 in
theorem rmali (l : Launch) (Z : State) (a0 : Array Value) (hw : ∀ d ∈ tables_1, d.before a0 Z = true) (ws : List Jvm.Cond) (a1 : Addr) (dd : Addr) (h0 : Heap) (n0 : Nat) (Z0 : n0 ≤ h0.size) (E_a1 : Exa Z h0 a1 "java/util/ArrayList") (F_modCount_a1 : Fld Z h0 a1 "java/util/AbstractList" "modCount" "I" (.int (0 : Int32))) (F_elementData_a1 : Fld Z h0 a1 "java/util/ArrayList" "elementData" "[Ljava/lang/Object;" .null) (g_a1 : n0 ≤ a1) (O0 : Old Z n0 h0) (S_DEFAULTCAPACITY_EMPTY_ELEMENTDATA : Sta Z Z.heap "java/util/ArrayList" "DEFAULTCAPACITY_EMPTY_ELEMENTDATA" "[Ljava/lang/Object;" (.ref dd)) :
    MetFree l (⟨"java/util/ArrayList", "<init>", "()V"⟩ : MethodName) (head1 (Jvm.Cond.code (⟨"java/util/ArrayList", "<init>", "()V"⟩ : MethodName) jdk_38_method_2_code 1 none :: ws) ({ frames := 3, cells := 0, slots := 0, locals := 36 } : Room)) (fun a U => a = #[(.ref a1)] ∧ Z.Warmed39 U.vm ∧ U.heap = h0) (fun _ _ _ _ _ => True) (fun _ U o U' => ∃ v L, o = .returned v ∧ Qali Z a1 dd h0 n0 v U'.heap L ∧ FrameEnd U o U' L ({ frames := 3, cells := 0, slots := 0, locals := 36 } : Room).cells ({ frames := 3, cells := 0, slots := 0, locals := 36 } : Room).slots) := by
  refine MetFree.of_bodySF (plainFor_of_name pn_java_util_ArrayList) hisR ?_
  intro p e s m args below meth c s₁ Bd hml0 hP hK
  obtain ⟨rfl, hZ, hh⟩ := hP
  have hx := Bd.exec
  have hby := Bd.bytes
  have hml : c.maxLocals = 1 := hml0
  have hown : s.vm.findClass "java/util/ArrayList" = some m.cls := findClass_of_methodNamed Bd.named
  have hnm := (name_of_methodNamed Bd.named Bd.method).1
  have X0 : Stand p l e ({ frames := 3, cells := 0, slots := 0, locals := 36 } : Room) s m #[(.ref a1)] below meth c s₁ [] 0 0 := Stand.of_body Bd
  have e0 : s₁.heap = h0 := by rw [← hh, Bd.state]; rfl
  have es0 : s.heap = h0 := hh
  have N0 := Fr.nil n0
  show own_Fin p e below (Gali Z a1 dd h0 n0 s) (s₁.setTop (entryFrame m #[(.ref a1)] 1))
  rw [ef_ali m a1]
  have Kz := Keep.refl h0 [a1]
  refine own_go (XS.aloadN X0.here hx rfl (hb hby d7_0) rfl rfl (Steps.refl _)) ?_
  show own_Fin _ _ _ _ (s₁.setTop (mkF m 1 #[rv a1] [(.ref a1)]))
  obtain ⟨_, _, ⟨T35, L35, k35, n35⟩, -, X35, ⟨Lc35, hQ35, l35, y35, z35⟩, st35⟩ := X0.specialBack hx (y := (⟨"java/util/AbstractList", "<init>", "()V"⟩ : MethodName)) rfl hown (mvT hZ (hw _ (List.mem_of_getElem? (i := 36) rfl))) (mvT hZ (hw _ (List.mem_of_getElem? (i := 37) rfl))) (mvT hZ (hw _ (List.mem_of_getElem? (i := 41) rfl))) (by decide) (backOf (W := 0) (rmab l Z a0 hw [] a1 h0 n0 Z0 E_a1 F_modCount_a1 F_elementData_a1 g_a1) hZ (hw _ (List.mem_of_getElem? (i := 41) rfl)) (hw _ (List.mem_of_getElem? (i := 40) rfl)) (by decide) (by decide)) (g := (mkF m 1 #[rv a1] [(.ref a1)])) rfl (by rw [hml]; rfl) (Steps.refl _) (a := a1) (argsL := []) (rest := []) (lenOf pd__28__29_V rfl) rfl (by show 2 * 0 + _ ≤ _; exact Nat.le_of_eq rfl) (hb hby d7_1) (fun _ hv => ⟨rfl, e0, (by decide : 0 + 0 ≤ _), (by decide : 0 + 0 ≤ _)⟩)
  dsimp only [Pt.U, Pt.locs, Pt.cells, Pt.slots] at X35 l35 y35 z35 st35 hQ35
  subst l35 y35 z35
  refine own_go st35 ?_
  obtain ⟨rfl, Nq35, K35, r35_0, r35_1, r35_2⟩ := hQ35
  have Od35 := O0.keep K35 (allS g_a1 all0)
  have E_a1_35 := E_a1.keep K35
  have Z35 : n0 ≤ T35.heap.size := Nat.le_trans Z0 K35.1
  have Kt35 := Kz.trans K35 (allS (P := fun x => x ∈ _ ∨ _ ≤ x) (Or.inl (List.mem_of_getElem? (i := 0) rfl)) all0)
  have N35 := Fr.app N0 Nq35
  show own_Fin _ _ _ _ (T35.setTop (mkF m 4 #[rv a1] []))
  refine own_go (XS.aloadN X35.here hx rfl (hb hby d7_4) rfl rfl (Steps.refl _)) ?_
  show own_Fin _ _ _ _ (T35.setTop (mkF m 5 #[rv a1] [(.ref a1)]))
  obtain ⟨T36, X36, e36, st36⟩ := getS2 X35 hx hZ hown (host := "") (Or.inl (hw _ (List.mem_of_getElem? (i := 51) rfl))) Via.refl rfl (S_DEFAULTCAPACITY_EMPTY_ELEMENTDATA.ext Od35.2) (g := (mkF m 5 #[rv a1] [(.ref a1)])) rfl (hb hby d7_5)
  refine own_by st36 ?_
  show own_Fin _ _ _ _ (T36.setTop (mkF m 8 #[rv a1] [(.ref dd), (.ref a1)]))
  obtain ⟨T37, h37, X37, e37, W37, st37⟩ := putF X36 hx hZ hown (host := "") (Or.inl (hw _ (List.mem_of_getElem? (i := 52) rfl))) Via.refl e36 r35_2 r35_0 (Or.inl (hw _ (List.mem_of_getElem? (i := 53) rfl))) (hw _ (List.mem_of_getElem? (i := 31) rfl)) (ty := (.array (.object "java/lang/Object"))) (by decide) rfl rfl (g := (mkF m 8 #[rv a1] [(.ref dd), (.ref a1)])) rfl rfl (hb hby d7_8)
  refine own_by st37 ?_
  have F_elementData_a1_37 := r35_2.same W37
  have Od37 := Od35.wr W37 g_a1
  have r35_0_37 := r35_0.wr W37
  have r35_1_37 := r35_1.other W37 (Or.inr (slot_ne (Or.inl (hw _ (List.mem_of_getElem? (i := 50) rfl))) (Or.inl (hw _ (List.mem_of_getElem? (i := 53) rfl))) (by decide) (t := .int) (t' := (.array (.object "java/lang/Object"))) (by decide) (by decide)))
  have N37 := Fr.snoc X37 N35 g_a1
  have Z37 : n0 ≤ h37.size := Nat.le_trans Z35 (Keep.of_wr W37).1
  have K37 := Kt35.wr W37 (Or.inl (List.mem_of_getElem? (i := 0) rfl))
  show own_Fin _ _ _ _ (T37.setTop (mkF m 11 #[rv a1] []))
  obtain ⟨fs38, hr38, hrun38, hended38, hW38, hsame38⟩ := X37.leave (v := none) (fun _ => rfl)
  refine own_done (X37.returnOut hx Bd.returns (hb hby d7_11) hr38) hrun38 hended38 ⟨_, _, rfl, ?_, ⟨_, rfl⟩, hW38, hsame38.mono (by decide) (by decide)⟩
  show Qali Z a1 dd h0 n0 _ T37.heap _
  rw [e37]
  exact ⟨rfl, N37, K37, r35_0_37, r35_1_37, F_elementData_a1_37⟩
theorem d11_0 : decode jdk_30_method_1_code 0 = .ok (.aload_n 0, 1) := by decide +kernel
theorem d11_1 : decode jdk_30_method_1_code 1 = .ok (.invokespecial 1, 3) := by decide +kernel
theorem d11_4 : decode jdk_30_method_1_code 4 = .ok (.return_, 1) := by decide +kernel
theorem pn_java_lang_Record : plainName "java/lang/Record" = true := by first | (simp [plainName, overriddenIn]; done) | decide +kernel
theorem ef_rec (m : MethodId) (x0 : Addr) : entryFrame m #[(.ref x0)] 1 = mkF m 0 #[.val (.ref x0)] [] := by first | (simp [entryFrame, mkF, argsToLocals, Value.category]; done) | rfl
def Qrec (Z : State) (a1 : Addr) (h0 : Heap) (n0 : Nat) (v : Option Value) (h : Heap) (L : List Loc) : Prop := v = none ∧ Fr n0 L ∧ h = h0
abbrev Grec (Z : State) (a1 : Addr) (h0 : Heap) (n0 : Nat) (s : State) : Outcome → State → Prop := fun o U' => ∃ v L, o = .returned v ∧ Qrec Z a1 h0 n0 v U'.heap L ∧ FrameEnd s o U' L ({ frames := 1, cells := 0, slots := 0, locals := 12 } : Room).cells ({ frames := 1, cells := 0, slots := 0, locals := 12 } : Room).slots
set_option maxRecDepth 65536 in
set_option maxHeartbeats 40000000 in
theorem rmrec (l : Launch) (Z : State) (a0 : Array Value) (hw : ∀ d ∈ tables_1, d.before a0 Z = true) (ws : List Jvm.Cond) (a1 : Addr) (h0 : Heap) (n0 : Nat) (Z0 : n0 ≤ h0.size)  :
    MetFree l (⟨"java/lang/Record", "<init>", "()V"⟩ : MethodName) (head1 (Jvm.Cond.code (⟨"java/lang/Record", "<init>", "()V"⟩ : MethodName) jdk_30_method_1_code 1 none :: ws) ({ frames := 1, cells := 0, slots := 0, locals := 12 } : Room)) (fun a U => a = #[(.ref a1)] ∧ Z.Warmed39 U.vm ∧ U.heap = h0) (fun _ _ _ _ _ => True) (fun _ U o U' => ∃ v L, o = .returned v ∧ Qrec Z a1 h0 n0 v U'.heap L ∧ FrameEnd U o U' L ({ frames := 1, cells := 0, slots := 0, locals := 12 } : Room).cells ({ frames := 1, cells := 0, slots := 0, locals := 12 } : Room).slots) := by
  refine MetFree.of_bodySF (plainFor_of_name pn_java_lang_Record) hisR ?_
  intro p e s m args below meth c s₁ Bd hml0 hP hK
  obtain ⟨rfl, hZ, hh⟩ := hP
  have hx := Bd.exec
  have hby := Bd.bytes
  have hml : c.maxLocals = 1 := hml0
  have hown : s.vm.findClass "java/lang/Record" = some m.cls := findClass_of_methodNamed Bd.named
  have hnm := (name_of_methodNamed Bd.named Bd.method).1
  have X0 : Stand p l e ({ frames := 1, cells := 0, slots := 0, locals := 12 } : Room) s m #[(.ref a1)] below meth c s₁ [] 0 0 := Stand.of_body Bd
  have e0 : s₁.heap = h0 := by rw [← hh, Bd.state]; rfl
  have es0 : s.heap = h0 := hh
  have N0 := Fr.nil n0
  show own_Fin p e below (Grec Z a1 h0 n0 s) (s₁.setTop (entryFrame m #[(.ref a1)] 1))
  rw [ef_rec m a1]
  refine own_go (XS.aloadN X0.here hx rfl (hb hby d11_0) rfl rfl (Steps.refl _)) ?_
  show own_Fin _ _ _ _ (s₁.setTop (mkF m 1 #[rv a1] [(.ref a1)]))
  obtain ⟨T39, X39, e39, st39⟩ := initO X0 hx hZ hown (hw _ (List.mem_of_getElem? (i := 65) rfl)) (hw _ (List.mem_of_getElem? (i := 13) rfl)) (hw _ (List.mem_of_getElem? (i := 14) rfl)) e0 (g := (mkF m 1 #[rv a1] [(.ref a1)])) rfl (by rw [hml]; rfl) rfl (hb hby d11_1) (by decide) (W := 0) (by show 2 * 0 + _ ≤ _; exact Nat.le_of_eq rfl) (by decide)
  refine own_by st39 ?_
  show own_Fin _ _ _ _ (T39.setTop (mkF m 4 #[rv a1] []))
  obtain ⟨fs40, hr40, hrun40, hended40, hW40, hsame40⟩ := X39.leave (v := none) (fun _ => rfl)
  refine own_done (X39.returnOut hx Bd.returns (hb hby d11_4) hr40) hrun40 hended40 ⟨_, _, rfl, ?_, ⟨_, rfl⟩, hW40, hsame40.mono (by decide) (by decide)⟩
  show Qrec Z a1 h0 n0 _ T39.heap _
  rw [e39]
  exact ⟨rfl, N0, rfl⟩
theorem d10_0 : decode prog_9_method_2_code 0 = .ok (.aload_n 0, 1) := by decide +kernel
theorem d10_1 : decode prog_9_method_2_code 1 = .ok (.invokespecial 1, 3) := by decide +kernel
theorem d10_4 : decode prog_9_method_2_code 4 = .ok (.aload_n 0, 1) := by decide +kernel
theorem d10_5 : decode prog_9_method_2_code 5 = .ok (.iload_n 1, 1) := by decide +kernel
theorem d10_6 : decode prog_9_method_2_code 6 = .ok (.putfield 7, 3) := by decide +kernel
theorem d10_9 : decode prog_9_method_2_code 9 = .ok (.aload_n 0, 1) := by decide +kernel
theorem d10_10 : decode prog_9_method_2_code 10 = .ok (.aload_n 2, 1) := by decide +kernel
theorem d10_11 : decode prog_9_method_2_code 11 = .ok (.putfield 13, 3) := by decide +kernel
theorem d10_14 : decode prog_9_method_2_code 14 = .ok (.aload_n 0, 1) := by decide +kernel
theorem d10_15 : decode prog_9_method_2_code 15 = .ok (.aload_n 3, 1) := by decide +kernel
theorem d10_16 : decode prog_9_method_2_code 16 = .ok (.putfield 17, 3) := by decide +kernel
theorem d10_19 : decode prog_9_method_2_code 19 = .ok (.aload_n 0, 1) := by decide +kernel
theorem d10_20 : decode prog_9_method_2_code 20 = .ok (.aload 4, 2) := by decide +kernel
theorem d10_22 : decode prog_9_method_2_code 22 = .ok (.putfield 21, 3) := by decide +kernel
theorem d10_25 : decode prog_9_method_2_code 25 = .ok (.aload_n 0, 1) := by decide +kernel
theorem d10_26 : decode prog_9_method_2_code 26 = .ok (.iload 5, 2) := by decide +kernel
theorem d10_28 : decode prog_9_method_2_code 28 = .ok (.putfield 25, 3) := by decide +kernel
theorem d10_31 : decode prog_9_method_2_code 31 = .ok (.return_, 1) := by decide +kernel
theorem pn_com_example_pryority_pryority_Response : plainName "com/example/pryority/pryority/Response" = true := by first | (simp [plainName, overriddenIn]; done) | decide +kernel
theorem ef_r5 (m : MethodId) (x0 : Addr) (x1 : Int32) (x2 : Addr) (x3 : Addr) (x4 : Addr) (x5 : Int32) : entryFrame m #[(.ref x0), (.int x1), (.ref x2), (.ref x3), (.ref x4), (.int x5)] 6 = mkF m 0 #[.val (.ref x0), .val (.int x1), .val (.ref x2), .val (.ref x3), .val (.ref x4), .val (.int x5)] [] := by first | (simp [entryFrame, mkF, argsToLocals, Value.category]; done) | rfl
def Qr5 (Z : State) (a1 : Addr) (p2 : Int32) (a3 : Addr) (a4 : Addr) (a5 : Addr) (p6 : Int32) (h0 : Heap) (n0 : Nat) (v : Option Value) (h : Heap) (L : List Loc) : Prop := v = none ∧ Fr n0 L ∧ Keep h0 h [a1] ∧ Exa Z h a1 "com/example/pryority/pryority/Response" ∧ Fld Z h a1 "com/example/pryority/pryority/Response" "status" "I" (.int p2)
abbrev Gr5 (Z : State) (a1 : Addr) (p2 : Int32) (a3 : Addr) (a4 : Addr) (a5 : Addr) (p6 : Int32) (h0 : Heap) (n0 : Nat) (s : State) : Outcome → State → Prop := fun o U' => ∃ v L, o = .returned v ∧ Qr5 Z a1 p2 a3 a4 a5 p6 h0 n0 v U'.heap L ∧ FrameEnd s o U' L ({ frames := 2, cells := 0, slots := 0, locals := 28 } : Room).cells ({ frames := 2, cells := 0, slots := 0, locals := 28 } : Room).slots
set_option maxRecDepth 65536 in
set_option maxHeartbeats 40000000 in
theorem rmr5 (l : Launch) (Z : State) (a0 : Array Value) (hw : ∀ d ∈ tables_1, d.before a0 Z = true) (ws : List Jvm.Cond) (a1 : Addr) (p2 : Int32) (a3 : Addr) (a4 : Addr) (a5 : Addr) (p6 : Int32) (h0 : Heap) (n0 : Nat) (Z0 : n0 ≤ h0.size) (E_a1 : Exa Z h0 a1 "com/example/pryority/pryority/Response") (F_status_a1 : Fld Z h0 a1 "com/example/pryority/pryority/Response" "status" "I" (.int (0 : Int32))) (F_reason_a1 : Fld Z h0 a1 "com/example/pryority/pryority/Response" "reason" "Ljava/lang/String;" .null) (F_fields_a1 : Fld Z h0 a1 "com/example/pryority/pryority/Response" "fields" "Ljava/util/List;" .null) (F_body_a1 : Fld Z h0 a1 "com/example/pryority/pryority/Response" "body" "[B" .null) (F_truncated_a1 : Fld Z h0 a1 "com/example/pryority/pryority/Response" "truncated" "Z" (.int (0 : Int32))) (g_a1 : n0 ≤ a1) :
    MetFree l (⟨"com/example/pryority/pryority/Response", "<init>", "(ILjava/lang/String;Ljava/util/List;[BZ)V"⟩ : MethodName) (head1 (Jvm.Cond.code (⟨"com/example/pryority/pryority/Response", "<init>", "(ILjava/lang/String;Ljava/util/List;[BZ)V"⟩ : MethodName) prog_9_method_2_code 6 none :: ws) ({ frames := 2, cells := 0, slots := 0, locals := 28 } : Room)) (fun a U => a = #[(.ref a1), (.int p2), (.ref a3), (.ref a4), (.ref a5), (.int p6)] ∧ Z.Warmed39 U.vm ∧ U.heap = h0) (fun _ _ _ _ _ => True) (fun _ U o U' => ∃ v L, o = .returned v ∧ Qr5 Z a1 p2 a3 a4 a5 p6 h0 n0 v U'.heap L ∧ FrameEnd U o U' L ({ frames := 2, cells := 0, slots := 0, locals := 28 } : Room).cells ({ frames := 2, cells := 0, slots := 0, locals := 28 } : Room).slots) := by
  refine MetFree.of_bodySF (plainFor_of_name pn_com_example_pryority_pryority_Response) hisR ?_
  intro p e s m args below meth c s₁ Bd hml0 hP hK
  obtain ⟨rfl, hZ, hh⟩ := hP
  have hx := Bd.exec
  have hby := Bd.bytes
  have hml : c.maxLocals = 6 := hml0
  have hown : s.vm.findClass "com/example/pryority/pryority/Response" = some m.cls := findClass_of_methodNamed Bd.named
  have hnm := (name_of_methodNamed Bd.named Bd.method).1
  have X0 : Stand p l e ({ frames := 2, cells := 0, slots := 0, locals := 28 } : Room) s m #[(.ref a1), (.int p2), (.ref a3), (.ref a4), (.ref a5), (.int p6)] below meth c s₁ [] 0 0 := Stand.of_body Bd
  have e0 : s₁.heap = h0 := by rw [← hh, Bd.state]; rfl
  have es0 : s.heap = h0 := hh
  have N0 := Fr.nil n0
  show own_Fin p e below (Gr5 Z a1 p2 a3 a4 a5 p6 h0 n0 s) (s₁.setTop (entryFrame m #[(.ref a1), (.int p2), (.ref a3), (.ref a4), (.ref a5), (.int p6)] 6))
  rw [ef_r5 m a1 p2 a3 a4 a5 p6]
  have Kz := Keep.refl h0 [a1]
  refine own_go (XS.aloadN X0.here hx rfl (hb hby d10_0) rfl rfl (Steps.refl _)) ?_
  show own_Fin _ _ _ _ (s₁.setTop (mkF m 1 #[rv a1, iv p2, rv a3, rv a4, rv a5, iv p6] [(.ref a1)]))
  obtain ⟨_, _, ⟨T41, L41, k41, n41⟩, -, X41, ⟨Lc41, hQ41, l41, y41, z41⟩, st41⟩ := X0.specialBack hx (y := (⟨"java/lang/Record", "<init>", "()V"⟩ : MethodName)) rfl hown (mvT hZ (hw _ (List.mem_of_getElem? (i := 60) rfl))) (mvT hZ (hw _ (List.mem_of_getElem? (i := 61) rfl))) (mvT hZ (hw _ (List.mem_of_getElem? (i := 64) rfl))) (by decide) (backOf (W := 0) (rmrec l Z a0 hw [] a1 h0 n0 Z0) hZ (hw _ (List.mem_of_getElem? (i := 64) rfl)) (hw _ (List.mem_of_getElem? (i := 63) rfl)) (by decide) (by decide)) (g := (mkF m 1 #[rv a1, iv p2, rv a3, rv a4, rv a5, iv p6] [(.ref a1)])) rfl (by rw [hml]; rfl) (Steps.refl _) (a := a1) (argsL := []) (rest := []) (lenOf pd__28__29_V rfl) rfl (by show 2 * 0 + _ ≤ _; exact Nat.le_of_eq rfl) (hb hby d10_1) (fun _ hv => ⟨rfl, e0, (by decide : 0 + 0 ≤ _), (by decide : 0 + 0 ≤ _)⟩)
  dsimp only [Pt.U, Pt.locs, Pt.cells, Pt.slots] at X41 l41 y41 z41 st41 hQ41
  subst l41 y41 z41
  obtain ⟨rfl, Nq41, e41⟩ := hQ41
  refine own_go st41 ?_
  have N41 := Fr.app N0 Nq41
  show own_Fin _ _ _ _ (T41.setTop (mkF m 4 #[rv a1, iv p2, rv a3, rv a4, rv a5, iv p6] []))
  refine own_go (XS.aloadN X41.here hx rfl (hb hby d10_4) rfl rfl (Steps.refl _)) ?_
  show own_Fin _ _ _ _ (T41.setTop (mkF m 5 #[rv a1, iv p2, rv a3, rv a4, rv a5, iv p6] [(.ref a1)]))
  refine own_go (XS.iloadN X41.here hx rfl (hb hby d10_5) rfl (Steps.refl _)) ?_
  show own_Fin _ _ _ _ (T41.setTop (mkF m 6 #[rv a1, iv p2, rv a3, rv a4, rv a5, iv p6] [(.int p2), (.ref a1)]))
  obtain ⟨T42, h42, X42, e42, W42, st42⟩ := putF X41 hx hZ hown (host := "") (Or.inl (hw _ (List.mem_of_getElem? (i := 66) rfl))) Via.refl e41 F_status_a1 E_a1 (Or.inr ⟨(hw _ (List.mem_of_getElem? (i := 67) rfl)), rfl, hnm⟩) (hw _ (List.mem_of_getElem? (i := 55) rfl)) (ty := .int) (by decide) rfl rfl (g := (mkF m 6 #[rv a1, iv p2, rv a3, rv a4, rv a5, iv p6] [(.int p2), (.ref a1)])) rfl rfl (hb hby d10_6)
  refine own_by st42 ?_
  have F_status_a1_42 := F_status_a1.same W42
  have E_a1_42 := E_a1.wr W42
  have F_reason_a1_42 := F_reason_a1.other W42 (Or.inr (slot_ne (Or.inr (hw _ (List.mem_of_getElem? (i := 69) rfl))) (Or.inr (hw _ (List.mem_of_getElem? (i := 67) rfl))) (by decide) (t := (.object "java/lang/String")) (t' := .int) (by decide) (by decide)))
  have F_fields_a1_42 := F_fields_a1.other W42 (Or.inr (slot_ne (Or.inr (hw _ (List.mem_of_getElem? (i := 71) rfl))) (Or.inr (hw _ (List.mem_of_getElem? (i := 67) rfl))) (by decide) (t := (.object "java/util/List")) (t' := .int) (by decide) (by decide)))
  have F_body_a1_42 := F_body_a1.other W42 (Or.inr (slot_ne (Or.inr (hw _ (List.mem_of_getElem? (i := 73) rfl))) (Or.inr (hw _ (List.mem_of_getElem? (i := 67) rfl))) (by decide) (t := (.array .byte)) (t' := .int) (by decide) (by decide)))
  have F_truncated_a1_42 := F_truncated_a1.other W42 (Or.inr (slot_ne (Or.inr (hw _ (List.mem_of_getElem? (i := 75) rfl))) (Or.inr (hw _ (List.mem_of_getElem? (i := 67) rfl))) (by decide) (t := .boolean) (t' := .int) (by decide) (by decide)))
  have N42 := Fr.snoc X42 N41 g_a1
  have Z42 : n0 ≤ h42.size := Nat.le_trans Z0 (Keep.of_wr W42).1
  have K42 := Kz.wr W42 (Or.inl (List.mem_of_getElem? (i := 0) rfl))
  show own_Fin _ _ _ _ (T42.setTop (mkF m 9 #[rv a1, iv p2, rv a3, rv a4, rv a5, iv p6] []))
  refine own_go (XS.aloadN X42.here hx rfl (hb hby d10_9) rfl rfl (Steps.refl _)) ?_
  show own_Fin _ _ _ _ (T42.setTop (mkF m 10 #[rv a1, iv p2, rv a3, rv a4, rv a5, iv p6] [(.ref a1)]))
  refine own_go (XS.aloadN X42.here hx rfl (hb hby d10_10) rfl rfl (Steps.refl _)) ?_
  show own_Fin _ _ _ _ (T42.setTop (mkF m 11 #[rv a1, iv p2, rv a3, rv a4, rv a5, iv p6] [(.ref a3), (.ref a1)]))
  obtain ⟨T43, h43, X43, e43, W43, st43⟩ := putF X42 hx hZ hown (host := "") (Or.inl (hw _ (List.mem_of_getElem? (i := 68) rfl))) Via.refl e42 F_reason_a1_42 E_a1_42 (Or.inr ⟨(hw _ (List.mem_of_getElem? (i := 69) rfl)), rfl, hnm⟩) (hw _ (List.mem_of_getElem? (i := 55) rfl)) (ty := (.object "java/lang/String")) (by decide) rfl rfl (g := (mkF m 11 #[rv a1, iv p2, rv a3, rv a4, rv a5, iv p6] [(.ref a3), (.ref a1)])) rfl rfl (hb hby d10_11)
  refine own_by st43 ?_
  have F_reason_a1_43 := F_reason_a1_42.same W43
  have E_a1_43 := E_a1_42.wr W43
  have F_status_a1_43 := F_status_a1_42.other W43 (Or.inr (slot_ne (Or.inr (hw _ (List.mem_of_getElem? (i := 67) rfl))) (Or.inr (hw _ (List.mem_of_getElem? (i := 69) rfl))) (by decide) (t := .int) (t' := (.object "java/lang/String")) (by decide) (by decide)))
  have F_fields_a1_43 := F_fields_a1_42.other W43 (Or.inr (slot_ne (Or.inr (hw _ (List.mem_of_getElem? (i := 71) rfl))) (Or.inr (hw _ (List.mem_of_getElem? (i := 69) rfl))) (by decide) (t := (.object "java/util/List")) (t' := (.object "java/lang/String")) (by decide) (by decide)))
  have F_body_a1_43 := F_body_a1_42.other W43 (Or.inr (slot_ne (Or.inr (hw _ (List.mem_of_getElem? (i := 73) rfl))) (Or.inr (hw _ (List.mem_of_getElem? (i := 69) rfl))) (by decide) (t := (.array .byte)) (t' := (.object "java/lang/String")) (by decide) (by decide)))
  have F_truncated_a1_43 := F_truncated_a1_42.other W43 (Or.inr (slot_ne (Or.inr (hw _ (List.mem_of_getElem? (i := 75) rfl))) (Or.inr (hw _ (List.mem_of_getElem? (i := 69) rfl))) (by decide) (t := .boolean) (t' := (.object "java/lang/String")) (by decide) (by decide)))
  have N43 := Fr.snoc X43 N42 g_a1
  have Z43 : n0 ≤ h43.size := Nat.le_trans Z42 (Keep.of_wr W43).1
  have K43 := K42.wr W43 (Or.inl (List.mem_of_getElem? (i := 0) rfl))
  show own_Fin _ _ _ _ (T43.setTop (mkF m 14 #[rv a1, iv p2, rv a3, rv a4, rv a5, iv p6] []))
  refine own_go (XS.aloadN X43.here hx rfl (hb hby d10_14) rfl rfl (Steps.refl _)) ?_
  show own_Fin _ _ _ _ (T43.setTop (mkF m 15 #[rv a1, iv p2, rv a3, rv a4, rv a5, iv p6] [(.ref a1)]))
  refine own_go (XS.aloadN X43.here hx rfl (hb hby d10_15) rfl rfl (Steps.refl _)) ?_
  show own_Fin _ _ _ _ (T43.setTop (mkF m 16 #[rv a1, iv p2, rv a3, rv a4, rv a5, iv p6] [(.ref a4), (.ref a1)]))
  obtain ⟨T44, h44, X44, e44, W44, st44⟩ := putF X43 hx hZ hown (host := "") (Or.inl (hw _ (List.mem_of_getElem? (i := 70) rfl))) Via.refl e43 F_fields_a1_43 E_a1_43 (Or.inr ⟨(hw _ (List.mem_of_getElem? (i := 71) rfl)), rfl, hnm⟩) (hw _ (List.mem_of_getElem? (i := 55) rfl)) (ty := (.object "java/util/List")) (by decide) rfl rfl (g := (mkF m 16 #[rv a1, iv p2, rv a3, rv a4, rv a5, iv p6] [(.ref a4), (.ref a1)])) rfl rfl (hb hby d10_16)
  refine own_by st44 ?_
  have F_fields_a1_44 := F_fields_a1_43.same W44
  have E_a1_44 := E_a1_43.wr W44
  have F_status_a1_44 := F_status_a1_43.other W44 (Or.inr (slot_ne (Or.inr (hw _ (List.mem_of_getElem? (i := 67) rfl))) (Or.inr (hw _ (List.mem_of_getElem? (i := 71) rfl))) (by decide) (t := .int) (t' := (.object "java/util/List")) (by decide) (by decide)))
  have F_reason_a1_44 := F_reason_a1_43.other W44 (Or.inr (slot_ne (Or.inr (hw _ (List.mem_of_getElem? (i := 69) rfl))) (Or.inr (hw _ (List.mem_of_getElem? (i := 71) rfl))) (by decide) (t := (.object "java/lang/String")) (t' := (.object "java/util/List")) (by decide) (by decide)))
  have F_body_a1_44 := F_body_a1_43.other W44 (Or.inr (slot_ne (Or.inr (hw _ (List.mem_of_getElem? (i := 73) rfl))) (Or.inr (hw _ (List.mem_of_getElem? (i := 71) rfl))) (by decide) (t := (.array .byte)) (t' := (.object "java/util/List")) (by decide) (by decide)))
  have F_truncated_a1_44 := F_truncated_a1_43.other W44 (Or.inr (slot_ne (Or.inr (hw _ (List.mem_of_getElem? (i := 75) rfl))) (Or.inr (hw _ (List.mem_of_getElem? (i := 71) rfl))) (by decide) (t := .boolean) (t' := (.object "java/util/List")) (by decide) (by decide)))
  have N44 := Fr.snoc X44 N43 g_a1
  have Z44 : n0 ≤ h44.size := Nat.le_trans Z43 (Keep.of_wr W44).1
  have K44 := K43.wr W44 (Or.inl (List.mem_of_getElem? (i := 0) rfl))
  show own_Fin _ _ _ _ (T44.setTop (mkF m 19 #[rv a1, iv p2, rv a3, rv a4, rv a5, iv p6] []))
  refine own_go (XS.aloadN X44.here hx rfl (hb hby d10_19) rfl rfl (Steps.refl _)) ?_
  show own_Fin _ _ _ _ (T44.setTop (mkF m 20 #[rv a1, iv p2, rv a3, rv a4, rv a5, iv p6] [(.ref a1)]))
  refine own_go (XS.aload X44.here hx rfl (hb hby d10_20) rfl rfl (Steps.refl _)) ?_
  show own_Fin _ _ _ _ (T44.setTop (mkF m 22 #[rv a1, iv p2, rv a3, rv a4, rv a5, iv p6] [(.ref a5), (.ref a1)]))
  obtain ⟨T45, h45, X45, e45, W45, st45⟩ := putF X44 hx hZ hown (host := "") (Or.inl (hw _ (List.mem_of_getElem? (i := 72) rfl))) Via.refl e44 F_body_a1_44 E_a1_44 (Or.inr ⟨(hw _ (List.mem_of_getElem? (i := 73) rfl)), rfl, hnm⟩) (hw _ (List.mem_of_getElem? (i := 55) rfl)) (ty := (.array .byte)) (by decide) rfl rfl (g := (mkF m 22 #[rv a1, iv p2, rv a3, rv a4, rv a5, iv p6] [(.ref a5), (.ref a1)])) rfl rfl (hb hby d10_22)
  refine own_by st45 ?_
  have F_body_a1_45 := F_body_a1_44.same W45
  have E_a1_45 := E_a1_44.wr W45
  have F_status_a1_45 := F_status_a1_44.other W45 (Or.inr (slot_ne (Or.inr (hw _ (List.mem_of_getElem? (i := 67) rfl))) (Or.inr (hw _ (List.mem_of_getElem? (i := 73) rfl))) (by decide) (t := .int) (t' := (.array .byte)) (by decide) (by decide)))
  have F_reason_a1_45 := F_reason_a1_44.other W45 (Or.inr (slot_ne (Or.inr (hw _ (List.mem_of_getElem? (i := 69) rfl))) (Or.inr (hw _ (List.mem_of_getElem? (i := 73) rfl))) (by decide) (t := (.object "java/lang/String")) (t' := (.array .byte)) (by decide) (by decide)))
  have F_fields_a1_45 := F_fields_a1_44.other W45 (Or.inr (slot_ne (Or.inr (hw _ (List.mem_of_getElem? (i := 71) rfl))) (Or.inr (hw _ (List.mem_of_getElem? (i := 73) rfl))) (by decide) (t := (.object "java/util/List")) (t' := (.array .byte)) (by decide) (by decide)))
  have F_truncated_a1_45 := F_truncated_a1_44.other W45 (Or.inr (slot_ne (Or.inr (hw _ (List.mem_of_getElem? (i := 75) rfl))) (Or.inr (hw _ (List.mem_of_getElem? (i := 73) rfl))) (by decide) (t := .boolean) (t' := (.array .byte)) (by decide) (by decide)))
  have N45 := Fr.snoc X45 N44 g_a1
  have Z45 : n0 ≤ h45.size := Nat.le_trans Z44 (Keep.of_wr W45).1
  have K45 := K44.wr W45 (Or.inl (List.mem_of_getElem? (i := 0) rfl))
  show own_Fin _ _ _ _ (T45.setTop (mkF m 25 #[rv a1, iv p2, rv a3, rv a4, rv a5, iv p6] []))
  refine own_go (XS.aloadN X45.here hx rfl (hb hby d10_25) rfl rfl (Steps.refl _)) ?_
  show own_Fin _ _ _ _ (T45.setTop (mkF m 26 #[rv a1, iv p2, rv a3, rv a4, rv a5, iv p6] [(.ref a1)]))
  refine own_go (XS.iload X45.here hx rfl (hb hby d10_26) rfl (Steps.refl _)) ?_
  show own_Fin _ _ _ _ (T45.setTop (mkF m 28 #[rv a1, iv p2, rv a3, rv a4, rv a5, iv p6] [(.int p6), (.ref a1)]))
  obtain ⟨T46, h46, X46, e46, W46, st46⟩ := putFN X45 hx hZ hown (hw _ (List.mem_of_getElem? (i := 74) rfl)) Via.refl e45 F_truncated_a1_45 E_a1_45 (Or.inr ⟨(hw _ (List.mem_of_getElem? (i := 75) rfl)), rfl, hnm⟩) (hw _ (List.mem_of_getElem? (i := 55) rfl)) (ty := .boolean) (v' := (.int (nar .boolean p6))) (by decide) rfl (fits_nar_bool _) (g := (mkF m 28 #[rv a1, iv p2, rv a3, rv a4, rv a5, iv p6] [(.int p6), (.ref a1)])) rfl rfl (hb hby d10_28)
  refine own_by st46 ?_
  have F_truncated_a1_46 := F_truncated_a1_45.same W46
  have E_a1_46 := E_a1_45.wr W46
  have F_status_a1_46 := F_status_a1_45.other W46 (Or.inr (slot_ne (Or.inr (hw _ (List.mem_of_getElem? (i := 67) rfl))) (Or.inr (hw _ (List.mem_of_getElem? (i := 75) rfl))) (by decide) (t := .int) (t' := .boolean) (by decide) (by decide)))
  have F_reason_a1_46 := F_reason_a1_45.other W46 (Or.inr (slot_ne (Or.inr (hw _ (List.mem_of_getElem? (i := 69) rfl))) (Or.inr (hw _ (List.mem_of_getElem? (i := 75) rfl))) (by decide) (t := (.object "java/lang/String")) (t' := .boolean) (by decide) (by decide)))
  have F_fields_a1_46 := F_fields_a1_45.other W46 (Or.inr (slot_ne (Or.inr (hw _ (List.mem_of_getElem? (i := 71) rfl))) (Or.inr (hw _ (List.mem_of_getElem? (i := 75) rfl))) (by decide) (t := (.object "java/util/List")) (t' := .boolean) (by decide) (by decide)))
  have F_body_a1_46 := F_body_a1_45.other W46 (Or.inr (slot_ne (Or.inr (hw _ (List.mem_of_getElem? (i := 73) rfl))) (Or.inr (hw _ (List.mem_of_getElem? (i := 75) rfl))) (by decide) (t := (.array .byte)) (t' := .boolean) (by decide) (by decide)))
  have N46 := Fr.snoc X46 N45 g_a1
  have Z46 : n0 ≤ h46.size := Nat.le_trans Z45 (Keep.of_wr W46).1
  have K46 := K45.wr W46 (Or.inl (List.mem_of_getElem? (i := 0) rfl))
  show own_Fin _ _ _ _ (T46.setTop (mkF m 31 #[rv a1, iv p2, rv a3, rv a4, rv a5, iv p6] []))
  obtain ⟨fs47, hr47, hrun47, hended47, hW47, hsame47⟩ := X46.leave (v := none) (fun _ => rfl)
  refine own_done (X46.returnOut hx Bd.returns (hb hby d10_31) hr47) hrun47 hended47 ⟨_, _, rfl, ?_, ⟨_, rfl⟩, hW47, hsame47.mono (by decide) (by decide)⟩
  show Qr5 Z a1 p2 a3 a4 a5 p6 h0 n0 _ T46.heap _
  rw [e46]
  exact ⟨rfl, N46, K46, E_a1_46, F_status_a1_46⟩
theorem d15_0 : decode prog_9_method_1_code 0 = .ok (.aload_n 0, 1) := by decide +kernel
theorem d15_1 : decode prog_9_method_1_code 1 = .ok (.iload_n 1, 1) := by decide +kernel
theorem d15_2 : decode prog_9_method_1_code 2 = .ok (.aload_n 2, 1) := by decide +kernel
theorem d15_3 : decode prog_9_method_1_code 3 = .ok (.aload_n 3, 1) := by decide +kernel
theorem d15_4 : decode prog_9_method_1_code 4 = .ok (.aload 4, 2) := by decide +kernel
theorem d15_6 : decode prog_9_method_1_code 6 = .ok (.iconst 0, 1) := by decide +kernel
theorem d15_7 : decode prog_9_method_1_code 7 = .ok (.invokespecial 29, 3) := by decide +kernel
theorem d15_10 : decode prog_9_method_1_code 10 = .ok (.return_, 1) := by decide +kernel
theorem ef_r4 (m : MethodId) (x0 : Addr) (x1 : Int32) (x2 : Addr) (x3 : Addr) (x4 : Addr) : entryFrame m #[(.ref x0), (.int x1), (.ref x2), (.ref x3), (.ref x4)] 5 = mkF m 0 #[.val (.ref x0), .val (.int x1), .val (.ref x2), .val (.ref x3), .val (.ref x4)] [] := by first | (simp [entryFrame, mkF, argsToLocals, Value.category]; done) | rfl
def Qr4 (Z : State) (a1 : Addr) (p2 : Int32) (a3 : Addr) (a4 : Addr) (a5 : Addr) (h0 : Heap) (n0 : Nat) (v : Option Value) (h : Heap) (L : List Loc) : Prop := v = none ∧ Fr n0 L ∧ Keep h0 h [a1] ∧ Exa Z h a1 "com/example/pryority/pryority/Response" ∧ Fld Z h a1 "com/example/pryority/pryority/Response" "status" "I" (.int p2)
abbrev Gr4 (Z : State) (a1 : Addr) (p2 : Int32) (a3 : Addr) (a4 : Addr) (a5 : Addr) (h0 : Heap) (n0 : Nat) (s : State) : Outcome → State → Prop := fun o U' => ∃ v L, o = .returned v ∧ Qr4 Z a1 p2 a3 a4 a5 h0 n0 v U'.heap L ∧ FrameEnd s o U' L ({ frames := 3, cells := 0, slots := 0, locals := 48 } : Room).cells ({ frames := 3, cells := 0, slots := 0, locals := 48 } : Room).slots
theorem pd__28_ILjava_2f_lang_2f_String_3b_Ljava_2f_util_2f_List_3b__5b_BZ_29_V : parseMethodDescriptor "(ILjava/lang/String;Ljava/util/List;[BZ)V" = some ⟨[.int, (.object "java/lang/String"), (.object "java/util/List"), (.array .byte), .boolean], none⟩ := by decide +kernel
set_option maxRecDepth 65536 in
set_option maxHeartbeats 40000000 in
theorem rmr4 (l : Launch) (Z : State) (a0 : Array Value) (hw : ∀ d ∈ tables_1, d.before a0 Z = true) (ws : List Jvm.Cond) (a1 : Addr) (p2 : Int32) (a3 : Addr) (a4 : Addr) (a5 : Addr) (h0 : Heap) (n0 : Nat) (Z0 : n0 ≤ h0.size) (E_a1 : Exa Z h0 a1 "com/example/pryority/pryority/Response") (F_status_a1 : Fld Z h0 a1 "com/example/pryority/pryority/Response" "status" "I" (.int (0 : Int32))) (F_reason_a1 : Fld Z h0 a1 "com/example/pryority/pryority/Response" "reason" "Ljava/lang/String;" .null) (F_fields_a1 : Fld Z h0 a1 "com/example/pryority/pryority/Response" "fields" "Ljava/util/List;" .null) (F_body_a1 : Fld Z h0 a1 "com/example/pryority/pryority/Response" "body" "[B" .null) (F_truncated_a1 : Fld Z h0 a1 "com/example/pryority/pryority/Response" "truncated" "Z" (.int (0 : Int32))) (g_a1 : n0 ≤ a1) :
    MetFree l (⟨"com/example/pryority/pryority/Response", "<init>", "(ILjava/lang/String;Ljava/util/List;[B)V"⟩ : MethodName) (head1 (Jvm.Cond.code (⟨"com/example/pryority/pryority/Response", "<init>", "(ILjava/lang/String;Ljava/util/List;[B)V"⟩ : MethodName) prog_9_method_1_code 5 none :: ws) ({ frames := 3, cells := 0, slots := 0, locals := 48 } : Room)) (fun a U => a = #[(.ref a1), (.int p2), (.ref a3), (.ref a4), (.ref a5)] ∧ Z.Warmed39 U.vm ∧ U.heap = h0) (fun _ _ _ _ _ => True) (fun _ U o U' => ∃ v L, o = .returned v ∧ Qr4 Z a1 p2 a3 a4 a5 h0 n0 v U'.heap L ∧ FrameEnd U o U' L ({ frames := 3, cells := 0, slots := 0, locals := 48 } : Room).cells ({ frames := 3, cells := 0, slots := 0, locals := 48 } : Room).slots) := by
  refine MetFree.of_bodySF (plainFor_of_name pn_com_example_pryority_pryority_Response) hisR ?_
  intro p e s m args below meth c s₁ Bd hml0 hP hK
  obtain ⟨rfl, hZ, hh⟩ := hP
  have hx := Bd.exec
  have hby := Bd.bytes
  have hml : c.maxLocals = 5 := hml0
  have hown : s.vm.findClass "com/example/pryority/pryority/Response" = some m.cls := findClass_of_methodNamed Bd.named
  have hnm := (name_of_methodNamed Bd.named Bd.method).1
  have X0 : Stand p l e ({ frames := 3, cells := 0, slots := 0, locals := 48 } : Room) s m #[(.ref a1), (.int p2), (.ref a3), (.ref a4), (.ref a5)] below meth c s₁ [] 0 0 := Stand.of_body Bd
  have e0 : s₁.heap = h0 := by rw [← hh, Bd.state]; rfl
  have es0 : s.heap = h0 := hh
  have N0 := Fr.nil n0
  show own_Fin p e below (Gr4 Z a1 p2 a3 a4 a5 h0 n0 s) (s₁.setTop (entryFrame m #[(.ref a1), (.int p2), (.ref a3), (.ref a4), (.ref a5)] 5))
  rw [ef_r4 m a1 p2 a3 a4 a5]
  have Kz := Keep.refl h0 [a1]
  refine own_go (XS.aloadN X0.here hx rfl (hb hby d15_0) rfl rfl (Steps.refl _)) ?_
  show own_Fin _ _ _ _ (s₁.setTop (mkF m 1 #[rv a1, iv p2, rv a3, rv a4, rv a5] [(.ref a1)]))
  refine own_go (XS.iloadN X0.here hx rfl (hb hby d15_1) rfl (Steps.refl _)) ?_
  show own_Fin _ _ _ _ (s₁.setTop (mkF m 2 #[rv a1, iv p2, rv a3, rv a4, rv a5] [(.int p2), (.ref a1)]))
  refine own_go (XS.aloadN X0.here hx rfl (hb hby d15_2) rfl rfl (Steps.refl _)) ?_
  show own_Fin _ _ _ _ (s₁.setTop (mkF m 3 #[rv a1, iv p2, rv a3, rv a4, rv a5] [(.ref a3), (.int p2), (.ref a1)]))
  refine own_go (XS.aloadN X0.here hx rfl (hb hby d15_3) rfl rfl (Steps.refl _)) ?_
  show own_Fin _ _ _ _ (s₁.setTop (mkF m 4 #[rv a1, iv p2, rv a3, rv a4, rv a5] [(.ref a4), (.ref a3), (.int p2), (.ref a1)]))
  refine own_go (XS.aload X0.here hx rfl (hb hby d15_4) rfl rfl (Steps.refl _)) ?_
  show own_Fin _ _ _ _ (s₁.setTop (mkF m 6 #[rv a1, iv p2, rv a3, rv a4, rv a5] [(.ref a5), (.ref a4), (.ref a3), (.int p2), (.ref a1)]))
  refine own_go (XS.iconst X0.here hx rfl (hb hby d15_6) (Steps.refl _)) ?_
  show own_Fin _ _ _ _ (s₁.setTop (mkF m 7 #[rv a1, iv p2, rv a3, rv a4, rv a5] [(.int (0 : Int32)), (.ref a5), (.ref a4), (.ref a3), (.int p2), (.ref a1)]))
  obtain ⟨_, _, ⟨T48, L48, k48, n48⟩, -, X48, ⟨Lc48, hQ48, l48, y48, z48⟩, st48⟩ := X0.specialBack hx (y := (⟨"com/example/pryority/pryority/Response", "<init>", "(ILjava/lang/String;Ljava/util/List;[BZ)V"⟩ : MethodName)) rfl hown (mvT hZ (hw _ (List.mem_of_getElem? (i := 97) rfl))) (mvT hZ (hw _ (List.mem_of_getElem? (i := 58) rfl))) (mvT hZ (hw _ (List.mem_of_getElem? (i := 59) rfl))) (by decide) (backOf (W := 0) (rmr5 l Z a0 hw [] a1 p2 a3 a4 a5 (0 : Int32) h0 n0 Z0 E_a1 F_status_a1 F_reason_a1 F_fields_a1 F_body_a1 F_truncated_a1 g_a1) hZ (hw _ (List.mem_of_getElem? (i := 59) rfl)) (hw _ (List.mem_of_getElem? (i := 56) rfl)) (by decide) (by decide)) (g := (mkF m 7 #[rv a1, iv p2, rv a3, rv a4, rv a5] [(.int (0 : Int32)), (.ref a5), (.ref a4), (.ref a3), (.int p2), (.ref a1)])) rfl (by rw [hml]; rfl) (Steps.refl _) (a := a1) (argsL := [(.int p2), (.ref a3), (.ref a4), (.ref a5), (.int (0 : Int32))]) (rest := []) (lenOf pd__28_ILjava_2f_lang_2f_String_3b_Ljava_2f_util_2f_List_3b__5b_BZ_29_V rfl) rfl (by show 2 * 0 + _ ≤ _; exact Nat.le_of_eq rfl) (hb hby d15_7) (fun _ hv => ⟨rfl, e0, (by decide : 0 + 0 ≤ _), (by decide : 0 + 0 ≤ _)⟩)
  dsimp only [Pt.U, Pt.locs, Pt.cells, Pt.slots] at X48 l48 y48 z48 st48 hQ48
  subst l48 y48 z48
  refine own_go st48 ?_
  obtain ⟨rfl, Nq48, K48, r48_0, r48_1⟩ := hQ48
  have E_a1_48 := E_a1.keep K48
  have Z48 : n0 ≤ T48.heap.size := Nat.le_trans Z0 K48.1
  have Kt48 := Kz.trans K48 (allS (P := fun x => x ∈ _ ∨ _ ≤ x) (Or.inl (List.mem_of_getElem? (i := 0) rfl)) all0)
  have N48 := Fr.app N0 Nq48
  show own_Fin _ _ _ _ (T48.setTop (mkF m 10 #[rv a1, iv p2, rv a3, rv a4, rv a5] []))
  obtain ⟨fs49, hr49, hrun49, hended49, hW49, hsame49⟩ := X48.leave (v := none) (fun _ => rfl)
  refine own_done (X48.returnOut hx Bd.returns (hb hby d15_10) hr49) hrun49 hended49 ⟨_, _, rfl, ?_, ⟨_, rfl⟩, hW49, hsame49.mono (by decide) (by decide)⟩
  show Qr4 Z a1 p2 a3 a4 a5 h0 n0 _ T48.heap _
  exact ⟨rfl, N48, Kt48, r48_0, r48_1⟩
theorem d14_0 : decode jdk_40_method_36_code 0 = .ok (.getstatic 90, 3) := by decide +kernel
theorem d14_3 : decode jdk_40_method_36_code 3 = .ok (.areturn, 1) := by decide +kernel
theorem pn_java_util_List : plainName "java/util/List" = true := by first | (simp [plainName, overriddenIn]; done) | decide +kernel
theorem ef_lo (m : MethodId)  : entryFrame m #[] 0 = mkF m 0 #[] [] := by first | (simp [entryFrame, mkF, argsToLocals, Value.category]; done) | rfl
def Qlo (Z : State) (el : Addr) (h0 : Heap) (n0 : Nat) (v : Option Value) (h : Heap) (L : List Loc) : Prop := v = some (.ref el) ∧ Fr n0 L ∧ h = h0
abbrev Glo (Z : State) (el : Addr) (h0 : Heap) (n0 : Nat) (s : State) : Outcome → State → Prop := fun o U' => ∃ v L, o = .returned v ∧ Qlo Z el h0 n0 v U'.heap L ∧ FrameEnd s o U' L ({ frames := 0, cells := 0, slots := 0, locals := 0 } : Room).cells ({ frames := 0, cells := 0, slots := 0, locals := 0 } : Room).slots
set_option maxRecDepth 65536 in
set_option maxHeartbeats 40000000 in
theorem rmlo (l : Launch) (Z : State) (a0 : Array Value) (hw : ∀ d ∈ tables_1, d.before a0 Z = true) (ws : List Jvm.Cond) (el : Addr) (h0 : Heap) (n0 : Nat) (Z0 : n0 ≤ h0.size) (O0 : Old Z n0 h0) (S_EMPTY_LIST : Sta Z Z.heap "java/util/ImmutableCollections" "EMPTY_LIST" "Ljava/util/ImmutableCollections$ListN;" (.ref el)) :
    MetFree l (⟨"java/util/List", "of", "()Ljava/util/List;"⟩ : MethodName) (head1 (Jvm.Cond.code (⟨"java/util/List", "of", "()Ljava/util/List;"⟩ : MethodName) jdk_40_method_36_code 0 (some (.object "java/util/List")) :: ws) ({ frames := 0, cells := 0, slots := 0, locals := 0 } : Room)) (fun a U => a = #[] ∧ Z.Warmed39 U.vm ∧ U.heap = h0) (fun _ _ _ _ _ => True) (fun _ U o U' => ∃ v L, o = .returned v ∧ Qlo Z el h0 n0 v U'.heap L ∧ FrameEnd U o U' L ({ frames := 0, cells := 0, slots := 0, locals := 0 } : Room).cells ({ frames := 0, cells := 0, slots := 0, locals := 0 } : Room).slots) := by
  refine MetFree.of_bodySF (plainFor_of_name pn_java_util_List) hisR ?_
  intro p e s m args below meth c s₁ Bd hml0 hP hK
  obtain ⟨rfl, hZ, hh⟩ := hP
  have hx := Bd.exec
  have hby := Bd.bytes
  have hml : c.maxLocals = 0 := hml0
  have hown : s.vm.findClass "java/util/List" = some m.cls := findClass_of_methodNamed Bd.named
  have hnm := (name_of_methodNamed Bd.named Bd.method).1
  have X0 : Stand p l e ({ frames := 0, cells := 0, slots := 0, locals := 0 } : Room) s m #[] below meth c s₁ [] 0 0 := Stand.of_body Bd
  have e0 : s₁.heap = h0 := by rw [← hh, Bd.state]; rfl
  have es0 : s.heap = h0 := hh
  have N0 := Fr.nil n0
  show own_Fin p e below (Glo Z el h0 n0 s) (s₁.setTop (entryFrame m #[] 0))
  rw [ef_lo m]
  obtain ⟨T50, X50, e50, st50⟩ := getS2 X0 hx hZ hown (host := "") (Or.inl (hw _ (List.mem_of_getElem? (i := 92) rfl))) Via.refl e0 (S_EMPTY_LIST.ext O0.2) (g := (mkF m 0 #[] [])) rfl (hb hby d14_0)
  refine own_by st50 ?_
  show own_Fin _ _ _ _ (T50.setTop (mkF m 3 #[] [(.ref el)]))
  obtain ⟨fs51, hr51, hrun51, hended51, hW51, hsame51⟩ := X50.leave (v := some (.ref el)) (fun h => by rw [Bd.returns] at h; cases h)
  refine own_done (retOut X50 hx Bd.returns rfl (Or.inr (Or.inr (Or.inr (Or.inr ⟨rfl, rfl, rfl⟩)))) (hb hby d14_3) hr51) hrun51 hended51 ⟨_, _, rfl, ?_, ⟨_, rfl⟩, hW51, hsame51.mono (by decide) (by decide)⟩
  show Qlo Z el h0 n0 _ T50.heap _
  rw [e50]
  exact ⟨rfl, N0, rfl⟩
theorem d13_0 : decode prog_9_method_6_code 0 = .ok (.new 8, 3) := by decide +kernel
theorem d13_3 : decode prog_9_method_6_code 3 = .ok (.dup, 1) := by decide +kernel
theorem d13_4 : decode prog_9_method_6_code 4 = .ok (.iconst 0, 1) := by decide +kernel
theorem d13_5 : decode prog_9_method_6_code 5 = .ok (.ldc 80, 2) := by decide +kernel
theorem d13_7 : decode prog_9_method_6_code 7 = .ok (.invokestatic 82, 3) := by decide +kernel
theorem d13_10 : decode prog_9_method_6_code 10 = .ok (.iconst 0, 1) := by decide +kernel
theorem d13_11 : decode prog_9_method_6_code 11 = .ok (.newarray .byte, 2) := by decide +kernel
theorem d13_13 : decode prog_9_method_6_code 13 = .ok (.invokespecial 75, 3) := by decide +kernel
theorem d13_16 : decode prog_9_method_6_code 16 = .ok (.areturn, 1) := by decide +kernel
theorem ef_na (m : MethodId)  : entryFrame m #[] 0 = mkF m 0 #[] [] := by first | (simp [entryFrame, mkF, argsToLocals, Value.category]; done) | rfl
def Qna (Z : State) (el : Addr) (h0 : Heap) (n0 : Nat) (v : Option Value) (h : Heap) (L : List Loc) : Prop := ∃ (r : Addr), v = some (.ref r) ∧ Fr n0 L ∧ Keep h0 h [] ∧ n0 ≤ r ∧ h0.size ≤ r ∧ Exa Z h r "com/example/pryority/pryority/Response" ∧ Fld Z h r "com/example/pryority/pryority/Response" "status" "I" (.int (0 : Int32))
abbrev Gna (Z : State) (el : Addr) (h0 : Heap) (n0 : Nat) (s : State) : Outcome → State → Prop := fun o U' => ∃ v L, o = .returned v ∧ Qna Z el h0 n0 v U'.heap L ∧ ReturnedEndW s o U' L ({ frames := 4, cells := 4, slots := 9, locals := 72 } : Room).cells ({ frames := 4, cells := 4, slots := 9, locals := 72 } : Room).slots
theorem pd__28__29_Ljava_2f_util_2f_List_3b_ : parseMethodDescriptor "()Ljava/util/List;" = some ⟨[], some (.object "java/util/List")⟩ := by decide +kernel
theorem pd__28_ILjava_2f_lang_2f_String_3b_Ljava_2f_util_2f_List_3b__5b_B_29_V : parseMethodDescriptor "(ILjava/lang/String;Ljava/util/List;[B)V" = some ⟨[.int, (.object "java/lang/String"), (.object "java/util/List"), (.array .byte)], none⟩ := by decide +kernel
set_option maxRecDepth 65536 in
set_option maxHeartbeats 40000000 in
theorem rmna (l : Launch) (Z : State) (a0 : Array Value) (hw : ∀ d ∈ tables_1, d.before a0 Z = true) (ws : List Jvm.Cond) (el : Addr) (h0 : Heap) (n0 : Nat) (Z0 : n0 ≤ h0.size) (O0 : Old Z n0 h0) (S_EMPTY_LIST : Sta Z Z.heap "java/util/ImmutableCollections" "EMPTY_LIST" "Ljava/util/ImmutableCollections$ListN;" (.ref el)) :
    MetFree l (⟨"com/example/pryority/pryority/Response", "noAnswer", "()Lcom/example/pryority/pryority/Response;"⟩ : MethodName) (head1 (Jvm.Cond.code (⟨"com/example/pryority/pryority/Response", "noAnswer", "()Lcom/example/pryority/pryority/Response;"⟩ : MethodName) prog_9_method_6_code 0 (some (.object "com/example/pryority/pryority/Response")) :: ws) ({ frames := 4, cells := 4, slots := 9, locals := 72 } : Room)) (fun a U => a = #[] ∧ Z.Warmed39 U.vm ∧ U.heap = h0) (fun _ _ _ _ _ => True) (fun _ U o U' => ∃ v L, o = .returned v ∧ Qna Z el h0 n0 v U'.heap L ∧ ReturnedEndW U o U' L ({ frames := 4, cells := 4, slots := 9, locals := 72 } : Room).cells ({ frames := 4, cells := 4, slots := 9, locals := 72 } : Room).slots) := by
  refine MetFree.of_bodySF (plainFor_of_name pn_com_example_pryority_pryority_Response) hisR ?_
  intro p e s m args below meth c s₁ Bd hml0 hP hK
  obtain ⟨rfl, hZ, hh⟩ := hP
  have hx := Bd.exec
  have hby := Bd.bytes
  have hml : c.maxLocals = 0 := hml0
  have hown : s.vm.findClass "com/example/pryority/pryority/Response" = some m.cls := findClass_of_methodNamed Bd.named
  have hnm := (name_of_methodNamed Bd.named Bd.method).1
  have X0 : Stand p l e ({ frames := 4, cells := 4, slots := 9, locals := 72 } : Room) s m #[] below meth c s₁ [] 0 0 := Stand.of_body Bd
  have e0 : s₁.heap = h0 := by rw [← hh, Bd.state]; rfl
  have es0 : s.heap = h0 := hh
  have N0 := Fr.nil n0
  show own_Fin p e below (Gna Z el h0 n0 s) (s₁.setTop (entryFrame m #[] 0))
  rw [ef_na m]
  have X0w : Stand p l e ({ frames := 4, cells := 4, slots := 9, locals := 72 } : Room) (s.setVm s.vm) m #[] below meth c s₁ [] 0 0 := X0
  have hS0 : s.Since s.vm 0 := (State.WarmedH.refl s).since 0
  have hk0 : 0 ≤ h0.size := Nat.zero_le _
  have Kz := Keep.refl h0 []
  have wS : ∀ a ∈ Bundle.stringAtoms, a.before a0 Z = true := by
    intro d hd
    simp only [Bundle.stringAtoms, List.mem_cons, List.not_mem_nil, or_false] at hd
    rcases hd with rfl | rfl | rfl | rfl | rfl | rfl | rfl
    · exact (hw _ (List.mem_of_getElem? (i := 4) rfl))
    · exact (hw _ (List.mem_of_getElem? (i := 3) rfl))
    · exact (hw _ (List.mem_of_getElem? (i := 0) rfl))
    · exact (hw _ (List.mem_of_getElem? (i := 29) rfl))
    · exact (hw _ (List.mem_of_getElem? (i := 27) rfl))
    · exact (hw _ (List.mem_of_getElem? (i := 86) rfl))
    · exact (hw _ (List.mem_of_getElem? (i := 87) rfl))
  obtain ⟨T52, h52, X52, e52, E52, A52, D52, U52, st52⟩ := newO X0w hx hZ hown (hw _ (List.mem_of_getElem? (i := 84) rfl)) (hw _ (List.mem_of_getElem? (i := 55) rfl)) (hw _ (List.mem_of_getElem? (i := 56) rfl)) e0 (g := (mkF m 0 #[] [])) rfl (hb hby d13_0) (by decide) (by decide)
  obtain ⟨b52, g52⟩ : ∃ z, z = h0.size := ⟨_, rfl⟩
  rw [← g52] at A52 D52 U52 st52
  refine own_by st52 ?_
  have Od52 := O0.ext E52
  have g_b52 : n0 ≤ b52 := Nat.le_trans Z0 (Nat.le_of_eq g52.symm)
  have sz_b52 : h0.size ≤ b52 := Nat.le_trans Kz.1 (Nat.le_of_eq g52.symm)
  have K52 := Kz.ext E52
  have Z52 : n0 ≤ h52.size := Nat.le_trans Z0 E52.1
  have hk52 : 0 ≤ h52.size := Nat.le_trans hk0 E52.1
  have E_b52 := A52
  have F_status_b52 : Fld Z h52 b52 "com/example/pryority/pryority/Response" "status" "I" (.int (0 : Int32)) := D52 (Or.inr (hw _ (List.mem_of_getElem? (i := 67) rfl))) (ty := .int) (by decide)
  have F_reason_b52 : Fld Z h52 b52 "com/example/pryority/pryority/Response" "reason" "Ljava/lang/String;" .null := D52 (Or.inr (hw _ (List.mem_of_getElem? (i := 69) rfl))) (ty := (.object "java/lang/String")) (by decide)
  have F_fields_b52 : Fld Z h52 b52 "com/example/pryority/pryority/Response" "fields" "Ljava/util/List;" .null := D52 (Or.inr (hw _ (List.mem_of_getElem? (i := 71) rfl))) (ty := (.object "java/util/List")) (by decide)
  have F_body_b52 : Fld Z h52 b52 "com/example/pryority/pryority/Response" "body" "[B" .null := D52 (Or.inr (hw _ (List.mem_of_getElem? (i := 73) rfl))) (ty := (.array .byte)) (by decide)
  have F_truncated_b52 : Fld Z h52 b52 "com/example/pryority/pryority/Response" "truncated" "Z" (.int (0 : Int32)) := D52 (Or.inr (hw _ (List.mem_of_getElem? (i := 75) rfl))) (ty := .boolean) (by decide)
  show own_Fin _ _ _ _ (T52.setTop (mkF m 3 #[] [(.ref b52)]))
  refine own_go (XS.dup X52.here hx rfl (hb hby d13_3) rfl rfl (Steps.refl _)) ?_
  show own_Fin _ _ _ _ (T52.setTop (mkF m 4 #[] [(.ref b52), (.ref b52)]))
  refine own_go (XS.iconst X52.here hx rfl (hb hby d13_4) (Steps.refl _)) ?_
  show own_Fin _ _ _ _ (T52.setTop (mkF m 5 #[] [(.int (0 : Int32)), (.ref b52), (.ref b52)]))
  obtain ⟨a53, T53, h53, k53, X53, e53, E53, hS53, hk53, hZ53, hown53, st53⟩ := ldcS (s := s) (vm0 := s.vm) X52 hx hZ hown (hw _ (List.mem_of_getElem? (i := 85) rfl)) wS e52 hS0 hk52 (g := (mkF m 5 #[] [(.int (0 : Int32)), (.ref b52), (.ref b52)])) rfl (hb hby d13_5) (n := 0) (by decide) (by decide) (by decide) (by decide)
  refine own_by st53 ?_
  have Od53 := Od52.ext E53
  have E_b52_53 := E_b52.ext E53
  have F_status_b52_53 := F_status_b52.ext E53
  have F_reason_b52_53 := F_reason_b52.ext E53
  have F_fields_b52_53 := F_fields_b52.ext E53
  have F_body_b52_53 := F_body_b52.ext E53
  have F_truncated_b52_53 := F_truncated_b52.ext E53
  have Z53 : n0 ≤ h53.size := Nat.le_trans Z52 E53.1
  have K53 := K52.ext E53
  show own_Fin _ _ _ _ (T53.setTop (mkF m 7 #[] [(.ref a53), (.int (0 : Int32)), (.ref b52), (.ref b52)]))
  obtain ⟨_, _, ⟨T54, L54, k54, n54⟩, -, X54, ⟨Lc54, hQ54, l54, y54, z54⟩, st54⟩ := Jvm.LawKit.callS X53 hx (y := (⟨"java/util/List", "of", "()Ljava/util/List;"⟩ : MethodName)) hown53 (mvT hZ53 (hw _ (List.mem_of_getElem? (i := 88) rfl))) (mvT hZ53 (hw _ (List.mem_of_getElem? (i := 89) rfl))) (mvT hZ53 (hw _ (List.mem_of_getElem? (i := 90) rfl))) (mvT hZ53 (hw _ (List.mem_of_getElem? (i := 91) rfl))) (by decide) (backOf (W := 4) (rmlo l Z a0 hw [] el h53 n0 Z53 Od53 S_EMPTY_LIST) hZ53 (hw _ (List.mem_of_getElem? (i := 91) rfl)) (hw _ (List.mem_of_getElem? (i := 90) rfl)) (by decide) (by decide)) (g := (mkF m 7 #[] [(.ref a53), (.int (0 : Int32)), (.ref b52), (.ref b52)])) rfl (by rw [hml]; rfl) (argsL := []) (rest := [(.ref a53), (.int (0 : Int32)), (.ref b52), (.ref b52)]) (lenOf pd__28__29_Ljava_2f_util_2f_List_3b_ rfl) rfl (by show 2 * 0 + _ ≤ _; exact Nat.le_of_eq rfl) (hb hby d13_7) (fun _ hv => ⟨rfl, e53, (by decide : 3 + 0 ≤ _), (by decide : 9 + 0 ≤ _)⟩)
  dsimp only [Pt.U, Pt.locs, Pt.cells, Pt.slots] at X54 l54 y54 z54 st54 hQ54
  subst l54 y54 z54
  obtain ⟨rfl, Nq54, e54⟩ := hQ54
  refine own_by st54 ?_
  have N54 := Fr.app N0 Nq54
  show own_Fin _ _ _ _ (T54.setTop (mkF m 10 #[] [(.ref el), (.ref a53), (.int (0 : Int32)), (.ref b52), (.ref b52)]))
  refine own_go (XS.iconst X54.here hx rfl (hb hby d13_10) (Steps.refl _)) ?_
  show own_Fin _ _ _ _ (T54.setTop (mkF m 11 #[] [(.int (0 : Int32)), (.ref el), (.ref a53), (.int (0 : Int32)), (.ref b52), (.ref b52)]))
  obtain ⟨T55, h55, k55, X55, e55, E55, A55, st55⟩ := newP X54 hx hZ53 (hw _ (List.mem_of_getElem? (i := 0) rfl)) e54 (g := (mkF m 11 #[] [(.int (0 : Int32)), (.ref el), (.ref a53), (.int (0 : Int32)), (.ref b52), (.ref b52)])) rfl (hb hby d13_11) rfl (by decide) (cap := 0) (by decide) (by decide) (by decide) (by decide)
  obtain ⟨b55, g55⟩ : ∃ z, z = h53.size := ⟨_, rfl⟩
  rw [← g55] at A55 st55
  refine own_by st55 ?_
  have ne_b52_b55 : b52 ≠ b55 := Nat.ne_of_lt (Nat.lt_of_lt_of_eq E_b52_53.lt g55.symm)
  have Od55 := Od53.ext E55
  have E_b52_55 := E_b52_53.ext E55
  have F_status_b52_55 := F_status_b52_53.ext E55
  have F_reason_b52_55 := F_reason_b52_53.ext E55
  have F_fields_b52_55 := F_fields_b52_53.ext E55
  have F_body_b52_55 := F_body_b52_53.ext E55
  have F_truncated_b52_55 := F_truncated_b52_53.ext E55
  have g_b55 : n0 ≤ b55 := Nat.le_trans Z53 (Nat.le_of_eq g55.symm)
  have sz_b55 : h0.size ≤ b55 := Nat.le_trans K53.1 (Nat.le_of_eq g55.symm)
  have K55 := K53.ext E55
  have Z55 : n0 ≤ h55.size := Nat.le_trans Z53 E55.1
  have hk55 : k53 ≤ h55.size := Nat.le_trans hk53 E55.1
  have V_b55 : Arv Z h55 b55 k55 .byte (0 : Int32) [] (.int (0 : Int32)) := (Arv.new A55 (by decide)).pad (pad_rep [] (.int (0 : Int32)) 0)
  show own_Fin _ _ _ _ (T55.setTop (mkF m 13 #[] [(.ref b55), (.ref el), (.ref a53), (.int (0 : Int32)), (.ref b52), (.ref b52)]))
  obtain ⟨_, _, ⟨T56, L56, k56, n56⟩, -, X56, ⟨Lc56, hQ56, l56, y56, z56⟩, st56⟩ := X55.specialBack hx (y := (⟨"com/example/pryority/pryority/Response", "<init>", "(ILjava/lang/String;Ljava/util/List;[B)V"⟩ : MethodName)) rfl hown53 (mvT hZ53 (hw _ (List.mem_of_getElem? (i := 94) rfl))) (mvT hZ53 (hw _ (List.mem_of_getElem? (i := 95) rfl))) (mvT hZ53 (hw _ (List.mem_of_getElem? (i := 96) rfl))) (by decide) (backOf (W := 1) (rmr4 l Z a0 hw [] b52 (0 : Int32) a53 el b55 h55 n0 Z55 E_b52_55 F_status_b52_55 F_reason_b52_55 F_fields_b52_55 F_body_b52_55 F_truncated_b52_55 g_b52) hZ53 (hw _ (List.mem_of_getElem? (i := 96) rfl)) (hw _ (List.mem_of_getElem? (i := 56) rfl)) (by decide) (by decide)) (g := (mkF m 13 #[] [(.ref b55), (.ref el), (.ref a53), (.int (0 : Int32)), (.ref b52), (.ref b52)])) rfl (by rw [hml]; rfl) (Steps.refl _) (a := b52) (argsL := [(.int (0 : Int32)), (.ref a53), (.ref el), (.ref b55)]) (rest := [(.ref b52)]) (lenOf pd__28_ILjava_2f_lang_2f_String_3b_Ljava_2f_util_2f_List_3b__5b_B_29_V rfl) rfl (by show 2 * 0 + _ ≤ _; exact Nat.le_of_eq rfl) (hb hby d13_13) (fun _ hv => ⟨rfl, e55, (by decide : 4 + 0 ≤ _), (by decide : 9 + 0 ≤ _)⟩)
  dsimp only [Pt.U, Pt.locs, Pt.cells, Pt.slots] at X56 l56 y56 z56 st56 hQ56
  subst l56 y56 z56
  refine own_go st56 ?_
  obtain ⟨rfl, Nq56, K56, r56_0, r56_1⟩ := hQ56
  have Od56 := Od55.keep K56 (allS g_b52 all0)
  have E_b52_56 := E_b52_55.keep K56
  have V_b55_56 := V_b55.keep K56 (ninS (Ne.symm ne_b52_b55) nin0)
  have Z56 : n0 ≤ T56.heap.size := Nat.le_trans Z55 K56.1
  have hk56 : k53 ≤ T56.heap.size := Nat.le_trans hk55 K56.1
  have Kt56 := K55.trans K56 (allS (P := fun x => x ∈ _ ∨ _ ≤ x) (Or.inr sz_b52) all0)
  have N56 := Fr.app N54 Nq56
  show own_Fin _ _ _ _ (T56.setTop (mkF m 16 #[] [(.ref b52)]))
  obtain ⟨fs57, hr57, hrun57, hended57, hRW57⟩ := X56.leaveW (s := s) hS53 (n := k53) hk56 (v := some (.ref b52)) (fun h => by rw [Bd.returns] at h; cases h)
  refine own_done (retOut X56 hx Bd.returns rfl (Or.inr (Or.inr (Or.inr (Or.inr ⟨rfl, rfl, rfl⟩)))) (hb hby d13_16) hr57) hrun57 hended57 ⟨_, _, rfl, ?_, hRW57.1, hRW57.2.1, hRW57.2.2.1, hRW57.2.2.2.mono (by decide) (by decide)⟩
  show Qna Z el h0 n0 _ T56.heap _
  exact ⟨b52, rfl, N56, Kt56, g_b52, sz_b52, r56_0, r56_1⟩
theorem d12_0 : decode prog_9_method_7_code 0 = .ok (.aload_n 0, 1) := by decide +kernel
theorem d12_1 : decode prog_9_method_7_code 1 = .ok (.getfield 7, 3) := by decide +kernel
theorem d12_4 : decode prog_9_method_7_code 4 = .ok (.ifCond .eq 7, 3) := by decide +kernel
theorem d12_7 : decode prog_9_method_7_code 7 = .ok (.iconst 1, 1) := by decide +kernel
theorem d12_8 : decode prog_9_method_7_code 8 = .ok (.goto 4, 3) := by decide +kernel
theorem d12_11 : decode prog_9_method_7_code 11 = .ok (.iconst 0, 1) := by decide +kernel
theorem d12_12 : decode prog_9_method_7_code 12 = .ok (.ireturn, 1) := by decide +kernel
theorem ef_ia (m : MethodId) (x0 : Addr) : entryFrame m #[(.ref x0)] 1 = mkF m 0 #[.val (.ref x0)] [] := by first | (simp [entryFrame, mkF, argsToLocals, Value.category]; done) | rfl
def Qia (Z : State) (a1 : Addr) (st : Int32) (h0 : Heap) (n0 : Nat) (v : Option Value) (h : Heap) (L : List Loc) : Prop := v = some (.int (own_an st)) ∧ Fr n0 L ∧ h = h0
abbrev Gia (Z : State) (a1 : Addr) (st : Int32) (h0 : Heap) (n0 : Nat) (s : State) : Outcome → State → Prop := fun o U' => ∃ v L, o = .returned v ∧ Qia Z a1 st h0 n0 v U'.heap L ∧ FrameEnd s o U' L ({ frames := 0, cells := 0, slots := 0, locals := 0 } : Room).cells ({ frames := 0, cells := 0, slots := 0, locals := 0 } : Room).slots
set_option maxRecDepth 65536 in
set_option maxHeartbeats 40000000 in
theorem rmia (l : Launch) (Z : State) (a0 : Array Value) (hw : ∀ d ∈ tables_1, d.before a0 Z = true) (ws : List Jvm.Cond) (a1 : Addr) (st : Int32) (h0 : Heap) (n0 : Nat) (Z0 : n0 ≤ h0.size) (F_status_a1 : Fld Z h0 a1 "com/example/pryority/pryority/Response" "status" "I" (.int st)) :
    MetFree l (⟨"com/example/pryority/pryority/Response", "isAnswer", "()Z"⟩ : MethodName) (head1 (Jvm.Cond.code (⟨"com/example/pryority/pryority/Response", "isAnswer", "()Z"⟩ : MethodName) prog_9_method_7_code 1 (some .boolean) :: ws) ({ frames := 0, cells := 0, slots := 0, locals := 0 } : Room)) (fun a U => a = #[(.ref a1)] ∧ Z.Warmed39 U.vm ∧ U.heap = h0) (fun _ _ _ _ _ => True) (fun _ U o U' => ∃ v L, o = .returned v ∧ Qia Z a1 st h0 n0 v U'.heap L ∧ FrameEnd U o U' L ({ frames := 0, cells := 0, slots := 0, locals := 0 } : Room).cells ({ frames := 0, cells := 0, slots := 0, locals := 0 } : Room).slots) := by
  refine MetFree.of_bodySF (plainFor_of_name pn_com_example_pryority_pryority_Response) hisR ?_
  intro p e s m args below meth c s₁ Bd hml0 hP hK
  obtain ⟨rfl, hZ, hh⟩ := hP
  have hx := Bd.exec
  have hby := Bd.bytes
  have hml : c.maxLocals = 1 := hml0
  have hown : s.vm.findClass "com/example/pryority/pryority/Response" = some m.cls := findClass_of_methodNamed Bd.named
  have hnm := (name_of_methodNamed Bd.named Bd.method).1
  have X0 : Stand p l e ({ frames := 0, cells := 0, slots := 0, locals := 0 } : Room) s m #[(.ref a1)] below meth c s₁ [] 0 0 := Stand.of_body Bd
  have e0 : s₁.heap = h0 := by rw [← hh, Bd.state]; rfl
  have es0 : s.heap = h0 := hh
  have N0 := Fr.nil n0
  show own_Fin p e below (Gia Z a1 st h0 n0 s) (s₁.setTop (entryFrame m #[(.ref a1)] 1))
  rw [ef_ia m a1]
  refine own_go (XS.aloadN X0.here hx rfl (hb hby d12_0) rfl rfl (Steps.refl _)) ?_
  show own_Fin _ _ _ _ (s₁.setTop (mkF m 1 #[rv a1] [(.ref a1)]))
  obtain ⟨T58, X58, e58, st58⟩ := getF X0 hx hZ hown (host := "") (Or.inl (hw _ (List.mem_of_getElem? (i := 66) rfl))) Via.refl e0 F_status_a1 (g := (mkF m 1 #[rv a1] [(.ref a1)])) rfl rfl (hb hby d12_1)
  refine own_by st58 ?_
  show own_Fin _ _ _ _ (T58.setTop (mkF m 4 #[rv a1] [(.int st)]))
  by_cases c4_59 : st = (0 : Int32)
  · refine own_go (XS.ifYes X58.here hx rfl (pc0 := 4) (pc' := 11) rfl (hb hby d12_4) rfl ((if0 _ _).trans (teq c4_59).1) (by decide) (by decide) (Steps.refl _)) ?_
    show own_Fin _ _ _ _ (T58.setTop (mkF m 11 #[rv a1] []))
    refine own_go (XS.iconst X58.here hx rfl (hb hby d12_11) (Steps.refl _)) ?_
    show own_Fin _ _ _ _ (T58.setTop (mkF m 12 #[rv a1] [(.int (0 : Int32))]))
    obtain ⟨fs60, hr60, hrun60, hended60, hW60, hsame60⟩ := X58.leave (v := some (.int (0 : Int32))) (fun h => by rw [Bd.returns] at h; cases h)
    refine own_done (retN X58 hx (t := .boolean) Bd.returns (by simp) (hb hby d12_12) hr60) hrun60 hended60 ⟨_, _, rfl, ?_, ⟨_, rfl⟩, hW60, hsame60.mono (by decide) (by decide)⟩
    show Qia Z a1 st h0 n0 _ T58.heap _
    rw [e58]
    exact ⟨(by simp [own_an, c4_59]), N0, rfl⟩
  · refine own_go (XS.ifNo X58.here hx rfl (hb hby d12_4) rfl ((if0 _ _).trans (feq c4_59).1) (Steps.refl _)) ?_
    show own_Fin _ _ _ _ (T58.setTop (mkF m 7 #[rv a1] []))
    refine own_go (XS.iconst X58.here hx rfl (hb hby d12_7) (Steps.refl _)) ?_
    show own_Fin _ _ _ _ (T58.setTop (mkF m 8 #[rv a1] [(.int (1 : Int32))]))
    refine own_go (XS.goto X58.here hx rfl (pc0 := 8) (pc' := 12) rfl (hb hby d12_8) (by decide) (by decide) (Steps.refl _)) ?_
    show own_Fin _ _ _ _ (T58.setTop (mkF m 12 #[rv a1] [(.int (1 : Int32))]))
    obtain ⟨fs61, hr61, hrun61, hended61, hW61, hsame61⟩ := X58.leave (v := some (.int (1 : Int32))) (fun h => by rw [Bd.returns] at h; cases h)
    refine own_done (retN X58 hx (t := .boolean) Bd.returns (by simp) (hb hby d12_12) hr61) hrun61 hended61 ⟨_, _, rfl, ?_, ⟨_, rfl⟩, hW61, hsame61.mono (by decide) (by decide)⟩
    show Qia Z a1 st h0 n0 _ T58.heap _
    rw [e58]
    exact ⟨(by simp [own_an, c4_59]), N0, rfl⟩
theorem pn_com_example_pryority_pryority_ResponseIsAnswerPinLaw : plainName "com/example/pryority/pryority/ResponseIsAnswerPinLaw" = true := by first | (simp [plainName, overriddenIn]; done) | decide +kernel
theorem ef_0 (m : MethodId) (x0 : Int32) (x1 : Int32) (x2 : Int32) : entryFrame m #[(.int x0), (.int x1), (.int x2)] maxLocals = mkF m 0 #[.val (.int x0), .val (.int x1), .val (.int x2), .unset, .unset, .unset, .unset, .unset, .unset, .unset, .unset, .unset, .unset] [] := by first | (simp [entryFrame, mkF, argsToLocals, Value.category, maxLocals]; done) | rfl
def Q0 (Z : State) (p1 : Int32) (p2 : Int32) (p3 : Int32) (cs : Int32) (dd : Addr) (el : Addr) (h0 : Heap) (n0 : Nat) (v : Option Value) (h : Heap) (L : List Loc) : Prop := v = some (.int 1) ∧ Fr n0 L
abbrev G0 (Z : State) (p1 : Int32) (p2 : Int32) (p3 : Int32) (cs : Int32) (dd : Addr) (el : Addr) (h0 : Heap) (n0 : Nat) (s : State) : Outcome → State → Prop := fun o U' => ∃ v L, o = .returned v ∧ Q0 Z p1 p2 p3 cs dd el h0 n0 v U'.heap L ∧ ReturnedEndW s o U' L 32 2176
theorem pd__28__5b_C_29_V : parseMethodDescriptor "([C)V" = some ⟨[(.array .char)], none⟩ := by decide +kernel
theorem pd__28__29_Z : parseMethodDescriptor "()Z" = some ⟨[], some .boolean⟩ := by decide +kernel
theorem pd__28__29_Lcom_2f_example_2f_pryority_2f_pryority_2f_Response_3b_ : parseMethodDescriptor "()Lcom/example/pryority/pryority/Response;" = some ⟨[], some (.object "com/example/pryority/pryority/Response")⟩ := by decide +kernel
set_option maxRecDepth 65536 in
set_option maxHeartbeats 40000000 in
theorem rm0 (l : Launch) (Z : State) (a0 : Array Value) (hw : ∀ d ∈ tables_1, d.before a0 Z = true) (ws : List Jvm.Cond) (p1 : Int32) (p2 : Int32) (p3 : Int32) (cs : Int32) (dd : Addr) (el : Addr) (h0 : Heap) (n0 : Nat) (Z0 : n0 ≤ h0.size) (O0 : Old Z n0 h0) (S_COMPACT_STRINGS : Sta Z Z.heap "java/lang/String" "COMPACT_STRINGS" "Z" (.int cs)) (S_DEFAULTCAPACITY_EMPTY_ELEMENTDATA : Sta Z Z.heap "java/util/ArrayList" "DEFAULTCAPACITY_EMPTY_ELEMENTDATA" "[Ljava/lang/Object;" (.ref dd)) (S_EMPTY_LIST : Sta Z Z.heap "java/util/ImmutableCollections" "EMPTY_LIST" "Ljava/util/ImmutableCollections$ListN;" (.ref el)) (hcs : ¬ cs = (0 : Int32)) (hn0 : n0 = h0.size) (hh7 : Jvm.Lit.constHeld Z "java/lang/String" 7) (hcw : Jvm.Lit.compactW.before a0 Z = true) :
    MetFree l x (head1 (Jvm.Cond.code x code maxLocals ret :: ws) room_1) (fun a U => a = #[(.int p1), (.int p2), (.int p3)] ∧ (Z.Warmed39 U.vm ∧ Z = U) ∧ U.heap = h0) (fun _ _ _ _ _ => True) (fun _ U o U' => ∃ v L, o = .returned v ∧ Q0 Z p1 p2 p3 cs dd el h0 n0 v U'.heap L ∧ ReturnedEndW U o U' L 32 2176) := by
  refine MetFree.of_bodySF (plainFor_of_name pn_com_example_pryority_pryority_ResponseIsAnswerPinLaw) hisR ?_
  intro p e s m args below meth c s₁ Bd hml0 hP hK
  obtain ⟨rfl, ⟨hZ, hZs⟩, hh⟩ := hP
  have hx := Bd.exec
  have hby := Bd.bytes
  have hml : c.maxLocals = 13 := hml0
  have hown : s.vm.findClass "com/example/pryority/pryority/ResponseIsAnswerPinLaw" = some m.cls := findClass_of_methodNamed Bd.named
  have hnm := (name_of_methodNamed Bd.named Bd.method).1
  have X0 : Stand p l e room_1 s m #[(.int p1), (.int p2), (.int p3)] below meth c s₁ [] 0 0 := Stand.of_body Bd
  have e0 : s₁.heap = h0 := by rw [← hh, Bd.state]; rfl
  have es0 : s.heap = h0 := hh
  have N0 := Fr.nil n0
  show own_Fin p e below (G0 Z p1 p2 p3 cs dd el h0 n0 s) (s₁.setTop (entryFrame m #[(.int p1), (.int p2), (.int p3)] maxLocals))
  rw [ef_0 m p1 p2 p3]
  have X0w : Stand p l e room_1 (s.setVm s.vm) m #[(.int p1), (.int p2), (.int p3)] below meth c s₁ [] 0 0 := X0
  have hS0 : s.Since s.vm 0 := (State.WarmedH.refl s).since 0
  have hk0 : 0 ≤ h0.size := Nat.zero_le _
  have IB0 : IB Z s.vm [] := hZs ▸ IB.start
  refine own_go (XS.iloadN X0w.here hx rfl (hb hby at_0) rfl (Steps.refl _)) ?_
  show own_Fin _ _ _ _ (s₁.setTop (mkF m 1 #[iv p1, iv p2, iv p3, .unset, .unset, .unset, .unset, .unset, .unset, .unset, .unset, .unset, .unset] [(.int p2)]))
  refine own_go (XS.iconst X0w.here hx rfl (hb hby at_1) (Steps.refl _)) ?_
  show own_Fin _ _ _ _ (s₁.setTop (mkF m 2 #[iv p1, iv p2, iv p3, .unset, .unset, .unset, .unset, .unset, .unset, .unset, .unset, .unset, .unset] [(.int (1 : Int32)), (.int p2)]))
  refine own_go (XS.iand X0w.here hx rfl (hb hby at_2) rfl (Steps.refl _)) ?_
  show own_Fin _ _ _ _ (s₁.setTop (mkF m 3 #[iv p1, iv p2, iv p3, .unset, .unset, .unset, .unset, .unset, .unset, .unset, .unset, .unset, .unset] [(.int (p2 &&& (1 : Int32)))]))
  have di62 : Steps p.tables e below (s₁.setTop (mkF m 3 #[iv p1, iv p2, iv p3, .unset, .unset, .unset, .unset, .unset, .unset, .unset, .unset, .unset, .unset] [(.int (p2 &&& (1 : Int32)))])) (s₁.setTop (mkF m 11 #[iv p1, iv p2, iv p3, .unset, .unset, .unset, .unset, .unset, .unset, .unset, .unset, .unset, .unset] [(.int (own_b (p2 &&& (1 : Int32))))])) := by
    by_cases c3_63 : (p2 &&& (1 : Int32)) = (0 : Int32)
    · refine XS.ifYes X0w.here hx rfl (pc0 := 3) (pc' := 10) rfl (hb hby at_3) rfl ((if0 _ _).trans (teq c3_63).1) (by decide) (by decide) ?_
      show Steps _ _ _ (s₁.setTop (mkF m 10 #[iv p1, iv p2, iv p3, .unset, .unset, .unset, .unset, .unset, .unset, .unset, .unset, .unset, .unset] [])) _
      refine XS.iconst X0w.here hx rfl (hb hby at_10) ?_
      show Steps _ _ _ (s₁.setTop (mkF m 11 #[iv p1, iv p2, iv p3, .unset, .unset, .unset, .unset, .unset, .unset, .unset, .unset, .unset, .unset] [(.int (0 : Int32))])) _
      rw [show (own_b (p2 &&& (1 : Int32))) = (0 : Int32) from by simp [own_b, c3_63]]; exact Steps.refl _
    · refine XS.ifNo X0w.here hx rfl (hb hby at_3) rfl ((if0 _ _).trans (feq c3_63).1) ?_
      show Steps _ _ _ (s₁.setTop (mkF m 6 #[iv p1, iv p2, iv p3, .unset, .unset, .unset, .unset, .unset, .unset, .unset, .unset, .unset, .unset] [])) _
      refine XS.iconst X0w.here hx rfl (hb hby at_6) ?_
      show Steps _ _ _ (s₁.setTop (mkF m 7 #[iv p1, iv p2, iv p3, .unset, .unset, .unset, .unset, .unset, .unset, .unset, .unset, .unset, .unset] [(.int (1 : Int32))])) _
      refine XS.goto X0w.here hx rfl (pc0 := 7) (pc' := 11) rfl (hb hby at_7) (by decide) (by decide) ?_
      show Steps _ _ _ (s₁.setTop (mkF m 11 #[iv p1, iv p2, iv p3, .unset, .unset, .unset, .unset, .unset, .unset, .unset, .unset, .unset, .unset] [(.int (1 : Int32))])) _
      rw [show (own_b (p2 &&& (1 : Int32))) = (1 : Int32) from by simp [own_b, c3_63]]; exact Steps.refl _
  refine own_go di62 ?_
  show own_Fin _ _ _ _ (s₁.setTop (mkF m 11 #[iv p1, iv p2, iv p3, .unset, .unset, .unset, .unset, .unset, .unset, .unset, .unset, .unset, .unset] [(.int (own_b (p2 &&& (1 : Int32))))]))
  refine own_go (XS.istoreN X0w.here hx rfl (hb hby at_11) rfl rfl (Steps.refl _)) ?_
  show own_Fin _ _ _ _ (s₁.setTop (mkF m 12 #[iv p1, iv p2, iv p3, iv (own_b (p2 &&& (1 : Int32))), .unset, .unset, .unset, .unset, .unset, .unset, .unset, .unset, .unset] []))
  generalize hz_v3_64 : (own_b (p2 &&& (1 : Int32))) = v3_64
  refine own_go (XS.iloadN X0w.here hx rfl (hb hby at_12) rfl (Steps.refl _)) ?_
  show own_Fin _ _ _ _ (s₁.setTop (mkF m 13 #[iv p1, iv p2, iv p3, iv v3_64, .unset, .unset, .unset, .unset, .unset, .unset, .unset, .unset, .unset] [(.int p2)]))
  refine own_go (XS.iconst X0w.here hx rfl (hb hby at_13) (Steps.refl _)) ?_
  show own_Fin _ _ _ _ (s₁.setTop (mkF m 14 #[iv p1, iv p2, iv p3, iv v3_64, .unset, .unset, .unset, .unset, .unset, .unset, .unset, .unset, .unset] [(.int (1 : Int32)), (.int p2)]))
  refine own_go (XS.iushr X0w.here hx rfl (hb hby at_14) rfl (Steps.refl _)) ?_
  show own_Fin _ _ _ _ (s₁.setTop (mkF m 15 #[iv p1, iv p2, iv p3, iv v3_64, .unset, .unset, .unset, .unset, .unset, .unset, .unset, .unset, .unset] [(.int ((p2.toUInt32 >>> ((1 : Int32) &&& 31).toUInt32).toInt32))]))
  refine own_go (XS.iconst X0w.here hx rfl (hb hby at_15) (Steps.refl _)) ?_
  show own_Fin _ _ _ _ (s₁.setTop (mkF m 16 #[iv p1, iv p2, iv p3, iv v3_64, .unset, .unset, .unset, .unset, .unset, .unset, .unset, .unset, .unset] [(.int (3 : Int32)), (.int ((p2.toUInt32 >>> ((1 : Int32) &&& 31).toUInt32).toInt32))]))
  refine own_go (XS.iand X0w.here hx rfl (hb hby at_16) rfl (Steps.refl _)) ?_
  show own_Fin _ _ _ _ (s₁.setTop (mkF m 17 #[iv p1, iv p2, iv p3, iv v3_64, .unset, .unset, .unset, .unset, .unset, .unset, .unset, .unset, .unset] [(.int (((p2.toUInt32 >>> ((1 : Int32) &&& 31).toUInt32).toInt32) &&& (3 : Int32)))]))
  generalize hz_bl65 : (((p2.toUInt32 >>> ((1 : Int32) &&& 31).toUInt32).toInt32) &&& (3 : Int32)) = bl65
  show own_Fin _ _ _ _ (s₁.setTop (mkF m 17 #[iv p1, iv p2, iv p3, iv v3_64, .unset, .unset, .unset, .unset, .unset, .unset, .unset, .unset, .unset] [(.int bl65)]))
  have hcs66 : bl65 = (0 : Int32) ∨ bl65 = (1 : Int32) ∨ bl65 = (2 : Int32) ∨ bl65 = (3 : Int32) := hz_bl65 ▸ own_n4 _
  rcases hcs66 with rfl | rfl | rfl | rfl
  · show own_Fin _ _ _ _ (s₁.setTop (mkF m 17 #[iv p1, iv p2, iv p3, iv v3_64, .unset, .unset, .unset, .unset, .unset, .unset, .unset, .unset, .unset] [(.int (0 : Int32))]))
    obtain ⟨T67, h67, k67, X67, e67, E67, A67, st67⟩ := newP X0w hx hZ (hw _ (List.mem_of_getElem? (i := 0) rfl)) e0 (g := (mkF m 17 #[iv p1, iv p2, iv p3, iv v3_64, .unset, .unset, .unset, .unset, .unset, .unset, .unset, .unset, .unset] [(.int (0 : Int32))])) rfl (hb hby at_17) rfl (by decide) (cap := 0) (by decide) (by decide) (by decide) (by decide)
    obtain ⟨b67, g67⟩ : ∃ z, z = h0.size := ⟨_, rfl⟩
    rw [← g67] at A67 st67
    refine own_by st67 ?_
    have Od67 := O0.ext E67
    have g_b67 : n0 ≤ b67 := Nat.le_trans Z0 (Nat.le_of_eq g67.symm)
    have Z67 : n0 ≤ h67.size := Nat.le_trans Z0 E67.1
    have hk67 : 0 ≤ h67.size := Nat.le_trans hk0 E67.1
    have V_b67 : Arv Z h67 b67 k67 .byte (0 : Int32) [] (.int (0 : Int32)) := (Arv.new A67 (by decide)).pad (pad_rep [] (.int (0 : Int32)) 0)
    show own_Fin _ _ _ _ (T67.setTop (mkF m 19 #[iv p1, iv p2, iv p3, iv v3_64, .unset, .unset, .unset, .unset, .unset, .unset, .unset, .unset, .unset] [(.ref b67)]))
    refine own_go (XS.astore X67.here hx rfl (hb hby at_19) rfl rfl rfl (Steps.refl _)) ?_
    show own_Fin _ _ _ _ (T67.setTop (mkF m 21 #[iv p1, iv p2, iv p3, iv v3_64, rv b67, .unset, .unset, .unset, .unset, .unset, .unset, .unset, .unset] []))
    refine own_go (XS.iloadN X67.here hx rfl (hb hby at_21) rfl (Steps.refl _)) ?_
    show own_Fin _ _ _ _ (T67.setTop (mkF m 22 #[iv p1, iv p2, iv p3, iv v3_64, rv b67, .unset, .unset, .unset, .unset, .unset, .unset, .unset, .unset] [(.int p2)]))
    refine own_go (XS.bipush X67.here hx rfl (hb hby at_22) (Steps.refl _)) ?_
    show own_Fin _ _ _ _ (T67.setTop (mkF m 24 #[iv p1, iv p2, iv p3, iv v3_64, rv b67, .unset, .unset, .unset, .unset, .unset, .unset, .unset, .unset] [(.int (8 : Int32)), (.int p2)]))
    refine own_go (XS.iand X67.here hx rfl (hb hby at_24) rfl (Steps.refl _)) ?_
    show own_Fin _ _ _ _ (T67.setTop (mkF m 25 #[iv p1, iv p2, iv p3, iv v3_64, rv b67, .unset, .unset, .unset, .unset, .unset, .unset, .unset, .unset] [(.int (p2 &&& (8 : Int32)))]))
    have di68 : Steps p.tables e below (T67.setTop (mkF m 25 #[iv p1, iv p2, iv p3, iv v3_64, rv b67, .unset, .unset, .unset, .unset, .unset, .unset, .unset, .unset] [(.int (p2 &&& (8 : Int32)))])) (T67.setTop (mkF m 33 #[iv p1, iv p2, iv p3, iv v3_64, rv b67, .unset, .unset, .unset, .unset, .unset, .unset, .unset, .unset] [(.int (own_st (p2 &&& (8 : Int32)) p1))])) := by
      by_cases c25_69 : (p2 &&& (8 : Int32)) = (0 : Int32)
      · refine XS.ifYes X67.here hx rfl (pc0 := 25) (pc' := 32) rfl (hb hby at_25) rfl ((if0 _ _).trans (teq c25_69).1) (by decide) (by decide) ?_
        show Steps _ _ _ (T67.setTop (mkF m 32 #[iv p1, iv p2, iv p3, iv v3_64, rv b67, .unset, .unset, .unset, .unset, .unset, .unset, .unset, .unset] [])) _
        refine XS.iloadN X67.here hx rfl (hb hby at_32) rfl ?_
        show Steps _ _ _ (T67.setTop (mkF m 33 #[iv p1, iv p2, iv p3, iv v3_64, rv b67, .unset, .unset, .unset, .unset, .unset, .unset, .unset, .unset] [(.int p1)])) _
        rw [show (own_st (p2 &&& (8 : Int32)) p1) = p1 from by simp [own_st, c25_69]]; exact Steps.refl _
      · refine XS.ifNo X67.here hx rfl (hb hby at_25) rfl ((if0 _ _).trans (feq c25_69).1) ?_
        show Steps _ _ _ (T67.setTop (mkF m 28 #[iv p1, iv p2, iv p3, iv v3_64, rv b67, .unset, .unset, .unset, .unset, .unset, .unset, .unset, .unset] [])) _
        refine XS.iconst X67.here hx rfl (hb hby at_28) ?_
        show Steps _ _ _ (T67.setTop (mkF m 29 #[iv p1, iv p2, iv p3, iv v3_64, rv b67, .unset, .unset, .unset, .unset, .unset, .unset, .unset, .unset] [(.int (0 : Int32))])) _
        refine XS.goto X67.here hx rfl (pc0 := 29) (pc' := 33) rfl (hb hby at_29) (by decide) (by decide) ?_
        show Steps _ _ _ (T67.setTop (mkF m 33 #[iv p1, iv p2, iv p3, iv v3_64, rv b67, .unset, .unset, .unset, .unset, .unset, .unset, .unset, .unset] [(.int (0 : Int32))])) _
        rw [show (own_st (p2 &&& (8 : Int32)) p1) = (0 : Int32) from by simp [own_st, c25_69]]; exact Steps.refl _
    refine own_go di68 ?_
    show own_Fin _ _ _ _ (T67.setTop (mkF m 33 #[iv p1, iv p2, iv p3, iv v3_64, rv b67, .unset, .unset, .unset, .unset, .unset, .unset, .unset, .unset] [(.int (own_st (p2 &&& (8 : Int32)) p1))]))
    refine own_go (XS.istore X67.here hx rfl (hb hby at_33) rfl rfl (Steps.refl _)) ?_
    show own_Fin _ _ _ _ (T67.setTop (mkF m 35 #[iv p1, iv p2, iv p3, iv v3_64, rv b67, iv (own_st (p2 &&& (8 : Int32)) p1), .unset, .unset, .unset, .unset, .unset, .unset, .unset] []))
    generalize hz_v5_70 : (own_st (p2 &&& (8 : Int32)) p1) = v5_70
    refine own_go (XS.iconst X67.here hx rfl (hb hby at_35) (Steps.refl _)) ?_
    show own_Fin _ _ _ _ (T67.setTop (mkF m 36 #[iv p1, iv p2, iv p3, iv v3_64, rv b67, iv v5_70, .unset, .unset, .unset, .unset, .unset, .unset, .unset] [(.int (1 : Int32))]))
    obtain ⟨T71, h71, k71, X71, e71, E71, A71, st71⟩ := newP X67 hx hZ (hw _ (List.mem_of_getElem? (i := 1) rfl)) e67 (g := (mkF m 36 #[iv p1, iv p2, iv p3, iv v3_64, rv b67, iv v5_70, .unset, .unset, .unset, .unset, .unset, .unset, .unset] [(.int (1 : Int32))])) rfl (hb hby at_36) rfl (by decide) (cap := 1) (by decide) (by decide) (by decide) (by decide)
    obtain ⟨b71, g71⟩ : ∃ z, z = h67.size := ⟨_, rfl⟩
    rw [← g71] at A71 st71
    refine own_by st71 ?_
    have ne_b67_b71 : b67 ≠ b71 := Nat.ne_of_lt (Nat.lt_of_lt_of_eq V_b67.lt g71.symm)
    have Od71 := Od67.ext E71
    have V_b67_71 := V_b67.ext E71
    have g_b71 : n0 ≤ b71 := Nat.le_trans Z67 (Nat.le_of_eq g71.symm)
    have Z71 : n0 ≤ h71.size := Nat.le_trans Z67 E71.1
    have hk71 : 0 ≤ h71.size := Nat.le_trans hk67 E71.1
    have V_b71 : Arv Z h71 b71 k71 .char (1 : Int32) [(.int (0 : Int32))] (.int (0 : Int32)) := (Arv.new A71 (by decide)).pad (pad_rep [] (.int (0 : Int32)) 1)
    show own_Fin _ _ _ _ (T71.setTop (mkF m 38 #[iv p1, iv p2, iv p3, iv v3_64, rv b67, iv v5_70, .unset, .unset, .unset, .unset, .unset, .unset, .unset] [(.ref b71)]))
    refine own_go (XS.astore X71.here hx rfl (hb hby at_38) rfl rfl rfl (Steps.refl _)) ?_
    show own_Fin _ _ _ _ (T71.setTop (mkF m 40 #[iv p1, iv p2, iv p3, iv v3_64, rv b67, iv v5_70, rv b71, .unset, .unset, .unset, .unset, .unset, .unset] []))
    refine own_go (XS.aload X71.here hx rfl (hb hby at_40) rfl rfl (Steps.refl _)) ?_
    show own_Fin _ _ _ _ (T71.setTop (mkF m 42 #[iv p1, iv p2, iv p3, iv v3_64, rv b67, iv v5_70, rv b71, .unset, .unset, .unset, .unset, .unset, .unset] [(.ref b71)]))
    refine own_go (XS.iconst X71.here hx rfl (hb hby at_42) (Steps.refl _)) ?_
    show own_Fin _ _ _ _ (T71.setTop (mkF m 43 #[iv p1, iv p2, iv p3, iv v3_64, rv b67, iv v5_70, rv b71, .unset, .unset, .unset, .unset, .unset, .unset] [(.int (0 : Int32)), (.ref b71)]))
    refine own_go (XS.iloadN X71.here hx rfl (hb hby at_43) rfl (Steps.refl _)) ?_
    show own_Fin _ _ _ _ (T71.setTop (mkF m 44 #[iv p1, iv p2, iv p3, iv v3_64, rv b67, iv v5_70, rv b71, .unset, .unset, .unset, .unset, .unset, .unset] [(.int p3), (.int (0 : Int32)), (.ref b71)]))
    refine own_go (XS.sipush X71.here hx rfl (hb hby at_44) (Steps.refl _)) ?_
    show own_Fin _ _ _ _ (T71.setTop (mkF m 47 #[iv p1, iv p2, iv p3, iv v3_64, rv b67, iv v5_70, rv b71, .unset, .unset, .unset, .unset, .unset, .unset] [(.int (255 : Int32)), (.int p3), (.int (0 : Int32)), (.ref b71)]))
    refine own_go (XS.iand X71.here hx rfl (hb hby at_47) rfl (Steps.refl _)) ?_
    show own_Fin _ _ _ _ (T71.setTop (mkF m 48 #[iv p1, iv p2, iv p3, iv v3_64, rv b67, iv v5_70, rv b71, .unset, .unset, .unset, .unset, .unset, .unset] [(.int (p3 &&& (255 : Int32))), (.int (0 : Int32)), (.ref b71)]))
    refine own_go (XS.i2c X71.here hx rfl (hb hby at_48) rfl (Steps.refl _)) ?_
    show own_Fin _ _ _ _ (T71.setTop (mkF m 49 #[iv p1, iv p2, iv p3, iv v3_64, rv b67, iv v5_70, rv b71, .unset, .unset, .unset, .unset, .unset, .unset] [(.int ((p3 &&& (255 : Int32)).toUInt32.toUInt16.toUInt32.toInt32)), (.int (0 : Int32)), (.ref b71)]))
    obtain ⟨cl72, Ar72, qa72, Sa72, Na72, Ha72, Ga72⟩ := id V_b71
    have hin72 : ¬ ((0 : Int32) < 0 ∨ cl72.slots.size ≤ ((0 : Int32)).toNatClampNeg) := inb_of Sa72 ⟨by decide, by decide⟩
    obtain ⟨T73, h73, X73, e73, W73, st73⟩ := stC X71 hx hZ e71 Ar72 (j := (0 : Int32)) hin72 (g := (mkF m 49 #[iv p1, iv p2, iv p3, iv v3_64, rv b67, iv v5_70, rv b71, .unset, .unset, .unset, .unset, .unset, .unset] [(.int ((p3 &&& (255 : Int32)).toUInt32.toUInt16.toUInt32.toInt32)), (.int (0 : Int32)), (.ref b71)])) rfl rfl (hb hby at_49)
    refine own_by st73 ?_
    have hnr73 : nar .char ((p3 &&& (255 : Int32)).toUInt32.toUInt16.toUInt32.toInt32) = (p3 &&& (255 : Int32)) := own_nc _
    rw [hnr73] at W73
    have V_b71_73 : Arv Z h73 b71 k71 .char (1 : Int32) [(.int (p3 &&& (255 : Int32)))] (.int (0 : Int32)) := Arv.set Ar72 qa72 Sa72 Na72 Ha72 Ga72 (hnr73 ▸ fits_nar_char ((p3 &&& (255 : Int32)).toUInt32.toUInt16.toUInt32.toInt32)) W73 0 rfl (Nat.le_of_ble_eq_true rfl)
    have Od73 := Od71.wr W73 g_b71
    have V_b67_73 := V_b67_71.other W73 ne_b67_b71
    have N73 := Fr.snoc X73 N0 g_b71
    have Z73 : n0 ≤ h73.size := Nat.le_trans Z71 (Keep.of_wr W73).1
    have hk73 : 0 ≤ h73.size := Nat.le_trans hk71 (Keep.of_wr W73).1
    show own_Fin _ _ _ _ (T73.setTop (mkF m 50 #[iv p1, iv p2, iv p3, iv v3_64, rv b67, iv v5_70, rv b71, .unset, .unset, .unset, .unset, .unset, .unset] []))
    refine own_go (XS.iloadN X73.here hx rfl (hb hby at_50) rfl (Steps.refl _)) ?_
    show own_Fin _ _ _ _ (T73.setTop (mkF m 51 #[iv p1, iv p2, iv p3, iv v3_64, rv b67, iv v5_70, rv b71, .unset, .unset, .unset, .unset, .unset, .unset] [(.int p2)]))
    refine own_go (XS.bipush X73.here hx rfl (hb hby at_51) (Steps.refl _)) ?_
    show own_Fin _ _ _ _ (T73.setTop (mkF m 53 #[iv p1, iv p2, iv p3, iv v3_64, rv b67, iv v5_70, rv b71, .unset, .unset, .unset, .unset, .unset, .unset] [(.int (16 : Int32)), (.int p2)]))
    refine own_go (XS.iand X73.here hx rfl (hb hby at_53) rfl (Steps.refl _)) ?_
    show own_Fin _ _ _ _ (T73.setTop (mkF m 54 #[iv p1, iv p2, iv p3, iv v3_64, rv b67, iv v5_70, rv b71, .unset, .unset, .unset, .unset, .unset, .unset] [(.int (p2 &&& (16 : Int32)))]))
    by_cases c54_74 : (p2 &&& (16 : Int32)) = (0 : Int32)
    · refine own_go (XS.ifYes X73.here hx rfl (pc0 := 54) (pc' := 70) rfl (hb hby at_54) rfl ((if0 _ _).trans (teq c54_74).1) (by decide) (by decide) (Steps.refl _)) ?_
      show own_Fin _ _ _ _ (T73.setTop (mkF m 70 #[iv p1, iv p2, iv p3, iv v3_64, rv b67, iv v5_70, rv b71, .unset, .unset, .unset, .unset, .unset, .unset] []))
      obtain ⟨T75, h75, X75, e75, E75, A75, D75, U75, st75⟩ := newO X73 hx hZ hown (hw _ (List.mem_of_getElem? (i := 2) rfl)) (hw _ (List.mem_of_getElem? (i := 3) rfl)) (hw _ (List.mem_of_getElem? (i := 4) rfl)) e73 (g := (mkF m 70 #[iv p1, iv p2, iv p3, iv v3_64, rv b67, iv v5_70, rv b71, .unset, .unset, .unset, .unset, .unset, .unset] [])) rfl (hb hby at_70) (by decide) (by decide)
      obtain ⟨b75, g75⟩ : ∃ z, z = h73.size := ⟨_, rfl⟩
      rw [← g75] at A75 D75 U75 st75
      refine own_by st75 ?_
      have ne_b67_b75 : b67 ≠ b75 := Nat.ne_of_lt (Nat.lt_of_lt_of_eq V_b67_73.lt g75.symm)
      have ne_b71_b75 : b71 ≠ b75 := Nat.ne_of_lt (Nat.lt_of_lt_of_eq V_b71_73.lt g75.symm)
      have Od75 := Od73.ext E75
      have V_b67_75 := V_b67_73.ext E75
      have V_b71_75 := V_b71_73.ext E75
      have g_b75 : n0 ≤ b75 := Nat.le_trans Z73 (Nat.le_of_eq g75.symm)
      have Z75 : n0 ≤ h75.size := Nat.le_trans Z73 E75.1
      have hk75 : 0 ≤ h75.size := Nat.le_trans hk73 E75.1
      have E_b75 := A75
      have F_coder_b75 : Fld Z h75 b75 "java/lang/String" "coder" "B" (.int (0 : Int32)) := D75 (Or.inr (hw _ (List.mem_of_getElem? (i := 27) rfl))) (ty := .byte) (by decide)
      have F_value_b75 : Fld Z h75 b75 "java/lang/String" "value" "[B" .null := D75 (Or.inr (hw _ (List.mem_of_getElem? (i := 29) rfl))) (ty := (.array .byte)) (by decide)
      show own_Fin _ _ _ _ (T75.setTop (mkF m 73 #[iv p1, iv p2, iv p3, iv v3_64, rv b67, iv v5_70, rv b71, .unset, .unset, .unset, .unset, .unset, .unset] [(.ref b75)]))
      refine own_go (XS.dup X75.here hx rfl (hb hby at_73) rfl rfl (Steps.refl _)) ?_
      show own_Fin _ _ _ _ (T75.setTop (mkF m 74 #[iv p1, iv p2, iv p3, iv v3_64, rv b67, iv v5_70, rv b71, .unset, .unset, .unset, .unset, .unset, .unset] [(.ref b75), (.ref b75)]))
      refine own_go (XS.aload X75.here hx rfl (hb hby at_74) rfl rfl (Steps.refl _)) ?_
      show own_Fin _ _ _ _ (T75.setTop (mkF m 76 #[iv p1, iv p2, iv p3, iv v3_64, rv b67, iv v5_70, rv b71, .unset, .unset, .unset, .unset, .unset, .unset] [(.ref b71), (.ref b75), (.ref b75)]))
      obtain ⟨_, _, ⟨T76, L76, k76, n76⟩, -, X76, ⟨Lc76, hQ76, l76, y76, z76⟩, st76⟩ := X75.specialBack hx (y := (⟨"java/lang/String", "<init>", "([C)V"⟩ : MethodName)) rfl hown (mvT hZ (hw _ (List.mem_of_getElem? (i := 5) rfl))) (mvT hZ (hw _ (List.mem_of_getElem? (i := 6) rfl))) (mvT hZ (hw _ (List.mem_of_getElem? (i := 7) rfl))) (by decide) (backOf (W := 1) (rmstr_1 l Z a0 hw [] b75 b71 k71 cs (p3 &&& (255 : Int32)) h75 n0 Z75 E_b75 F_value_b75 F_coder_b75 g_b75 Od75 S_COMPACT_STRINGS hcs V_b71_75 (own_lt p3)) hZ (hw _ (List.mem_of_getElem? (i := 7) rfl)) (hw _ (List.mem_of_getElem? (i := 4) rfl)) (by decide) (by decide)) (g := (mkF m 76 #[iv p1, iv p2, iv p3, iv v3_64, rv b67, iv v5_70, rv b71, .unset, .unset, .unset, .unset, .unset, .unset] [(.ref b71), (.ref b75), (.ref b75)])) rfl (by rw [hml]; rfl) (Steps.refl _) (a := b75) (argsL := [(.ref b71)]) (rest := [(.ref b75)]) (lenOf pd__28__5b_C_29_V rfl) rfl (by show 2 * 0 + _ ≤ _; exact Nat.le_of_eq rfl) (hb hby at_76) (fun _ hv => ⟨rfl, e75, (by decide : 3 + 1 ≤ _), (by decide : 5 + 1 ≤ _)⟩)
      dsimp only [Pt.U, Pt.locs, Pt.cells, Pt.slots] at X76 l76 y76 z76 st76 hQ76
      subst l76 y76 z76
      refine own_go st76 ?_
      obtain ⟨b_76, kb_76, rfl, Nq76, K76, g_b_76, sb_b_76, r76_0, r76_1, r76_2, r76_3⟩ := hQ76
      have ne_b67_b_76 : b67 ≠ b_76 := Nat.ne_of_lt (Nat.lt_of_lt_of_le V_b67_75.lt sb_b_76)
      have ne_b71_b_76 : b71 ≠ b_76 := Nat.ne_of_lt (Nat.lt_of_lt_of_le V_b71_75.lt sb_b_76)
      have ne_b75_b_76 : b75 ≠ b_76 := Nat.ne_of_lt (Nat.lt_of_lt_of_le E_b75.lt sb_b_76)
      have Od76 := Od75.keep K76 (allS g_b75 all0)
      have V_b67_76 := V_b67_75.keep K76 (ninS ne_b67_b75 nin0)
      have V_b71_76 := V_b71_75.keep K76 (ninS ne_b71_b75 nin0)
      have E_b75_76 := E_b75.keep K76
      have Z76 : n0 ≤ T76.heap.size := Nat.le_trans Z75 K76.1
      have hk76 : 0 ≤ T76.heap.size := Nat.le_trans hk75 K76.1
      have N76 := Fr.app N73 Nq76
      show own_Fin _ _ _ _ (T76.setTop (mkF m 79 #[iv p1, iv p2, iv p3, iv v3_64, rv b67, iv v5_70, rv b71, .unset, .unset, .unset, .unset, .unset, .unset] [(.ref b75)]))
      refine own_go (XS.astore X76.here hx rfl (hb hby at_79) rfl rfl rfl (Steps.refl _)) ?_
      show own_Fin _ _ _ _ (T76.setTop (mkF m 81 #[iv p1, iv p2, iv p3, iv v3_64, rv b67, iv v5_70, rv b71, rv b75, .unset, .unset, .unset, .unset, .unset] []))
      obtain ⟨T77, h77, X77, e77, E77, A77, D77, U77, st77⟩ := newO X76 hx hZ hown (hw _ (List.mem_of_getElem? (i := 30) rfl)) (hw _ (List.mem_of_getElem? (i := 31) rfl)) (hw _ (List.mem_of_getElem? (i := 32) rfl)) rfl (g := (mkF m 81 #[iv p1, iv p2, iv p3, iv v3_64, rv b67, iv v5_70, rv b71, rv b75, .unset, .unset, .unset, .unset, .unset] [])) rfl (hb hby at_81) (by decide) (by decide)
      obtain ⟨b77, g77⟩ : ∃ z, z = T76.heap.size := ⟨_, rfl⟩
      rw [← g77] at A77 D77 U77 st77
      refine own_by st77 ?_
      have ne_b67_b77 : b67 ≠ b77 := Nat.ne_of_lt (Nat.lt_of_lt_of_eq V_b67_76.lt g77.symm)
      have ne_b71_b77 : b71 ≠ b77 := Nat.ne_of_lt (Nat.lt_of_lt_of_eq V_b71_76.lt g77.symm)
      have ne_b75_b77 : b75 ≠ b77 := Nat.ne_of_lt (Nat.lt_of_lt_of_eq r76_0.lt g77.symm)
      have ne_b_76_b77 : b_76 ≠ b77 := Nat.ne_of_lt (Nat.lt_of_lt_of_eq r76_3.lt g77.symm)
      have Od77 := Od76.ext E77
      have V_b67_77 := V_b67_76.ext E77
      have V_b71_77 := V_b71_76.ext E77
      have r76_0_77 := r76_0.ext E77
      have r76_1_77 := r76_1.ext E77
      have r76_2_77 := r76_2.ext E77
      have r76_3_77 := r76_3.ext E77
      have g_b77 : n0 ≤ b77 := Nat.le_trans Z76 (Nat.le_of_eq g77.symm)
      have Z77 : n0 ≤ h77.size := Nat.le_trans Z76 E77.1
      have hk77 : 0 ≤ h77.size := Nat.le_trans hk76 E77.1
      have E_b77 := A77
      have F_modCount_b77 : Fld Z h77 b77 "java/util/AbstractList" "modCount" "I" (.int (0 : Int32)) := D77 (Or.inl (hw _ (List.mem_of_getElem? (i := 50) rfl))) (ty := .int) (by decide)
      have F_elementData_b77 : Fld Z h77 b77 "java/util/ArrayList" "elementData" "[Ljava/lang/Object;" .null := D77 (Or.inl (hw _ (List.mem_of_getElem? (i := 53) rfl))) (ty := (.array (.object "java/lang/Object"))) (by decide)
      show own_Fin _ _ _ _ (T77.setTop (mkF m 84 #[iv p1, iv p2, iv p3, iv v3_64, rv b67, iv v5_70, rv b71, rv b75, .unset, .unset, .unset, .unset, .unset] [(.ref b77)]))
      refine own_go (XS.dup X77.here hx rfl (hb hby at_84) rfl rfl (Steps.refl _)) ?_
      show own_Fin _ _ _ _ (T77.setTop (mkF m 85 #[iv p1, iv p2, iv p3, iv v3_64, rv b67, iv v5_70, rv b71, rv b75, .unset, .unset, .unset, .unset, .unset] [(.ref b77), (.ref b77)]))
      obtain ⟨_, _, ⟨T78, L78, k78, n78⟩, -, X78, ⟨Lc78, hQ78, l78, y78, z78⟩, st78⟩ := X77.specialBack hx (y := (⟨"java/util/ArrayList", "<init>", "()V"⟩ : MethodName)) rfl hown (mvT hZ (hw _ (List.mem_of_getElem? (i := 33) rfl))) (mvT hZ (hw _ (List.mem_of_getElem? (i := 34) rfl))) (mvT hZ (hw _ (List.mem_of_getElem? (i := 35) rfl))) (by decide) (backOf (W := 1) (rmali l Z a0 hw [] b77 dd h77 n0 Z77 E_b77 F_modCount_b77 F_elementData_b77 g_b77 Od77 S_DEFAULTCAPACITY_EMPTY_ELEMENTDATA) hZ (hw _ (List.mem_of_getElem? (i := 35) rfl)) (hw _ (List.mem_of_getElem? (i := 32) rfl)) (by decide) (by decide)) (g := (mkF m 85 #[iv p1, iv p2, iv p3, iv v3_64, rv b67, iv v5_70, rv b71, rv b75, .unset, .unset, .unset, .unset, .unset] [(.ref b77), (.ref b77)])) rfl (by rw [hml]; rfl) (Steps.refl _) (a := b77) (argsL := []) (rest := [(.ref b77)]) (lenOf pd__28__29_V rfl) rfl (by show 2 * 0 + _ ≤ _; exact Nat.le_of_eq rfl) (hb hby at_85) (fun _ hv => ⟨rfl, e77, (by decide : 5 + 0 ≤ _), (by decide : 9 + 0 ≤ _)⟩)
      dsimp only [Pt.U, Pt.locs, Pt.cells, Pt.slots] at X78 l78 y78 z78 st78 hQ78
      subst l78 y78 z78
      refine own_go st78 ?_
      obtain ⟨rfl, Nq78, K78, r78_0, r78_1, r78_2⟩ := hQ78
      have Od78 := Od77.keep K78 (allS g_b77 all0)
      have V_b67_78 := V_b67_77.keep K78 (ninS ne_b67_b77 nin0)
      have V_b71_78 := V_b71_77.keep K78 (ninS ne_b71_b77 nin0)
      have r76_0_78 := r76_0_77.keep K78
      have r76_1_78 := r76_1_77.keep K78 (ninS ne_b75_b77 nin0)
      have r76_2_78 := r76_2_77.keep K78 (ninS ne_b75_b77 nin0)
      have r76_3_78 := r76_3_77.keep K78 (ninS ne_b_76_b77 nin0)
      have E_b77_78 := E_b77.keep K78
      have Z78 : n0 ≤ T78.heap.size := Nat.le_trans Z77 K78.1
      have hk78 : 0 ≤ T78.heap.size := Nat.le_trans hk77 K78.1
      have N78 := Fr.app N76 Nq78
      show own_Fin _ _ _ _ (T78.setTop (mkF m 88 #[iv p1, iv p2, iv p3, iv v3_64, rv b67, iv v5_70, rv b71, rv b75, .unset, .unset, .unset, .unset, .unset] [(.ref b77)]))
      refine own_go (XS.astore X78.here hx rfl (hb hby at_88) rfl rfl rfl (Steps.refl _)) ?_
      show own_Fin _ _ _ _ (T78.setTop (mkF m 90 #[iv p1, iv p2, iv p3, iv v3_64, rv b67, iv v5_70, rv b71, rv b75, rv b77, .unset, .unset, .unset, .unset] []))
      obtain ⟨T79, h79, X79, e79, E79, A79, D79, U79, st79⟩ := newO X78 hx hZ hown (hw _ (List.mem_of_getElem? (i := 54) rfl)) (hw _ (List.mem_of_getElem? (i := 55) rfl)) (hw _ (List.mem_of_getElem? (i := 56) rfl)) rfl (g := (mkF m 90 #[iv p1, iv p2, iv p3, iv v3_64, rv b67, iv v5_70, rv b71, rv b75, rv b77, .unset, .unset, .unset, .unset] [])) rfl (hb hby at_90) (by decide) (by decide)
      obtain ⟨b79, g79⟩ : ∃ z, z = T78.heap.size := ⟨_, rfl⟩
      rw [← g79] at A79 D79 U79 st79
      refine own_by st79 ?_
      have ne_b67_b79 : b67 ≠ b79 := Nat.ne_of_lt (Nat.lt_of_lt_of_eq V_b67_78.lt g79.symm)
      have ne_b71_b79 : b71 ≠ b79 := Nat.ne_of_lt (Nat.lt_of_lt_of_eq V_b71_78.lt g79.symm)
      have ne_b75_b79 : b75 ≠ b79 := Nat.ne_of_lt (Nat.lt_of_lt_of_eq r76_0_78.lt g79.symm)
      have ne_b_76_b79 : b_76 ≠ b79 := Nat.ne_of_lt (Nat.lt_of_lt_of_eq r76_3_78.lt g79.symm)
      have ne_b77_b79 : b77 ≠ b79 := Nat.ne_of_lt (Nat.lt_of_lt_of_eq r78_0.lt g79.symm)
      have Od79 := Od78.ext E79
      have V_b67_79 := V_b67_78.ext E79
      have V_b71_79 := V_b71_78.ext E79
      have r76_0_79 := r76_0_78.ext E79
      have r76_1_79 := r76_1_78.ext E79
      have r76_2_79 := r76_2_78.ext E79
      have r76_3_79 := r76_3_78.ext E79
      have r78_0_79 := r78_0.ext E79
      have r78_1_79 := r78_1.ext E79
      have r78_2_79 := r78_2.ext E79
      have g_b79 : n0 ≤ b79 := Nat.le_trans Z78 (Nat.le_of_eq g79.symm)
      have Z79 : n0 ≤ h79.size := Nat.le_trans Z78 E79.1
      have hk79 : 0 ≤ h79.size := Nat.le_trans hk78 E79.1
      have E_b79 := A79
      have F_status_b79 : Fld Z h79 b79 "com/example/pryority/pryority/Response" "status" "I" (.int (0 : Int32)) := D79 (Or.inr (hw _ (List.mem_of_getElem? (i := 67) rfl))) (ty := .int) (by decide)
      have F_reason_b79 : Fld Z h79 b79 "com/example/pryority/pryority/Response" "reason" "Ljava/lang/String;" .null := D79 (Or.inr (hw _ (List.mem_of_getElem? (i := 69) rfl))) (ty := (.object "java/lang/String")) (by decide)
      have F_fields_b79 : Fld Z h79 b79 "com/example/pryority/pryority/Response" "fields" "Ljava/util/List;" .null := D79 (Or.inr (hw _ (List.mem_of_getElem? (i := 71) rfl))) (ty := (.object "java/util/List")) (by decide)
      have F_body_b79 : Fld Z h79 b79 "com/example/pryority/pryority/Response" "body" "[B" .null := D79 (Or.inr (hw _ (List.mem_of_getElem? (i := 73) rfl))) (ty := (.array .byte)) (by decide)
      have F_truncated_b79 : Fld Z h79 b79 "com/example/pryority/pryority/Response" "truncated" "Z" (.int (0 : Int32)) := D79 (Or.inr (hw _ (List.mem_of_getElem? (i := 75) rfl))) (ty := .boolean) (by decide)
      show own_Fin _ _ _ _ (T79.setTop (mkF m 93 #[iv p1, iv p2, iv p3, iv v3_64, rv b67, iv v5_70, rv b71, rv b75, rv b77, .unset, .unset, .unset, .unset] [(.ref b79)]))
      refine own_go (XS.dup X79.here hx rfl (hb hby at_93) rfl rfl (Steps.refl _)) ?_
      show own_Fin _ _ _ _ (T79.setTop (mkF m 94 #[iv p1, iv p2, iv p3, iv v3_64, rv b67, iv v5_70, rv b71, rv b75, rv b77, .unset, .unset, .unset, .unset] [(.ref b79), (.ref b79)]))
      refine own_go (XS.iload X79.here hx rfl (hb hby at_94) rfl (Steps.refl _)) ?_
      show own_Fin _ _ _ _ (T79.setTop (mkF m 96 #[iv p1, iv p2, iv p3, iv v3_64, rv b67, iv v5_70, rv b71, rv b75, rv b77, .unset, .unset, .unset, .unset] [(.int v5_70), (.ref b79), (.ref b79)]))
      refine own_go (XS.aload X79.here hx rfl (hb hby at_96) rfl rfl (Steps.refl _)) ?_
      show own_Fin _ _ _ _ (T79.setTop (mkF m 98 #[iv p1, iv p2, iv p3, iv v3_64, rv b67, iv v5_70, rv b71, rv b75, rv b77, .unset, .unset, .unset, .unset] [(.ref b75), (.int v5_70), (.ref b79), (.ref b79)]))
      refine own_go (XS.aload X79.here hx rfl (hb hby at_98) rfl rfl (Steps.refl _)) ?_
      show own_Fin _ _ _ _ (T79.setTop (mkF m 100 #[iv p1, iv p2, iv p3, iv v3_64, rv b67, iv v5_70, rv b71, rv b75, rv b77, .unset, .unset, .unset, .unset] [(.ref b77), (.ref b75), (.int v5_70), (.ref b79), (.ref b79)]))
      refine own_go (XS.aload X79.here hx rfl (hb hby at_100) rfl rfl (Steps.refl _)) ?_
      show own_Fin _ _ _ _ (T79.setTop (mkF m 102 #[iv p1, iv p2, iv p3, iv v3_64, rv b67, iv v5_70, rv b71, rv b75, rv b77, .unset, .unset, .unset, .unset] [(.ref b67), (.ref b77), (.ref b75), (.int v5_70), (.ref b79), (.ref b79)]))
      refine own_go (XS.iloadN X79.here hx rfl (hb hby at_102) rfl (Steps.refl _)) ?_
      show own_Fin _ _ _ _ (T79.setTop (mkF m 103 #[iv p1, iv p2, iv p3, iv v3_64, rv b67, iv v5_70, rv b71, rv b75, rv b77, .unset, .unset, .unset, .unset] [(.int v3_64), (.ref b67), (.ref b77), (.ref b75), (.int v5_70), (.ref b79), (.ref b79)]))
      obtain ⟨_, _, ⟨T80, L80, k80, n80⟩, -, X80, ⟨Lc80, hQ80, l80, y80, z80⟩, st80⟩ := X79.specialBack hx (y := (⟨"com/example/pryority/pryority/Response", "<init>", "(ILjava/lang/String;Ljava/util/List;[BZ)V"⟩ : MethodName)) rfl hown (mvT hZ (hw _ (List.mem_of_getElem? (i := 57) rfl))) (mvT hZ (hw _ (List.mem_of_getElem? (i := 58) rfl))) (mvT hZ (hw _ (List.mem_of_getElem? (i := 59) rfl))) (by decide) (backOf (W := 1) (rmr5 l Z a0 hw [] b79 v5_70 b75 b77 b67 v3_64 h79 n0 Z79 E_b79 F_status_b79 F_reason_b79 F_fields_b79 F_body_b79 F_truncated_b79 g_b79) hZ (hw _ (List.mem_of_getElem? (i := 59) rfl)) (hw _ (List.mem_of_getElem? (i := 56) rfl)) (by decide) (by decide)) (g := (mkF m 103 #[iv p1, iv p2, iv p3, iv v3_64, rv b67, iv v5_70, rv b71, rv b75, rv b77, .unset, .unset, .unset, .unset] [(.int v3_64), (.ref b67), (.ref b77), (.ref b75), (.int v5_70), (.ref b79), (.ref b79)])) rfl (by rw [hml]; rfl) (Steps.refl _) (a := b79) (argsL := [(.int v5_70), (.ref b75), (.ref b77), (.ref b67), (.int v3_64)]) (rest := [(.ref b79)]) (lenOf pd__28_ILjava_2f_lang_2f_String_3b_Ljava_2f_util_2f_List_3b__5b_BZ_29_V rfl) rfl (by show 2 * 0 + _ ≤ _; exact Nat.le_of_eq rfl) (hb hby at_103) (fun _ hv => ⟨rfl, e79, (by decide : 6 + 0 ≤ _), (by decide : 14 + 0 ≤ _)⟩)
      dsimp only [Pt.U, Pt.locs, Pt.cells, Pt.slots] at X80 l80 y80 z80 st80 hQ80
      subst l80 y80 z80
      refine own_go st80 ?_
      obtain ⟨rfl, Nq80, K80, r80_0, r80_1⟩ := hQ80
      have Od80 := Od79.keep K80 (allS g_b79 all0)
      have V_b67_80 := V_b67_79.keep K80 (ninS ne_b67_b79 nin0)
      have V_b71_80 := V_b71_79.keep K80 (ninS ne_b71_b79 nin0)
      have r76_0_80 := r76_0_79.keep K80
      have r76_1_80 := r76_1_79.keep K80 (ninS ne_b75_b79 nin0)
      have r76_2_80 := r76_2_79.keep K80 (ninS ne_b75_b79 nin0)
      have r76_3_80 := r76_3_79.keep K80 (ninS ne_b_76_b79 nin0)
      have r78_0_80 := r78_0_79.keep K80
      have r78_1_80 := r78_1_79.keep K80 (ninS ne_b77_b79 nin0)
      have r78_2_80 := r78_2_79.keep K80 (ninS ne_b77_b79 nin0)
      have E_b79_80 := E_b79.keep K80
      have Z80 : n0 ≤ T80.heap.size := Nat.le_trans Z79 K80.1
      have hk80 : 0 ≤ T80.heap.size := Nat.le_trans hk79 K80.1
      have N80 := Fr.app N78 Nq80
      show own_Fin _ _ _ _ (T80.setTop (mkF m 106 #[iv p1, iv p2, iv p3, iv v3_64, rv b67, iv v5_70, rv b71, rv b75, rv b77, .unset, .unset, .unset, .unset] [(.ref b79)]))
      refine own_go (XS.astore X80.here hx rfl (hb hby at_106) rfl rfl rfl (Steps.refl _)) ?_
      show own_Fin _ _ _ _ (T80.setTop (mkF m 108 #[iv p1, iv p2, iv p3, iv v3_64, rv b67, iv v5_70, rv b71, rv b75, rv b77, rv b79, .unset, .unset, .unset] []))
      have di81 : Steps p.tables e below (T80.setTop (mkF m 108 #[iv p1, iv p2, iv p3, iv v3_64, rv b67, iv v5_70, rv b71, rv b75, rv b77, rv b79, .unset, .unset, .unset] [])) (T80.setTop (mkF m 123 #[iv p1, iv p2, iv p3, iv v3_64, rv b67, iv v5_70, rv b71, rv b75, rv b77, rv b79, .unset, .unset, .unset] [(.int (own_ex v5_70))])) := by
        refine XS.iload X80.here hx rfl (hb hby at_108) rfl ?_
        show Steps _ _ _ (T80.setTop (mkF m 110 #[iv p1, iv p2, iv p3, iv v3_64, rv b67, iv v5_70, rv b71, rv b75, rv b77, rv b79, .unset, .unset, .unset] [(.int v5_70)])) _
        by_cases c110_82 : v5_70 < (0 : Int32)
        · refine XS.ifYes X80.here hx rfl (pc0 := 110) (pc' := 118) rfl (hb hby at_110) rfl ((if0 _ _).trans (tlt c110_82).1) (by decide) (by decide) ?_
          show Steps _ _ _ (T80.setTop (mkF m 118 #[iv p1, iv p2, iv p3, iv v3_64, rv b67, iv v5_70, rv b71, rv b75, rv b77, rv b79, .unset, .unset, .unset] [])) _
          refine XS.iconst X80.here hx rfl (hb hby at_118) ?_
          show Steps _ _ _ (T80.setTop (mkF m 119 #[iv p1, iv p2, iv p3, iv v3_64, rv b67, iv v5_70, rv b71, rv b75, rv b77, rv b79, .unset, .unset, .unset] [(.int (1 : Int32))])) _
          refine XS.goto X80.here hx rfl (pc0 := 119) (pc' := 123) rfl (hb hby at_119) (by decide) (by decide) ?_
          show Steps _ _ _ (T80.setTop (mkF m 123 #[iv p1, iv p2, iv p3, iv v3_64, rv b67, iv v5_70, rv b71, rv b75, rv b77, rv b79, .unset, .unset, .unset] [(.int (1 : Int32))])) _
          rw [show (own_ex v5_70) = (1 : Int32) from by simp [own_ex, c110_82]]; exact Steps.refl _
        · refine XS.ifNo X80.here hx rfl (hb hby at_110) rfl ((if0 _ _).trans (flt c110_82).1) ?_
          show Steps _ _ _ (T80.setTop (mkF m 113 #[iv p1, iv p2, iv p3, iv v3_64, rv b67, iv v5_70, rv b71, rv b75, rv b77, rv b79, .unset, .unset, .unset] [])) _
          refine XS.iload X80.here hx rfl (hb hby at_113) rfl ?_
          show Steps _ _ _ (T80.setTop (mkF m 115 #[iv p1, iv p2, iv p3, iv v3_64, rv b67, iv v5_70, rv b71, rv b75, rv b77, rv b79, .unset, .unset, .unset] [(.int v5_70)])) _
          by_cases c115_83 : (0 : Int32) < v5_70
          · refine XS.ifNo X80.here hx rfl (hb hby at_115) rfl ((if0 _ _).trans (tlt c115_83).2.2.2) ?_
            show Steps _ _ _ (T80.setTop (mkF m 118 #[iv p1, iv p2, iv p3, iv v3_64, rv b67, iv v5_70, rv b71, rv b75, rv b77, rv b79, .unset, .unset, .unset] [])) _
            refine XS.iconst X80.here hx rfl (hb hby at_118) ?_
            show Steps _ _ _ (T80.setTop (mkF m 119 #[iv p1, iv p2, iv p3, iv v3_64, rv b67, iv v5_70, rv b71, rv b75, rv b77, rv b79, .unset, .unset, .unset] [(.int (1 : Int32))])) _
            refine XS.goto X80.here hx rfl (pc0 := 119) (pc' := 123) rfl (hb hby at_119) (by decide) (by decide) ?_
            show Steps _ _ _ (T80.setTop (mkF m 123 #[iv p1, iv p2, iv p3, iv v3_64, rv b67, iv v5_70, rv b71, rv b75, rv b77, rv b79, .unset, .unset, .unset] [(.int (1 : Int32))])) _
            rw [show (own_ex v5_70) = (1 : Int32) from by simp [own_ex, c110_82, c115_83]]; exact Steps.refl _
          · refine XS.ifYes X80.here hx rfl (pc0 := 115) (pc' := 122) rfl (hb hby at_115) rfl ((if0 _ _).trans (flt c115_83).2.2.2) (by decide) (by decide) ?_
            show Steps _ _ _ (T80.setTop (mkF m 122 #[iv p1, iv p2, iv p3, iv v3_64, rv b67, iv v5_70, rv b71, rv b75, rv b77, rv b79, .unset, .unset, .unset] [])) _
            refine XS.iconst X80.here hx rfl (hb hby at_122) ?_
            show Steps _ _ _ (T80.setTop (mkF m 123 #[iv p1, iv p2, iv p3, iv v3_64, rv b67, iv v5_70, rv b71, rv b75, rv b77, rv b79, .unset, .unset, .unset] [(.int (0 : Int32))])) _
            rw [show (own_ex v5_70) = (0 : Int32) from by simp [own_ex, c110_82, c115_83]]; exact Steps.refl _
      refine own_go di81 ?_
      show own_Fin _ _ _ _ (T80.setTop (mkF m 123 #[iv p1, iv p2, iv p3, iv v3_64, rv b67, iv v5_70, rv b71, rv b75, rv b77, rv b79, .unset, .unset, .unset] [(.int (own_ex v5_70))]))
      refine own_go (XS.istore X80.here hx rfl (hb hby at_123) rfl rfl (Steps.refl _)) ?_
      show own_Fin _ _ _ _ (T80.setTop (mkF m 125 #[iv p1, iv p2, iv p3, iv v3_64, rv b67, iv v5_70, rv b71, rv b75, rv b77, rv b79, iv (own_ex v5_70), .unset, .unset] []))
      generalize hz_v10_84 : (own_ex v5_70) = v10_84
      refine own_go (XS.aload X80.here hx rfl (hb hby at_125) rfl rfl (Steps.refl _)) ?_
      show own_Fin _ _ _ _ (T80.setTop (mkF m 127 #[iv p1, iv p2, iv p3, iv v3_64, rv b67, iv v5_70, rv b71, rv b75, rv b77, rv b79, iv v10_84, .unset, .unset] [(.ref b79)]))
      obtain ⟨cq85, kq85, q85a, q85b, q85c⟩ := isOf hZ rfl r80_0
      obtain ⟨_, _, ⟨T85, L85, k85, n85⟩, -, X85, ⟨Lc85, hQ85, l85, y85, z85⟩, st85⟩ := X80.virtualBack hx (y := (⟨"com/example/pryority/pryority/Response", "isAnswer", "()Z"⟩ : MethodName)) (z := (⟨"com/example/pryority/pryority/Response", "isAnswer", "()Z"⟩ : MethodName)) hown (mvT hZ (hw _ (List.mem_of_getElem? (i := 76) rfl))) (mvT hZ (hw _ (List.mem_of_getElem? (i := 77) rfl))) (notFace_of_selects (args := #[]) (mvT hZ (hw _ (List.mem_of_getElem? (i := 79) rfl)))) (mvT hZ (hw _ (List.mem_of_getElem? (i := 79) rfl))) (mvT hZ (hw _ (List.mem_of_getElem? (i := 78) rfl))) (by decide) (backOf (W := 0) (rmia l Z a0 hw [] b79 v5_70 T80.heap n0 Z80 r80_1) hZ (hw _ (List.mem_of_getElem? (i := 80) rfl)) (hw _ (List.mem_of_getElem? (i := 56) rfl)) (by decide) (by decide)) q85a q85c (g := (mkF m 127 #[iv p1, iv p2, iv p3, iv v3_64, rv b67, iv v5_70, rv b71, rv b75, rv b77, rv b79, iv v10_84, .unset, .unset] [(.ref b79)])) rfl (by rw [hml]; rfl) (Steps.refl _) (argsL := []) (rest := []) (lenOf pd__28__29_Z rfl) rfl (by show 2 * 0 + _ ≤ _; exact Nat.le_of_eq rfl) (hb hby at_127) (fun _ hv => ⟨rfl, rfl, (by decide : 6 + 0 ≤ _), (by decide : 14 + 0 ≤ _)⟩)
      dsimp only [Pt.U, Pt.locs, Pt.cells, Pt.slots] at X85 l85 y85 z85 st85 hQ85
      subst l85 y85 z85
      obtain ⟨rfl, Nq85, e85⟩ := hQ85
      refine own_go st85 ?_
      have N85 := Fr.app N80 Nq85
      show own_Fin _ _ _ _ (T85.setTop (mkF m 130 #[iv p1, iv p2, iv p3, iv v3_64, rv b67, iv v5_70, rv b71, rv b75, rv b77, rv b79, iv v10_84, .unset, .unset] [(.int (own_an v5_70))]))
      refine own_go (XS.istore X85.here hx rfl (hb hby at_130) rfl rfl (Steps.refl _)) ?_
      show own_Fin _ _ _ _ (T85.setTop (mkF m 132 #[iv p1, iv p2, iv p3, iv v3_64, rv b67, iv v5_70, rv b71, rv b75, rv b77, rv b79, iv v10_84, iv (own_an v5_70), .unset] []))
      generalize hz_v11_86 : (own_an v5_70) = v11_86
      obtain ⟨_, _, ⟨T87, L87, k87, n87⟩, -, X87, hs287, hgr87, ⟨Lc87, hQ87, l87, y87, z87⟩, st87⟩ := callSS X85 hx (y := (⟨"com/example/pryority/pryority/Response", "noAnswer", "()Lcom/example/pryority/pryority/Response;"⟩ : MethodName)) hown (mvT hZ (hw _ (List.mem_of_getElem? (i := 81) rfl))) (mvT hZ (hw _ (List.mem_of_getElem? (i := 82) rfl))) (mvT hZ (hw _ (List.mem_of_getElem? (i := 56) rfl))) (mvT hZ (hw _ (List.mem_of_getElem? (i := 83) rfl))) (by decide) (backOfS (W := 0) (rmna l Z a0 hw [] el T80.heap n0 Z80 Od80 S_EMPTY_LIST) hZ (hw _ (List.mem_of_getElem? (i := 83) rfl)) (hw _ (List.mem_of_getElem? (i := 56) rfl)) (by decide) (by decide)) (g := (mkF m 132 #[iv p1, iv p2, iv p3, iv v3_64, rv b67, iv v5_70, rv b71, rv b75, rv b77, rv b79, iv v10_84, iv v11_86, .unset] [])) rfl (by rw [hml]; rfl) (argsL := []) (rest := []) (lenOf pd__28__29_Lcom_2f_example_2f_pryority_2f_pryority_2f_Response_3b_ rfl) rfl (by show 2 * 0 + _ ≤ _; exact Nat.le_of_eq rfl) (hb hby at_132) (fun _ hv => ⟨rfl, e85, (by decide : 6 + 4 ≤ _), (by decide : 14 + 9 ≤ _)⟩)
      dsimp only [Pt.U, Pt.locs, Pt.cells, Pt.slots] at X87 l87 y87 z87 st87 hQ87 hs287 hgr87
      subst l87 y87 z87
      obtain ⟨Xr87, hS87, hZ87, hown87⟩ := rebS hS0 (show 0 ≤ T85.heap.size by rw [e85]; exact hk80) X87 hs287 hgr87 hZ hown
      refine own_go st87 ?_
      obtain ⟨r_87, rfl, Nq87, K87, g_r_87, sb_r_87, r87_0, r87_1⟩ := hQ87
      have ne_b67_r_87 : b67 ≠ r_87 := Nat.ne_of_lt (Nat.lt_of_lt_of_le V_b67_80.lt sb_r_87)
      have ne_b71_r_87 : b71 ≠ r_87 := Nat.ne_of_lt (Nat.lt_of_lt_of_le V_b71_80.lt sb_r_87)
      have ne_b75_r_87 : b75 ≠ r_87 := Nat.ne_of_lt (Nat.lt_of_lt_of_le r76_0_80.lt sb_r_87)
      have ne_b_76_r_87 : b_76 ≠ r_87 := Nat.ne_of_lt (Nat.lt_of_lt_of_le r76_3_80.lt sb_r_87)
      have ne_b77_r_87 : b77 ≠ r_87 := Nat.ne_of_lt (Nat.lt_of_lt_of_le r78_0_80.lt sb_r_87)
      have ne_b79_r_87 : b79 ≠ r_87 := Nat.ne_of_lt (Nat.lt_of_lt_of_le r80_0.lt sb_r_87)
      have Od87 := Od80.keep K87 all0
      have V_b67_87 := V_b67_80.keep K87 nin0
      have V_b71_87 := V_b71_80.keep K87 nin0
      have r76_0_87 := r76_0_80.keep K87
      have r76_1_87 := r76_1_80.keep K87 nin0
      have r76_2_87 := r76_2_80.keep K87 nin0
      have r76_3_87 := r76_3_80.keep K87 nin0
      have r78_0_87 := r78_0_80.keep K87
      have r78_1_87 := r78_1_80.keep K87 nin0
      have r78_2_87 := r78_2_80.keep K87 nin0
      have r80_0_87 := r80_0.keep K87
      have r80_1_87 := r80_1.keep K87 nin0
      have Z87 : n0 ≤ T87.heap.size := Nat.le_trans Z80 K87.1
      have hk87 : 0 ≤ T87.heap.size := Nat.le_trans hk80 K87.1
      have hkr87 : T87.heap.size ≤ T87.heap.size := Nat.le_refl _
      have N87 := Fr.app N85 Nq87
      show own_Fin _ _ _ _ (T87.setTop (mkF m 135 #[iv p1, iv p2, iv p3, iv v3_64, rv b67, iv v5_70, rv b71, rv b75, rv b77, rv b79, iv v10_84, iv v11_86, .unset] [(.ref r_87)]))
      refine own_go (XS.astore Xr87.here hx rfl (hb hby at_135) rfl rfl rfl (Steps.refl _)) ?_
      show own_Fin _ _ _ _ (T87.setTop (mkF m 137 #[iv p1, iv p2, iv p3, iv v3_64, rv b67, iv v5_70, rv b71, rv b75, rv b77, rv b79, iv v10_84, iv v11_86, rv r_87] []))
      refine own_go (XS.iload Xr87.here hx rfl (hb hby at_137) rfl (Steps.refl _)) ?_
      show own_Fin _ _ _ _ (T87.setTop (mkF m 139 #[iv p1, iv p2, iv p3, iv v3_64, rv b67, iv v5_70, rv b71, rv b75, rv b77, rv b79, iv v10_84, iv v11_86, rv r_87] [(.int v11_86)]))
      refine own_go (XS.iload Xr87.here hx rfl (hb hby at_139) rfl (Steps.refl _)) ?_
      show own_Fin _ _ _ _ (T87.setTop (mkF m 141 #[iv p1, iv p2, iv p3, iv v3_64, rv b67, iv v5_70, rv b71, rv b75, rv b77, rv b79, iv v10_84, iv v11_86, rv r_87] [(.int v10_84), (.int v11_86)]))
      refine own_go (XS.icmpNo Xr87.here hx rfl (hb hby at_141) rfl (teq (show v11_86 = v10_84 from (by rw [← hz_v11_86, ← hz_v10_84]; exact own_exan _))).2 (Steps.refl _)) ?_
      show own_Fin _ _ _ _ (T87.setTop (mkF m 144 #[iv p1, iv p2, iv p3, iv v3_64, rv b67, iv v5_70, rv b71, rv b75, rv b77, rv b79, iv v10_84, iv v11_86, rv r_87] []))
      refine own_go (XS.aload Xr87.here hx rfl (hb hby at_144) rfl rfl (Steps.refl _)) ?_
      show own_Fin _ _ _ _ (T87.setTop (mkF m 146 #[iv p1, iv p2, iv p3, iv v3_64, rv b67, iv v5_70, rv b71, rv b75, rv b77, rv b79, iv v10_84, iv v11_86, rv r_87] [(.ref r_87)]))
      obtain ⟨cq88, kq88, q88a, q88b, q88c⟩ := isOf hZ87 rfl r87_0
      obtain ⟨_, _, ⟨T88, L88, k88, n88⟩, -, X88, ⟨Lc88, hQ88, l88, y88, z88⟩, st88⟩ := Xr87.virtualBack hx (y := (⟨"com/example/pryority/pryority/Response", "isAnswer", "()Z"⟩ : MethodName)) (z := (⟨"com/example/pryority/pryority/Response", "isAnswer", "()Z"⟩ : MethodName)) hown87 (mvT hZ87 (hw _ (List.mem_of_getElem? (i := 76) rfl))) (mvT hZ87 (hw _ (List.mem_of_getElem? (i := 77) rfl))) (notFace_of_selects (args := #[]) (mvT hZ87 (hw _ (List.mem_of_getElem? (i := 79) rfl)))) (mvT hZ87 (hw _ (List.mem_of_getElem? (i := 79) rfl))) (mvT hZ87 (hw _ (List.mem_of_getElem? (i := 78) rfl))) (by decide) (backOf (W := 0) (rmia l Z a0 hw [] r_87 (0 : Int32) T87.heap n0 Z87 r87_1) hZ87 (hw _ (List.mem_of_getElem? (i := 80) rfl)) (hw _ (List.mem_of_getElem? (i := 56) rfl)) (by decide) (by decide)) q88a q88c (g := (mkF m 146 #[iv p1, iv p2, iv p3, iv v3_64, rv b67, iv v5_70, rv b71, rv b75, rv b77, rv b79, iv v10_84, iv v11_86, rv r_87] [(.ref r_87)])) rfl (by rw [hml]; rfl) (Steps.refl _) (argsL := []) (rest := []) (lenOf pd__28__29_Z rfl) rfl (by show 2 * 0 + _ ≤ _; exact Nat.le_of_eq rfl) (hb hby at_146) (fun _ hv => ⟨rfl, rfl, (by decide : 10 + 0 ≤ _), (by decide : 23 + 0 ≤ _)⟩)
      dsimp only [Pt.U, Pt.locs, Pt.cells, Pt.slots] at X88 l88 y88 z88 st88 hQ88
      subst l88 y88 z88
      obtain ⟨rfl, Nq88, e88⟩ := hQ88
      refine own_go st88 ?_
      have N88 := Fr.app N87 Nq88
      show own_Fin _ _ _ _ (T88.setTop (mkF m 149 #[iv p1, iv p2, iv p3, iv v3_64, rv b67, iv v5_70, rv b71, rv b75, rv b77, rv b79, iv v10_84, iv v11_86, rv r_87] [(.int (own_an (0 : Int32)))]))
      refine own_go (XS.ifNo X88.here hx rfl (hb hby at_149) rfl ((if0 _ _).trans (teq (show (own_an (0 : Int32)) = (0 : Int32) from rfl)).2) (Steps.refl _)) ?_
      show own_Fin _ _ _ _ (T88.setTop (mkF m 152 #[iv p1, iv p2, iv p3, iv v3_64, rv b67, iv v5_70, rv b71, rv b75, rv b77, rv b79, iv v10_84, iv v11_86, rv r_87] []))
      refine own_go (XS.iconst X88.here hx rfl (hb hby at_152) (Steps.refl _)) ?_
      show own_Fin _ _ _ _ (T88.setTop (mkF m 153 #[iv p1, iv p2, iv p3, iv v3_64, rv b67, iv v5_70, rv b71, rv b75, rv b77, rv b79, iv v10_84, iv v11_86, rv r_87] [(.int (1 : Int32))]))
      refine own_go (XS.goto X88.here hx rfl (pc0 := 153) (pc' := 157) rfl (hb hby at_153) (by decide) (by decide) (Steps.refl _)) ?_
      show own_Fin _ _ _ _ (T88.setTop (mkF m 157 #[iv p1, iv p2, iv p3, iv v3_64, rv b67, iv v5_70, rv b71, rv b75, rv b77, rv b79, iv v10_84, iv v11_86, rv r_87] [(.int (1 : Int32))]))
      obtain ⟨fs89, hr89, hrun89, hended89, hRW89⟩ := X88.leaveW (s := s) hS87 (n := T87.heap.size) (by rw [e88]; exact hkr87) (v := some (.int (1 : Int32))) (fun h => by rw [Bd.returns] at h; cases h)
      refine own_done (retN X88 hx (t := .boolean) Bd.returns (by simp) (hb hby at_157) hr89) hrun89 hended89 ⟨_, _, rfl, ?_, hRW89.1, hRW89.2.1, hRW89.2.2.1, hRW89.2.2.2.mono (by decide) (by decide)⟩
      show Q0 Z p1 p2 p3 cs dd el h0 n0 _ T88.heap _
      rw [e88]
      exact ⟨rfl, N88⟩
    · refine own_go (XS.ifNo X73.here hx rfl (hb hby at_54) rfl ((if0 _ _).trans (feq c54_74).1) (Steps.refl _)) ?_
      show own_Fin _ _ _ _ (T73.setTop (mkF m 57 #[iv p1, iv p2, iv p3, iv v3_64, rv b67, iv v5_70, rv b71, .unset, .unset, .unset, .unset, .unset, .unset] []))
      obtain ⟨T90, h90, X90, e90, E90, A90, D90, U90, st90⟩ := newO X73 hx hZ hown (hw _ (List.mem_of_getElem? (i := 2) rfl)) (hw _ (List.mem_of_getElem? (i := 3) rfl)) (hw _ (List.mem_of_getElem? (i := 4) rfl)) e73 (g := (mkF m 57 #[iv p1, iv p2, iv p3, iv v3_64, rv b67, iv v5_70, rv b71, .unset, .unset, .unset, .unset, .unset, .unset] [])) rfl (hb hby at_57) (by decide) (by decide)
      obtain ⟨b90, g90⟩ : ∃ z, z = h73.size := ⟨_, rfl⟩
      rw [← g90] at A90 D90 U90 st90
      refine own_by st90 ?_
      have ne_b67_b90 : b67 ≠ b90 := Nat.ne_of_lt (Nat.lt_of_lt_of_eq V_b67_73.lt g90.symm)
      have ne_b71_b90 : b71 ≠ b90 := Nat.ne_of_lt (Nat.lt_of_lt_of_eq V_b71_73.lt g90.symm)
      have Od90 := Od73.ext E90
      have V_b67_90 := V_b67_73.ext E90
      have V_b71_90 := V_b71_73.ext E90
      have g_b90 : n0 ≤ b90 := Nat.le_trans Z73 (Nat.le_of_eq g90.symm)
      have Z90 : n0 ≤ h90.size := Nat.le_trans Z73 E90.1
      have hk90 : 0 ≤ h90.size := Nat.le_trans hk73 E90.1
      have E_b90 := A90
      have F_coder_b90 : Fld Z h90 b90 "java/lang/String" "coder" "B" (.int (0 : Int32)) := D90 (Or.inr (hw _ (List.mem_of_getElem? (i := 27) rfl))) (ty := .byte) (by decide)
      have F_value_b90 : Fld Z h90 b90 "java/lang/String" "value" "[B" .null := D90 (Or.inr (hw _ (List.mem_of_getElem? (i := 29) rfl))) (ty := (.array .byte)) (by decide)
      show own_Fin _ _ _ _ (T90.setTop (mkF m 60 #[iv p1, iv p2, iv p3, iv v3_64, rv b67, iv v5_70, rv b71, .unset, .unset, .unset, .unset, .unset, .unset] [(.ref b90)]))
      refine own_go (XS.dup X90.here hx rfl (hb hby at_60) rfl rfl (Steps.refl _)) ?_
      show own_Fin _ _ _ _ (T90.setTop (mkF m 61 #[iv p1, iv p2, iv p3, iv v3_64, rv b67, iv v5_70, rv b71, .unset, .unset, .unset, .unset, .unset, .unset] [(.ref b90), (.ref b90)]))
      refine own_go (XS.iconst X90.here hx rfl (hb hby at_61) (Steps.refl _)) ?_
      show own_Fin _ _ _ _ (T90.setTop (mkF m 62 #[iv p1, iv p2, iv p3, iv v3_64, rv b67, iv v5_70, rv b71, .unset, .unset, .unset, .unset, .unset, .unset] [(.int (0 : Int32)), (.ref b90), (.ref b90)]))
      obtain ⟨T91, h91, k91, X91, e91, E91, A91, st91⟩ := newP X90 hx hZ (hw _ (List.mem_of_getElem? (i := 1) rfl)) e90 (g := (mkF m 62 #[iv p1, iv p2, iv p3, iv v3_64, rv b67, iv v5_70, rv b71, .unset, .unset, .unset, .unset, .unset, .unset] [(.int (0 : Int32)), (.ref b90), (.ref b90)])) rfl (hb hby at_62) rfl (by decide) (cap := 0) (by decide) (by decide) (by decide) (by decide)
      obtain ⟨b91, g91⟩ : ∃ z, z = h90.size := ⟨_, rfl⟩
      rw [← g91] at A91 st91
      refine own_by st91 ?_
      have ne_b67_b91 : b67 ≠ b91 := Nat.ne_of_lt (Nat.lt_of_lt_of_eq V_b67_90.lt g91.symm)
      have ne_b71_b91 : b71 ≠ b91 := Nat.ne_of_lt (Nat.lt_of_lt_of_eq V_b71_90.lt g91.symm)
      have ne_b90_b91 : b90 ≠ b91 := Nat.ne_of_lt (Nat.lt_of_lt_of_eq E_b90.lt g91.symm)
      have Od91 := Od90.ext E91
      have V_b67_91 := V_b67_90.ext E91
      have V_b71_91 := V_b71_90.ext E91
      have E_b90_91 := E_b90.ext E91
      have F_coder_b90_91 := F_coder_b90.ext E91
      have F_value_b90_91 := F_value_b90.ext E91
      have g_b91 : n0 ≤ b91 := Nat.le_trans Z90 (Nat.le_of_eq g91.symm)
      have Z91 : n0 ≤ h91.size := Nat.le_trans Z90 E91.1
      have hk91 : 0 ≤ h91.size := Nat.le_trans hk90 E91.1
      have V_b91 : Arv Z h91 b91 k91 .char (0 : Int32) [] (.int (0 : Int32)) := (Arv.new A91 (by decide)).pad (pad_rep [] (.int (0 : Int32)) 0)
      show own_Fin _ _ _ _ (T91.setTop (mkF m 64 #[iv p1, iv p2, iv p3, iv v3_64, rv b67, iv v5_70, rv b71, .unset, .unset, .unset, .unset, .unset, .unset] [(.ref b91), (.ref b90), (.ref b90)]))
      obtain ⟨_, _, ⟨T92, L92, k92, n92⟩, -, X92, hs292, hgr92, ⟨Lc92, ⟨hQ92, hK92⟩, l92, y92, z92⟩, st92⟩ := X91.specialBackS hx (y := (⟨"java/lang/String", "<init>", "([C)V"⟩ : MethodName)) rfl hown (mvT hZ (hw _ (List.mem_of_getElem? (i := 5) rfl))) (mvT hZ (hw _ (List.mem_of_getElem? (i := 6) rfl))) (mvT hZ (hw _ (List.mem_of_getElem? (i := 7) rfl))) (by decide) (own_backK (W := 1) (rmstr_0 l Z a0 hw [] b90 b91 k91 h91 n0 Z91 E_b90_91 F_value_b90_91 F_coder_b90_91 g_b90 Od91 V_b91 hh7 hcw) hZ (hw _ (List.mem_of_getElem? (i := 7) rfl)) (hw _ (List.mem_of_getElem? (i := 4) rfl)) (by decide) (by decide)) (g := (mkF m 64 #[iv p1, iv p2, iv p3, iv v3_64, rv b67, iv v5_70, rv b71, .unset, .unset, .unset, .unset, .unset, .unset] [(.ref b91), (.ref b90), (.ref b90)])) rfl (by rw [hml]; rfl) (Steps.refl _) (a := b90) (argsL := [(.ref b91)]) (rest := [(.ref b90)]) (lenOf pd__28__5b_C_29_V rfl) rfl (by show 2 * 0 + _ ≤ _; exact Nat.le_of_eq rfl) (hb hby at_64) (fun _ hv => ⟨rfl, e91, (by decide : 4 + 2 ≤ _), (by decide : 5 + 4 ≤ _), own_K.warm (Or.inl IB0) hv⟩)
      dsimp only [Pt.U, Pt.locs, Pt.cells, Pt.slots] at X92 l92 y92 z92 st92 hQ92 hs292 hgr92 hK92
      subst l92 y92 z92
      obtain ⟨Xr92, hS92, hZ92, hown92⟩ := rebS hS0 (show 0 ≤ T91.heap.size by rw [e91]; exact hk91) X92 hs292 hgr92 hZ hown
      refine own_go st92 ?_
      obtain ⟨rfl, Nq92, K92, r92_0⟩ := hQ92
      have Od92 := Od91.keep K92 (allS g_b90 all0)
      have V_b67_92 := V_b67_91.keep K92 (ninS ne_b67_b90 nin0)
      have V_b71_92 := V_b71_91.keep K92 (ninS ne_b71_b90 nin0)
      have E_b90_92 := E_b90_91.keep K92
      have V_b91_92 := V_b91.keep K92 (ninS (Ne.symm ne_b90_b91) nin0)
      have Z92 : n0 ≤ T92.heap.size := Nat.le_trans Z91 K92.1
      have hk92 : 0 ≤ T92.heap.size := Nat.le_trans hk91 K92.1
      have hkr92 : T92.heap.size ≤ T92.heap.size := Nat.le_refl _
      have N92 := Fr.app N73 Nq92
      show own_Fin _ _ _ _ (T92.setTop (mkF m 67 #[iv p1, iv p2, iv p3, iv v3_64, rv b67, iv v5_70, rv b71, .unset, .unset, .unset, .unset, .unset, .unset] [(.ref b90)]))
      refine own_go (XS.goto Xr92.here hx rfl (pc0 := 67) (pc' := 79) rfl (hb hby at_67) (by decide) (by decide) (Steps.refl _)) ?_
      show own_Fin _ _ _ _ (T92.setTop (mkF m 79 #[iv p1, iv p2, iv p3, iv v3_64, rv b67, iv v5_70, rv b71, .unset, .unset, .unset, .unset, .unset, .unset] [(.ref b90)]))
      refine own_go (XS.astore Xr92.here hx rfl (hb hby at_79) rfl rfl rfl (Steps.refl _)) ?_
      show own_Fin _ _ _ _ (T92.setTop (mkF m 81 #[iv p1, iv p2, iv p3, iv v3_64, rv b67, iv v5_70, rv b71, rv b90, .unset, .unset, .unset, .unset, .unset] []))
      obtain ⟨T93, h93, X93, e93, E93, A93, D93, U93, st93⟩ := newO Xr92 hx hZ92 hown92 (hw _ (List.mem_of_getElem? (i := 30) rfl)) (hw _ (List.mem_of_getElem? (i := 31) rfl)) (hw _ (List.mem_of_getElem? (i := 32) rfl)) rfl (g := (mkF m 81 #[iv p1, iv p2, iv p3, iv v3_64, rv b67, iv v5_70, rv b71, rv b90, .unset, .unset, .unset, .unset, .unset] [])) rfl (hb hby at_81) (by decide) (by decide)
      obtain ⟨b93, g93⟩ : ∃ z, z = T92.heap.size := ⟨_, rfl⟩
      rw [← g93] at A93 D93 U93 st93
      refine own_by st93 ?_
      have ne_b67_b93 : b67 ≠ b93 := Nat.ne_of_lt (Nat.lt_of_lt_of_eq V_b67_92.lt g93.symm)
      have ne_b71_b93 : b71 ≠ b93 := Nat.ne_of_lt (Nat.lt_of_lt_of_eq V_b71_92.lt g93.symm)
      have ne_b90_b93 : b90 ≠ b93 := Nat.ne_of_lt (Nat.lt_of_lt_of_eq r92_0.lt g93.symm)
      have ne_b91_b93 : b91 ≠ b93 := Nat.ne_of_lt (Nat.lt_of_lt_of_eq V_b91_92.lt g93.symm)
      have Od93 := Od92.ext E93
      have V_b67_93 := V_b67_92.ext E93
      have V_b71_93 := V_b71_92.ext E93
      have r92_0_93 := r92_0.ext E93
      have V_b91_93 := V_b91_92.ext E93
      have g_b93 : n0 ≤ b93 := Nat.le_trans Z92 (Nat.le_of_eq g93.symm)
      have Z93 : n0 ≤ h93.size := Nat.le_trans Z92 E93.1
      have hk93 : T92.heap.size ≤ h93.size := Nat.le_trans hkr92 E93.1
      have E_b93 := A93
      have F_modCount_b93 : Fld Z h93 b93 "java/util/AbstractList" "modCount" "I" (.int (0 : Int32)) := D93 (Or.inl (hw _ (List.mem_of_getElem? (i := 50) rfl))) (ty := .int) (by decide)
      have F_elementData_b93 : Fld Z h93 b93 "java/util/ArrayList" "elementData" "[Ljava/lang/Object;" .null := D93 (Or.inl (hw _ (List.mem_of_getElem? (i := 53) rfl))) (ty := (.array (.object "java/lang/Object"))) (by decide)
      show own_Fin _ _ _ _ (T93.setTop (mkF m 84 #[iv p1, iv p2, iv p3, iv v3_64, rv b67, iv v5_70, rv b71, rv b90, .unset, .unset, .unset, .unset, .unset] [(.ref b93)]))
      refine own_go (XS.dup X93.here hx rfl (hb hby at_84) rfl rfl (Steps.refl _)) ?_
      show own_Fin _ _ _ _ (T93.setTop (mkF m 85 #[iv p1, iv p2, iv p3, iv v3_64, rv b67, iv v5_70, rv b71, rv b90, .unset, .unset, .unset, .unset, .unset] [(.ref b93), (.ref b93)]))
      obtain ⟨_, _, ⟨T94, L94, k94, n94⟩, -, X94, ⟨Lc94, hQ94, l94, y94, z94⟩, st94⟩ := X93.specialBack hx (y := (⟨"java/util/ArrayList", "<init>", "()V"⟩ : MethodName)) rfl hown92 (mvT hZ92 (hw _ (List.mem_of_getElem? (i := 33) rfl))) (mvT hZ92 (hw _ (List.mem_of_getElem? (i := 34) rfl))) (mvT hZ92 (hw _ (List.mem_of_getElem? (i := 35) rfl))) (by decide) (backOf (W := 1) (rmali l Z a0 hw [] b93 dd h93 n0 Z93 E_b93 F_modCount_b93 F_elementData_b93 g_b93 Od93 S_DEFAULTCAPACITY_EMPTY_ELEMENTDATA) hZ92 (hw _ (List.mem_of_getElem? (i := 35) rfl)) (hw _ (List.mem_of_getElem? (i := 32) rfl)) (by decide) (by decide)) (g := (mkF m 85 #[iv p1, iv p2, iv p3, iv v3_64, rv b67, iv v5_70, rv b71, rv b90, .unset, .unset, .unset, .unset, .unset] [(.ref b93), (.ref b93)])) rfl (by rw [hml]; rfl) (Steps.refl _) (a := b93) (argsL := []) (rest := [(.ref b93)]) (lenOf pd__28__29_V rfl) rfl (by show 2 * 0 + _ ≤ _; exact Nat.le_of_eq rfl) (hb hby at_85) (fun _ hv => ⟨rfl, e93, (by decide : 7 + 0 ≤ _), (by decide : 12 + 0 ≤ _)⟩)
      dsimp only [Pt.U, Pt.locs, Pt.cells, Pt.slots] at X94 l94 y94 z94 st94 hQ94
      subst l94 y94 z94
      refine own_go st94 ?_
      obtain ⟨rfl, Nq94, K94, r94_0, r94_1, r94_2⟩ := hQ94
      have Od94 := Od93.keep K94 (allS g_b93 all0)
      have V_b67_94 := V_b67_93.keep K94 (ninS ne_b67_b93 nin0)
      have V_b71_94 := V_b71_93.keep K94 (ninS ne_b71_b93 nin0)
      have r92_0_94 := r92_0_93.keep K94
      have V_b91_94 := V_b91_93.keep K94 (ninS ne_b91_b93 nin0)
      have E_b93_94 := E_b93.keep K94
      have Z94 : n0 ≤ T94.heap.size := Nat.le_trans Z93 K94.1
      have hk94 : T92.heap.size ≤ T94.heap.size := Nat.le_trans hk93 K94.1
      have N94 := Fr.app N92 Nq94
      show own_Fin _ _ _ _ (T94.setTop (mkF m 88 #[iv p1, iv p2, iv p3, iv v3_64, rv b67, iv v5_70, rv b71, rv b90, .unset, .unset, .unset, .unset, .unset] [(.ref b93)]))
      refine own_go (XS.astore X94.here hx rfl (hb hby at_88) rfl rfl rfl (Steps.refl _)) ?_
      show own_Fin _ _ _ _ (T94.setTop (mkF m 90 #[iv p1, iv p2, iv p3, iv v3_64, rv b67, iv v5_70, rv b71, rv b90, rv b93, .unset, .unset, .unset, .unset] []))
      obtain ⟨T95, h95, X95, e95, E95, A95, D95, U95, st95⟩ := newO X94 hx hZ92 hown92 (hw _ (List.mem_of_getElem? (i := 54) rfl)) (hw _ (List.mem_of_getElem? (i := 55) rfl)) (hw _ (List.mem_of_getElem? (i := 56) rfl)) rfl (g := (mkF m 90 #[iv p1, iv p2, iv p3, iv v3_64, rv b67, iv v5_70, rv b71, rv b90, rv b93, .unset, .unset, .unset, .unset] [])) rfl (hb hby at_90) (by decide) (by decide)
      obtain ⟨b95, g95⟩ : ∃ z, z = T94.heap.size := ⟨_, rfl⟩
      rw [← g95] at A95 D95 U95 st95
      refine own_by st95 ?_
      have ne_b67_b95 : b67 ≠ b95 := Nat.ne_of_lt (Nat.lt_of_lt_of_eq V_b67_94.lt g95.symm)
      have ne_b71_b95 : b71 ≠ b95 := Nat.ne_of_lt (Nat.lt_of_lt_of_eq V_b71_94.lt g95.symm)
      have ne_b90_b95 : b90 ≠ b95 := Nat.ne_of_lt (Nat.lt_of_lt_of_eq r92_0_94.lt g95.symm)
      have ne_b91_b95 : b91 ≠ b95 := Nat.ne_of_lt (Nat.lt_of_lt_of_eq V_b91_94.lt g95.symm)
      have ne_b93_b95 : b93 ≠ b95 := Nat.ne_of_lt (Nat.lt_of_lt_of_eq r94_0.lt g95.symm)
      have Od95 := Od94.ext E95
      have V_b67_95 := V_b67_94.ext E95
      have V_b71_95 := V_b71_94.ext E95
      have r92_0_95 := r92_0_94.ext E95
      have V_b91_95 := V_b91_94.ext E95
      have r94_0_95 := r94_0.ext E95
      have r94_1_95 := r94_1.ext E95
      have r94_2_95 := r94_2.ext E95
      have g_b95 : n0 ≤ b95 := Nat.le_trans Z94 (Nat.le_of_eq g95.symm)
      have Z95 : n0 ≤ h95.size := Nat.le_trans Z94 E95.1
      have hk95 : T92.heap.size ≤ h95.size := Nat.le_trans hk94 E95.1
      have E_b95 := A95
      have F_status_b95 : Fld Z h95 b95 "com/example/pryority/pryority/Response" "status" "I" (.int (0 : Int32)) := D95 (Or.inr (hw _ (List.mem_of_getElem? (i := 67) rfl))) (ty := .int) (by decide)
      have F_reason_b95 : Fld Z h95 b95 "com/example/pryority/pryority/Response" "reason" "Ljava/lang/String;" .null := D95 (Or.inr (hw _ (List.mem_of_getElem? (i := 69) rfl))) (ty := (.object "java/lang/String")) (by decide)
      have F_fields_b95 : Fld Z h95 b95 "com/example/pryority/pryority/Response" "fields" "Ljava/util/List;" .null := D95 (Or.inr (hw _ (List.mem_of_getElem? (i := 71) rfl))) (ty := (.object "java/util/List")) (by decide)
      have F_body_b95 : Fld Z h95 b95 "com/example/pryority/pryority/Response" "body" "[B" .null := D95 (Or.inr (hw _ (List.mem_of_getElem? (i := 73) rfl))) (ty := (.array .byte)) (by decide)
      have F_truncated_b95 : Fld Z h95 b95 "com/example/pryority/pryority/Response" "truncated" "Z" (.int (0 : Int32)) := D95 (Or.inr (hw _ (List.mem_of_getElem? (i := 75) rfl))) (ty := .boolean) (by decide)
      show own_Fin _ _ _ _ (T95.setTop (mkF m 93 #[iv p1, iv p2, iv p3, iv v3_64, rv b67, iv v5_70, rv b71, rv b90, rv b93, .unset, .unset, .unset, .unset] [(.ref b95)]))
      refine own_go (XS.dup X95.here hx rfl (hb hby at_93) rfl rfl (Steps.refl _)) ?_
      show own_Fin _ _ _ _ (T95.setTop (mkF m 94 #[iv p1, iv p2, iv p3, iv v3_64, rv b67, iv v5_70, rv b71, rv b90, rv b93, .unset, .unset, .unset, .unset] [(.ref b95), (.ref b95)]))
      refine own_go (XS.iload X95.here hx rfl (hb hby at_94) rfl (Steps.refl _)) ?_
      show own_Fin _ _ _ _ (T95.setTop (mkF m 96 #[iv p1, iv p2, iv p3, iv v3_64, rv b67, iv v5_70, rv b71, rv b90, rv b93, .unset, .unset, .unset, .unset] [(.int v5_70), (.ref b95), (.ref b95)]))
      refine own_go (XS.aload X95.here hx rfl (hb hby at_96) rfl rfl (Steps.refl _)) ?_
      show own_Fin _ _ _ _ (T95.setTop (mkF m 98 #[iv p1, iv p2, iv p3, iv v3_64, rv b67, iv v5_70, rv b71, rv b90, rv b93, .unset, .unset, .unset, .unset] [(.ref b90), (.int v5_70), (.ref b95), (.ref b95)]))
      refine own_go (XS.aload X95.here hx rfl (hb hby at_98) rfl rfl (Steps.refl _)) ?_
      show own_Fin _ _ _ _ (T95.setTop (mkF m 100 #[iv p1, iv p2, iv p3, iv v3_64, rv b67, iv v5_70, rv b71, rv b90, rv b93, .unset, .unset, .unset, .unset] [(.ref b93), (.ref b90), (.int v5_70), (.ref b95), (.ref b95)]))
      refine own_go (XS.aload X95.here hx rfl (hb hby at_100) rfl rfl (Steps.refl _)) ?_
      show own_Fin _ _ _ _ (T95.setTop (mkF m 102 #[iv p1, iv p2, iv p3, iv v3_64, rv b67, iv v5_70, rv b71, rv b90, rv b93, .unset, .unset, .unset, .unset] [(.ref b67), (.ref b93), (.ref b90), (.int v5_70), (.ref b95), (.ref b95)]))
      refine own_go (XS.iloadN X95.here hx rfl (hb hby at_102) rfl (Steps.refl _)) ?_
      show own_Fin _ _ _ _ (T95.setTop (mkF m 103 #[iv p1, iv p2, iv p3, iv v3_64, rv b67, iv v5_70, rv b71, rv b90, rv b93, .unset, .unset, .unset, .unset] [(.int v3_64), (.ref b67), (.ref b93), (.ref b90), (.int v5_70), (.ref b95), (.ref b95)]))
      obtain ⟨_, _, ⟨T96, L96, k96, n96⟩, -, X96, ⟨Lc96, hQ96, l96, y96, z96⟩, st96⟩ := X95.specialBack hx (y := (⟨"com/example/pryority/pryority/Response", "<init>", "(ILjava/lang/String;Ljava/util/List;[BZ)V"⟩ : MethodName)) rfl hown92 (mvT hZ92 (hw _ (List.mem_of_getElem? (i := 57) rfl))) (mvT hZ92 (hw _ (List.mem_of_getElem? (i := 58) rfl))) (mvT hZ92 (hw _ (List.mem_of_getElem? (i := 59) rfl))) (by decide) (backOf (W := 1) (rmr5 l Z a0 hw [] b95 v5_70 b90 b93 b67 v3_64 h95 n0 Z95 E_b95 F_status_b95 F_reason_b95 F_fields_b95 F_body_b95 F_truncated_b95 g_b95) hZ92 (hw _ (List.mem_of_getElem? (i := 59) rfl)) (hw _ (List.mem_of_getElem? (i := 56) rfl)) (by decide) (by decide)) (g := (mkF m 103 #[iv p1, iv p2, iv p3, iv v3_64, rv b67, iv v5_70, rv b71, rv b90, rv b93, .unset, .unset, .unset, .unset] [(.int v3_64), (.ref b67), (.ref b93), (.ref b90), (.int v5_70), (.ref b95), (.ref b95)])) rfl (by rw [hml]; rfl) (Steps.refl _) (a := b95) (argsL := [(.int v5_70), (.ref b90), (.ref b93), (.ref b67), (.int v3_64)]) (rest := [(.ref b95)]) (lenOf pd__28_ILjava_2f_lang_2f_String_3b_Ljava_2f_util_2f_List_3b__5b_BZ_29_V rfl) rfl (by show 2 * 0 + _ ≤ _; exact Nat.le_of_eq rfl) (hb hby at_103) (fun _ hv => ⟨rfl, e95, (by decide : 8 + 0 ≤ _), (by decide : 17 + 0 ≤ _)⟩)
      dsimp only [Pt.U, Pt.locs, Pt.cells, Pt.slots] at X96 l96 y96 z96 st96 hQ96
      subst l96 y96 z96
      refine own_go st96 ?_
      obtain ⟨rfl, Nq96, K96, r96_0, r96_1⟩ := hQ96
      have Od96 := Od95.keep K96 (allS g_b95 all0)
      have V_b67_96 := V_b67_95.keep K96 (ninS ne_b67_b95 nin0)
      have V_b71_96 := V_b71_95.keep K96 (ninS ne_b71_b95 nin0)
      have r92_0_96 := r92_0_95.keep K96
      have V_b91_96 := V_b91_95.keep K96 (ninS ne_b91_b95 nin0)
      have r94_0_96 := r94_0_95.keep K96
      have r94_1_96 := r94_1_95.keep K96 (ninS ne_b93_b95 nin0)
      have r94_2_96 := r94_2_95.keep K96 (ninS ne_b93_b95 nin0)
      have E_b95_96 := E_b95.keep K96
      have Z96 : n0 ≤ T96.heap.size := Nat.le_trans Z95 K96.1
      have hk96 : T92.heap.size ≤ T96.heap.size := Nat.le_trans hk95 K96.1
      have N96 := Fr.app N94 Nq96
      show own_Fin _ _ _ _ (T96.setTop (mkF m 106 #[iv p1, iv p2, iv p3, iv v3_64, rv b67, iv v5_70, rv b71, rv b90, rv b93, .unset, .unset, .unset, .unset] [(.ref b95)]))
      refine own_go (XS.astore X96.here hx rfl (hb hby at_106) rfl rfl rfl (Steps.refl _)) ?_
      show own_Fin _ _ _ _ (T96.setTop (mkF m 108 #[iv p1, iv p2, iv p3, iv v3_64, rv b67, iv v5_70, rv b71, rv b90, rv b93, rv b95, .unset, .unset, .unset] []))
      have di97 : Steps p.tables e below (T96.setTop (mkF m 108 #[iv p1, iv p2, iv p3, iv v3_64, rv b67, iv v5_70, rv b71, rv b90, rv b93, rv b95, .unset, .unset, .unset] [])) (T96.setTop (mkF m 123 #[iv p1, iv p2, iv p3, iv v3_64, rv b67, iv v5_70, rv b71, rv b90, rv b93, rv b95, .unset, .unset, .unset] [(.int (own_ex v5_70))])) := by
        refine XS.iload X96.here hx rfl (hb hby at_108) rfl ?_
        show Steps _ _ _ (T96.setTop (mkF m 110 #[iv p1, iv p2, iv p3, iv v3_64, rv b67, iv v5_70, rv b71, rv b90, rv b93, rv b95, .unset, .unset, .unset] [(.int v5_70)])) _
        by_cases c110_98 : v5_70 < (0 : Int32)
        · refine XS.ifYes X96.here hx rfl (pc0 := 110) (pc' := 118) rfl (hb hby at_110) rfl ((if0 _ _).trans (tlt c110_98).1) (by decide) (by decide) ?_
          show Steps _ _ _ (T96.setTop (mkF m 118 #[iv p1, iv p2, iv p3, iv v3_64, rv b67, iv v5_70, rv b71, rv b90, rv b93, rv b95, .unset, .unset, .unset] [])) _
          refine XS.iconst X96.here hx rfl (hb hby at_118) ?_
          show Steps _ _ _ (T96.setTop (mkF m 119 #[iv p1, iv p2, iv p3, iv v3_64, rv b67, iv v5_70, rv b71, rv b90, rv b93, rv b95, .unset, .unset, .unset] [(.int (1 : Int32))])) _
          refine XS.goto X96.here hx rfl (pc0 := 119) (pc' := 123) rfl (hb hby at_119) (by decide) (by decide) ?_
          show Steps _ _ _ (T96.setTop (mkF m 123 #[iv p1, iv p2, iv p3, iv v3_64, rv b67, iv v5_70, rv b71, rv b90, rv b93, rv b95, .unset, .unset, .unset] [(.int (1 : Int32))])) _
          rw [show (own_ex v5_70) = (1 : Int32) from by simp [own_ex, c110_98]]; exact Steps.refl _
        · refine XS.ifNo X96.here hx rfl (hb hby at_110) rfl ((if0 _ _).trans (flt c110_98).1) ?_
          show Steps _ _ _ (T96.setTop (mkF m 113 #[iv p1, iv p2, iv p3, iv v3_64, rv b67, iv v5_70, rv b71, rv b90, rv b93, rv b95, .unset, .unset, .unset] [])) _
          refine XS.iload X96.here hx rfl (hb hby at_113) rfl ?_
          show Steps _ _ _ (T96.setTop (mkF m 115 #[iv p1, iv p2, iv p3, iv v3_64, rv b67, iv v5_70, rv b71, rv b90, rv b93, rv b95, .unset, .unset, .unset] [(.int v5_70)])) _
          by_cases c115_99 : (0 : Int32) < v5_70
          · refine XS.ifNo X96.here hx rfl (hb hby at_115) rfl ((if0 _ _).trans (tlt c115_99).2.2.2) ?_
            show Steps _ _ _ (T96.setTop (mkF m 118 #[iv p1, iv p2, iv p3, iv v3_64, rv b67, iv v5_70, rv b71, rv b90, rv b93, rv b95, .unset, .unset, .unset] [])) _
            refine XS.iconst X96.here hx rfl (hb hby at_118) ?_
            show Steps _ _ _ (T96.setTop (mkF m 119 #[iv p1, iv p2, iv p3, iv v3_64, rv b67, iv v5_70, rv b71, rv b90, rv b93, rv b95, .unset, .unset, .unset] [(.int (1 : Int32))])) _
            refine XS.goto X96.here hx rfl (pc0 := 119) (pc' := 123) rfl (hb hby at_119) (by decide) (by decide) ?_
            show Steps _ _ _ (T96.setTop (mkF m 123 #[iv p1, iv p2, iv p3, iv v3_64, rv b67, iv v5_70, rv b71, rv b90, rv b93, rv b95, .unset, .unset, .unset] [(.int (1 : Int32))])) _
            rw [show (own_ex v5_70) = (1 : Int32) from by simp [own_ex, c110_98, c115_99]]; exact Steps.refl _
          · refine XS.ifYes X96.here hx rfl (pc0 := 115) (pc' := 122) rfl (hb hby at_115) rfl ((if0 _ _).trans (flt c115_99).2.2.2) (by decide) (by decide) ?_
            show Steps _ _ _ (T96.setTop (mkF m 122 #[iv p1, iv p2, iv p3, iv v3_64, rv b67, iv v5_70, rv b71, rv b90, rv b93, rv b95, .unset, .unset, .unset] [])) _
            refine XS.iconst X96.here hx rfl (hb hby at_122) ?_
            show Steps _ _ _ (T96.setTop (mkF m 123 #[iv p1, iv p2, iv p3, iv v3_64, rv b67, iv v5_70, rv b71, rv b90, rv b93, rv b95, .unset, .unset, .unset] [(.int (0 : Int32))])) _
            rw [show (own_ex v5_70) = (0 : Int32) from by simp [own_ex, c110_98, c115_99]]; exact Steps.refl _
      refine own_go di97 ?_
      show own_Fin _ _ _ _ (T96.setTop (mkF m 123 #[iv p1, iv p2, iv p3, iv v3_64, rv b67, iv v5_70, rv b71, rv b90, rv b93, rv b95, .unset, .unset, .unset] [(.int (own_ex v5_70))]))
      refine own_go (XS.istore X96.here hx rfl (hb hby at_123) rfl rfl (Steps.refl _)) ?_
      show own_Fin _ _ _ _ (T96.setTop (mkF m 125 #[iv p1, iv p2, iv p3, iv v3_64, rv b67, iv v5_70, rv b71, rv b90, rv b93, rv b95, iv (own_ex v5_70), .unset, .unset] []))
      generalize hz_v10_100 : (own_ex v5_70) = v10_100
      refine own_go (XS.aload X96.here hx rfl (hb hby at_125) rfl rfl (Steps.refl _)) ?_
      show own_Fin _ _ _ _ (T96.setTop (mkF m 127 #[iv p1, iv p2, iv p3, iv v3_64, rv b67, iv v5_70, rv b71, rv b90, rv b93, rv b95, iv v10_100, .unset, .unset] [(.ref b95)]))
      obtain ⟨cq101, kq101, q101a, q101b, q101c⟩ := isOf hZ92 rfl r96_0
      obtain ⟨_, _, ⟨T101, L101, k101, n101⟩, -, X101, ⟨Lc101, hQ101, l101, y101, z101⟩, st101⟩ := X96.virtualBack hx (y := (⟨"com/example/pryority/pryority/Response", "isAnswer", "()Z"⟩ : MethodName)) (z := (⟨"com/example/pryority/pryority/Response", "isAnswer", "()Z"⟩ : MethodName)) hown92 (mvT hZ92 (hw _ (List.mem_of_getElem? (i := 76) rfl))) (mvT hZ92 (hw _ (List.mem_of_getElem? (i := 77) rfl))) (notFace_of_selects (args := #[]) (mvT hZ92 (hw _ (List.mem_of_getElem? (i := 79) rfl)))) (mvT hZ92 (hw _ (List.mem_of_getElem? (i := 79) rfl))) (mvT hZ92 (hw _ (List.mem_of_getElem? (i := 78) rfl))) (by decide) (backOf (W := 0) (rmia l Z a0 hw [] b95 v5_70 T96.heap n0 Z96 r96_1) hZ92 (hw _ (List.mem_of_getElem? (i := 80) rfl)) (hw _ (List.mem_of_getElem? (i := 56) rfl)) (by decide) (by decide)) q101a q101c (g := (mkF m 127 #[iv p1, iv p2, iv p3, iv v3_64, rv b67, iv v5_70, rv b71, rv b90, rv b93, rv b95, iv v10_100, .unset, .unset] [(.ref b95)])) rfl (by rw [hml]; rfl) (Steps.refl _) (argsL := []) (rest := []) (lenOf pd__28__29_Z rfl) rfl (by show 2 * 0 + _ ≤ _; exact Nat.le_of_eq rfl) (hb hby at_127) (fun _ hv => ⟨rfl, rfl, (by decide : 8 + 0 ≤ _), (by decide : 17 + 0 ≤ _)⟩)
      dsimp only [Pt.U, Pt.locs, Pt.cells, Pt.slots] at X101 l101 y101 z101 st101 hQ101
      subst l101 y101 z101
      obtain ⟨rfl, Nq101, e101⟩ := hQ101
      refine own_go st101 ?_
      have N101 := Fr.app N96 Nq101
      show own_Fin _ _ _ _ (T101.setTop (mkF m 130 #[iv p1, iv p2, iv p3, iv v3_64, rv b67, iv v5_70, rv b71, rv b90, rv b93, rv b95, iv v10_100, .unset, .unset] [(.int (own_an v5_70))]))
      refine own_go (XS.istore X101.here hx rfl (hb hby at_130) rfl rfl (Steps.refl _)) ?_
      show own_Fin _ _ _ _ (T101.setTop (mkF m 132 #[iv p1, iv p2, iv p3, iv v3_64, rv b67, iv v5_70, rv b71, rv b90, rv b93, rv b95, iv v10_100, iv (own_an v5_70), .unset] []))
      generalize hz_v11_102 : (own_an v5_70) = v11_102
      obtain ⟨_, _, ⟨T103, L103, k103, n103⟩, -, X103, hs2103, hgr103, ⟨Lc103, hQ103, l103, y103, z103⟩, st103⟩ := callSS X101 hx (y := (⟨"com/example/pryority/pryority/Response", "noAnswer", "()Lcom/example/pryority/pryority/Response;"⟩ : MethodName)) hown92 (mvT hZ92 (hw _ (List.mem_of_getElem? (i := 81) rfl))) (mvT hZ92 (hw _ (List.mem_of_getElem? (i := 82) rfl))) (mvT hZ92 (hw _ (List.mem_of_getElem? (i := 56) rfl))) (mvT hZ92 (hw _ (List.mem_of_getElem? (i := 83) rfl))) (by decide) (backOfS (W := 0) (rmna l Z a0 hw [] el T96.heap n0 Z96 Od96 S_EMPTY_LIST) hZ92 (hw _ (List.mem_of_getElem? (i := 83) rfl)) (hw _ (List.mem_of_getElem? (i := 56) rfl)) (by decide) (by decide)) (g := (mkF m 132 #[iv p1, iv p2, iv p3, iv v3_64, rv b67, iv v5_70, rv b71, rv b90, rv b93, rv b95, iv v10_100, iv v11_102, .unset] [])) rfl (by rw [hml]; rfl) (argsL := []) (rest := []) (lenOf pd__28__29_Lcom_2f_example_2f_pryority_2f_pryority_2f_Response_3b_ rfl) rfl (by show 2 * 0 + _ ≤ _; exact Nat.le_of_eq rfl) (hb hby at_132) (fun _ hv => ⟨rfl, e101, (by decide : 8 + 4 ≤ _), (by decide : 17 + 9 ≤ _)⟩)
      dsimp only [Pt.U, Pt.locs, Pt.cells, Pt.slots] at X103 l103 y103 z103 st103 hQ103 hs2103 hgr103
      subst l103 y103 z103
      obtain ⟨Xr103, hS103, hZ103, hown103⟩ := rebS hS92 (show T92.heap.size ≤ T101.heap.size by rw [e101]; exact hk96) X103 hs2103 hgr103 hZ92 hown92
      refine own_go st103 ?_
      obtain ⟨r_103, rfl, Nq103, K103, g_r_103, sb_r_103, r103_0, r103_1⟩ := hQ103
      have ne_b67_r_103 : b67 ≠ r_103 := Nat.ne_of_lt (Nat.lt_of_lt_of_le V_b67_96.lt sb_r_103)
      have ne_b71_r_103 : b71 ≠ r_103 := Nat.ne_of_lt (Nat.lt_of_lt_of_le V_b71_96.lt sb_r_103)
      have ne_b90_r_103 : b90 ≠ r_103 := Nat.ne_of_lt (Nat.lt_of_lt_of_le r92_0_96.lt sb_r_103)
      have ne_b91_r_103 : b91 ≠ r_103 := Nat.ne_of_lt (Nat.lt_of_lt_of_le V_b91_96.lt sb_r_103)
      have ne_b93_r_103 : b93 ≠ r_103 := Nat.ne_of_lt (Nat.lt_of_lt_of_le r94_0_96.lt sb_r_103)
      have ne_b95_r_103 : b95 ≠ r_103 := Nat.ne_of_lt (Nat.lt_of_lt_of_le r96_0.lt sb_r_103)
      have Od103 := Od96.keep K103 all0
      have V_b67_103 := V_b67_96.keep K103 nin0
      have V_b71_103 := V_b71_96.keep K103 nin0
      have r92_0_103 := r92_0_96.keep K103
      have V_b91_103 := V_b91_96.keep K103 nin0
      have r94_0_103 := r94_0_96.keep K103
      have r94_1_103 := r94_1_96.keep K103 nin0
      have r94_2_103 := r94_2_96.keep K103 nin0
      have r96_0_103 := r96_0.keep K103
      have r96_1_103 := r96_1.keep K103 nin0
      have Z103 : n0 ≤ T103.heap.size := Nat.le_trans Z96 K103.1
      have hk103 : T92.heap.size ≤ T103.heap.size := Nat.le_trans hk96 K103.1
      have hkr103 : T103.heap.size ≤ T103.heap.size := Nat.le_refl _
      have N103 := Fr.app N101 Nq103
      show own_Fin _ _ _ _ (T103.setTop (mkF m 135 #[iv p1, iv p2, iv p3, iv v3_64, rv b67, iv v5_70, rv b71, rv b90, rv b93, rv b95, iv v10_100, iv v11_102, .unset] [(.ref r_103)]))
      refine own_go (XS.astore Xr103.here hx rfl (hb hby at_135) rfl rfl rfl (Steps.refl _)) ?_
      show own_Fin _ _ _ _ (T103.setTop (mkF m 137 #[iv p1, iv p2, iv p3, iv v3_64, rv b67, iv v5_70, rv b71, rv b90, rv b93, rv b95, iv v10_100, iv v11_102, rv r_103] []))
      refine own_go (XS.iload Xr103.here hx rfl (hb hby at_137) rfl (Steps.refl _)) ?_
      show own_Fin _ _ _ _ (T103.setTop (mkF m 139 #[iv p1, iv p2, iv p3, iv v3_64, rv b67, iv v5_70, rv b71, rv b90, rv b93, rv b95, iv v10_100, iv v11_102, rv r_103] [(.int v11_102)]))
      refine own_go (XS.iload Xr103.here hx rfl (hb hby at_139) rfl (Steps.refl _)) ?_
      show own_Fin _ _ _ _ (T103.setTop (mkF m 141 #[iv p1, iv p2, iv p3, iv v3_64, rv b67, iv v5_70, rv b71, rv b90, rv b93, rv b95, iv v10_100, iv v11_102, rv r_103] [(.int v10_100), (.int v11_102)]))
      refine own_go (XS.icmpNo Xr103.here hx rfl (hb hby at_141) rfl (teq (show v11_102 = v10_100 from (by rw [← hz_v11_102, ← hz_v10_100]; exact own_exan _))).2 (Steps.refl _)) ?_
      show own_Fin _ _ _ _ (T103.setTop (mkF m 144 #[iv p1, iv p2, iv p3, iv v3_64, rv b67, iv v5_70, rv b71, rv b90, rv b93, rv b95, iv v10_100, iv v11_102, rv r_103] []))
      refine own_go (XS.aload Xr103.here hx rfl (hb hby at_144) rfl rfl (Steps.refl _)) ?_
      show own_Fin _ _ _ _ (T103.setTop (mkF m 146 #[iv p1, iv p2, iv p3, iv v3_64, rv b67, iv v5_70, rv b71, rv b90, rv b93, rv b95, iv v10_100, iv v11_102, rv r_103] [(.ref r_103)]))
      obtain ⟨cq104, kq104, q104a, q104b, q104c⟩ := isOf hZ103 rfl r103_0
      obtain ⟨_, _, ⟨T104, L104, k104, n104⟩, -, X104, ⟨Lc104, hQ104, l104, y104, z104⟩, st104⟩ := Xr103.virtualBack hx (y := (⟨"com/example/pryority/pryority/Response", "isAnswer", "()Z"⟩ : MethodName)) (z := (⟨"com/example/pryority/pryority/Response", "isAnswer", "()Z"⟩ : MethodName)) hown103 (mvT hZ103 (hw _ (List.mem_of_getElem? (i := 76) rfl))) (mvT hZ103 (hw _ (List.mem_of_getElem? (i := 77) rfl))) (notFace_of_selects (args := #[]) (mvT hZ103 (hw _ (List.mem_of_getElem? (i := 79) rfl)))) (mvT hZ103 (hw _ (List.mem_of_getElem? (i := 79) rfl))) (mvT hZ103 (hw _ (List.mem_of_getElem? (i := 78) rfl))) (by decide) (backOf (W := 0) (rmia l Z a0 hw [] r_103 (0 : Int32) T103.heap n0 Z103 r103_1) hZ103 (hw _ (List.mem_of_getElem? (i := 80) rfl)) (hw _ (List.mem_of_getElem? (i := 56) rfl)) (by decide) (by decide)) q104a q104c (g := (mkF m 146 #[iv p1, iv p2, iv p3, iv v3_64, rv b67, iv v5_70, rv b71, rv b90, rv b93, rv b95, iv v10_100, iv v11_102, rv r_103] [(.ref r_103)])) rfl (by rw [hml]; rfl) (Steps.refl _) (argsL := []) (rest := []) (lenOf pd__28__29_Z rfl) rfl (by show 2 * 0 + _ ≤ _; exact Nat.le_of_eq rfl) (hb hby at_146) (fun _ hv => ⟨rfl, rfl, (by decide : 12 + 0 ≤ _), (by decide : 26 + 0 ≤ _)⟩)
      dsimp only [Pt.U, Pt.locs, Pt.cells, Pt.slots] at X104 l104 y104 z104 st104 hQ104
      subst l104 y104 z104
      obtain ⟨rfl, Nq104, e104⟩ := hQ104
      refine own_go st104 ?_
      have N104 := Fr.app N103 Nq104
      show own_Fin _ _ _ _ (T104.setTop (mkF m 149 #[iv p1, iv p2, iv p3, iv v3_64, rv b67, iv v5_70, rv b71, rv b90, rv b93, rv b95, iv v10_100, iv v11_102, rv r_103] [(.int (own_an (0 : Int32)))]))
      refine own_go (XS.ifNo X104.here hx rfl (hb hby at_149) rfl ((if0 _ _).trans (teq (show (own_an (0 : Int32)) = (0 : Int32) from rfl)).2) (Steps.refl _)) ?_
      show own_Fin _ _ _ _ (T104.setTop (mkF m 152 #[iv p1, iv p2, iv p3, iv v3_64, rv b67, iv v5_70, rv b71, rv b90, rv b93, rv b95, iv v10_100, iv v11_102, rv r_103] []))
      refine own_go (XS.iconst X104.here hx rfl (hb hby at_152) (Steps.refl _)) ?_
      show own_Fin _ _ _ _ (T104.setTop (mkF m 153 #[iv p1, iv p2, iv p3, iv v3_64, rv b67, iv v5_70, rv b71, rv b90, rv b93, rv b95, iv v10_100, iv v11_102, rv r_103] [(.int (1 : Int32))]))
      refine own_go (XS.goto X104.here hx rfl (pc0 := 153) (pc' := 157) rfl (hb hby at_153) (by decide) (by decide) (Steps.refl _)) ?_
      show own_Fin _ _ _ _ (T104.setTop (mkF m 157 #[iv p1, iv p2, iv p3, iv v3_64, rv b67, iv v5_70, rv b71, rv b90, rv b93, rv b95, iv v10_100, iv v11_102, rv r_103] [(.int (1 : Int32))]))
      obtain ⟨fs105, hr105, hrun105, hended105, hRW105⟩ := X104.leaveW (s := s) hS103 (n := T103.heap.size) (by rw [e104]; exact hkr103) (v := some (.int (1 : Int32))) (fun h => by rw [Bd.returns] at h; cases h)
      refine own_done (retN X104 hx (t := .boolean) Bd.returns (by simp) (hb hby at_157) hr105) hrun105 hended105 ⟨_, _, rfl, ?_, hRW105.1, hRW105.2.1, hRW105.2.2.1, hRW105.2.2.2.mono (by decide) (by decide)⟩
      show Q0 Z p1 p2 p3 cs dd el h0 n0 _ T104.heap _
      rw [e104]
      exact ⟨rfl, N104⟩
  · show own_Fin _ _ _ _ (s₁.setTop (mkF m 17 #[iv p1, iv p2, iv p3, iv v3_64, .unset, .unset, .unset, .unset, .unset, .unset, .unset, .unset, .unset] [(.int (1 : Int32))]))
    obtain ⟨T106, h106, k106, X106, e106, E106, A106, st106⟩ := newP X0w hx hZ (hw _ (List.mem_of_getElem? (i := 0) rfl)) e0 (g := (mkF m 17 #[iv p1, iv p2, iv p3, iv v3_64, .unset, .unset, .unset, .unset, .unset, .unset, .unset, .unset, .unset] [(.int (1 : Int32))])) rfl (hb hby at_17) rfl (by decide) (cap := 1) (by decide) (by decide) (by decide) (by decide)
    obtain ⟨b106, g106⟩ : ∃ z, z = h0.size := ⟨_, rfl⟩
    rw [← g106] at A106 st106
    refine own_by st106 ?_
    have Od106 := O0.ext E106
    have g_b106 : n0 ≤ b106 := Nat.le_trans Z0 (Nat.le_of_eq g106.symm)
    have Z106 : n0 ≤ h106.size := Nat.le_trans Z0 E106.1
    have hk106 : 0 ≤ h106.size := Nat.le_trans hk0 E106.1
    have V_b106 : Arv Z h106 b106 k106 .byte (1 : Int32) [(.int (0 : Int32))] (.int (0 : Int32)) := (Arv.new A106 (by decide)).pad (pad_rep [] (.int (0 : Int32)) 1)
    show own_Fin _ _ _ _ (T106.setTop (mkF m 19 #[iv p1, iv p2, iv p3, iv v3_64, .unset, .unset, .unset, .unset, .unset, .unset, .unset, .unset, .unset] [(.ref b106)]))
    refine own_go (XS.astore X106.here hx rfl (hb hby at_19) rfl rfl rfl (Steps.refl _)) ?_
    show own_Fin _ _ _ _ (T106.setTop (mkF m 21 #[iv p1, iv p2, iv p3, iv v3_64, rv b106, .unset, .unset, .unset, .unset, .unset, .unset, .unset, .unset] []))
    refine own_go (XS.iloadN X106.here hx rfl (hb hby at_21) rfl (Steps.refl _)) ?_
    show own_Fin _ _ _ _ (T106.setTop (mkF m 22 #[iv p1, iv p2, iv p3, iv v3_64, rv b106, .unset, .unset, .unset, .unset, .unset, .unset, .unset, .unset] [(.int p2)]))
    refine own_go (XS.bipush X106.here hx rfl (hb hby at_22) (Steps.refl _)) ?_
    show own_Fin _ _ _ _ (T106.setTop (mkF m 24 #[iv p1, iv p2, iv p3, iv v3_64, rv b106, .unset, .unset, .unset, .unset, .unset, .unset, .unset, .unset] [(.int (8 : Int32)), (.int p2)]))
    refine own_go (XS.iand X106.here hx rfl (hb hby at_24) rfl (Steps.refl _)) ?_
    show own_Fin _ _ _ _ (T106.setTop (mkF m 25 #[iv p1, iv p2, iv p3, iv v3_64, rv b106, .unset, .unset, .unset, .unset, .unset, .unset, .unset, .unset] [(.int (p2 &&& (8 : Int32)))]))
    have di107 : Steps p.tables e below (T106.setTop (mkF m 25 #[iv p1, iv p2, iv p3, iv v3_64, rv b106, .unset, .unset, .unset, .unset, .unset, .unset, .unset, .unset] [(.int (p2 &&& (8 : Int32)))])) (T106.setTop (mkF m 33 #[iv p1, iv p2, iv p3, iv v3_64, rv b106, .unset, .unset, .unset, .unset, .unset, .unset, .unset, .unset] [(.int (own_st (p2 &&& (8 : Int32)) p1))])) := by
      by_cases c25_108 : (p2 &&& (8 : Int32)) = (0 : Int32)
      · refine XS.ifYes X106.here hx rfl (pc0 := 25) (pc' := 32) rfl (hb hby at_25) rfl ((if0 _ _).trans (teq c25_108).1) (by decide) (by decide) ?_
        show Steps _ _ _ (T106.setTop (mkF m 32 #[iv p1, iv p2, iv p3, iv v3_64, rv b106, .unset, .unset, .unset, .unset, .unset, .unset, .unset, .unset] [])) _
        refine XS.iloadN X106.here hx rfl (hb hby at_32) rfl ?_
        show Steps _ _ _ (T106.setTop (mkF m 33 #[iv p1, iv p2, iv p3, iv v3_64, rv b106, .unset, .unset, .unset, .unset, .unset, .unset, .unset, .unset] [(.int p1)])) _
        rw [show (own_st (p2 &&& (8 : Int32)) p1) = p1 from by simp [own_st, c25_108]]; exact Steps.refl _
      · refine XS.ifNo X106.here hx rfl (hb hby at_25) rfl ((if0 _ _).trans (feq c25_108).1) ?_
        show Steps _ _ _ (T106.setTop (mkF m 28 #[iv p1, iv p2, iv p3, iv v3_64, rv b106, .unset, .unset, .unset, .unset, .unset, .unset, .unset, .unset] [])) _
        refine XS.iconst X106.here hx rfl (hb hby at_28) ?_
        show Steps _ _ _ (T106.setTop (mkF m 29 #[iv p1, iv p2, iv p3, iv v3_64, rv b106, .unset, .unset, .unset, .unset, .unset, .unset, .unset, .unset] [(.int (0 : Int32))])) _
        refine XS.goto X106.here hx rfl (pc0 := 29) (pc' := 33) rfl (hb hby at_29) (by decide) (by decide) ?_
        show Steps _ _ _ (T106.setTop (mkF m 33 #[iv p1, iv p2, iv p3, iv v3_64, rv b106, .unset, .unset, .unset, .unset, .unset, .unset, .unset, .unset] [(.int (0 : Int32))])) _
        rw [show (own_st (p2 &&& (8 : Int32)) p1) = (0 : Int32) from by simp [own_st, c25_108]]; exact Steps.refl _
    refine own_go di107 ?_
    show own_Fin _ _ _ _ (T106.setTop (mkF m 33 #[iv p1, iv p2, iv p3, iv v3_64, rv b106, .unset, .unset, .unset, .unset, .unset, .unset, .unset, .unset] [(.int (own_st (p2 &&& (8 : Int32)) p1))]))
    refine own_go (XS.istore X106.here hx rfl (hb hby at_33) rfl rfl (Steps.refl _)) ?_
    show own_Fin _ _ _ _ (T106.setTop (mkF m 35 #[iv p1, iv p2, iv p3, iv v3_64, rv b106, iv (own_st (p2 &&& (8 : Int32)) p1), .unset, .unset, .unset, .unset, .unset, .unset, .unset] []))
    generalize hz_v5_109 : (own_st (p2 &&& (8 : Int32)) p1) = v5_109
    refine own_go (XS.iconst X106.here hx rfl (hb hby at_35) (Steps.refl _)) ?_
    show own_Fin _ _ _ _ (T106.setTop (mkF m 36 #[iv p1, iv p2, iv p3, iv v3_64, rv b106, iv v5_109, .unset, .unset, .unset, .unset, .unset, .unset, .unset] [(.int (1 : Int32))]))
    obtain ⟨T110, h110, k110, X110, e110, E110, A110, st110⟩ := newP X106 hx hZ (hw _ (List.mem_of_getElem? (i := 1) rfl)) e106 (g := (mkF m 36 #[iv p1, iv p2, iv p3, iv v3_64, rv b106, iv v5_109, .unset, .unset, .unset, .unset, .unset, .unset, .unset] [(.int (1 : Int32))])) rfl (hb hby at_36) rfl (by decide) (cap := 1) (by decide) (by decide) (by decide) (by decide)
    obtain ⟨b110, g110⟩ : ∃ z, z = h106.size := ⟨_, rfl⟩
    rw [← g110] at A110 st110
    refine own_by st110 ?_
    have ne_b106_b110 : b106 ≠ b110 := Nat.ne_of_lt (Nat.lt_of_lt_of_eq V_b106.lt g110.symm)
    have Od110 := Od106.ext E110
    have V_b106_110 := V_b106.ext E110
    have g_b110 : n0 ≤ b110 := Nat.le_trans Z106 (Nat.le_of_eq g110.symm)
    have Z110 : n0 ≤ h110.size := Nat.le_trans Z106 E110.1
    have hk110 : 0 ≤ h110.size := Nat.le_trans hk106 E110.1
    have V_b110 : Arv Z h110 b110 k110 .char (1 : Int32) [(.int (0 : Int32))] (.int (0 : Int32)) := (Arv.new A110 (by decide)).pad (pad_rep [] (.int (0 : Int32)) 1)
    show own_Fin _ _ _ _ (T110.setTop (mkF m 38 #[iv p1, iv p2, iv p3, iv v3_64, rv b106, iv v5_109, .unset, .unset, .unset, .unset, .unset, .unset, .unset] [(.ref b110)]))
    refine own_go (XS.astore X110.here hx rfl (hb hby at_38) rfl rfl rfl (Steps.refl _)) ?_
    show own_Fin _ _ _ _ (T110.setTop (mkF m 40 #[iv p1, iv p2, iv p3, iv v3_64, rv b106, iv v5_109, rv b110, .unset, .unset, .unset, .unset, .unset, .unset] []))
    refine own_go (XS.aload X110.here hx rfl (hb hby at_40) rfl rfl (Steps.refl _)) ?_
    show own_Fin _ _ _ _ (T110.setTop (mkF m 42 #[iv p1, iv p2, iv p3, iv v3_64, rv b106, iv v5_109, rv b110, .unset, .unset, .unset, .unset, .unset, .unset] [(.ref b110)]))
    refine own_go (XS.iconst X110.here hx rfl (hb hby at_42) (Steps.refl _)) ?_
    show own_Fin _ _ _ _ (T110.setTop (mkF m 43 #[iv p1, iv p2, iv p3, iv v3_64, rv b106, iv v5_109, rv b110, .unset, .unset, .unset, .unset, .unset, .unset] [(.int (0 : Int32)), (.ref b110)]))
    refine own_go (XS.iloadN X110.here hx rfl (hb hby at_43) rfl (Steps.refl _)) ?_
    show own_Fin _ _ _ _ (T110.setTop (mkF m 44 #[iv p1, iv p2, iv p3, iv v3_64, rv b106, iv v5_109, rv b110, .unset, .unset, .unset, .unset, .unset, .unset] [(.int p3), (.int (0 : Int32)), (.ref b110)]))
    refine own_go (XS.sipush X110.here hx rfl (hb hby at_44) (Steps.refl _)) ?_
    show own_Fin _ _ _ _ (T110.setTop (mkF m 47 #[iv p1, iv p2, iv p3, iv v3_64, rv b106, iv v5_109, rv b110, .unset, .unset, .unset, .unset, .unset, .unset] [(.int (255 : Int32)), (.int p3), (.int (0 : Int32)), (.ref b110)]))
    refine own_go (XS.iand X110.here hx rfl (hb hby at_47) rfl (Steps.refl _)) ?_
    show own_Fin _ _ _ _ (T110.setTop (mkF m 48 #[iv p1, iv p2, iv p3, iv v3_64, rv b106, iv v5_109, rv b110, .unset, .unset, .unset, .unset, .unset, .unset] [(.int (p3 &&& (255 : Int32))), (.int (0 : Int32)), (.ref b110)]))
    refine own_go (XS.i2c X110.here hx rfl (hb hby at_48) rfl (Steps.refl _)) ?_
    show own_Fin _ _ _ _ (T110.setTop (mkF m 49 #[iv p1, iv p2, iv p3, iv v3_64, rv b106, iv v5_109, rv b110, .unset, .unset, .unset, .unset, .unset, .unset] [(.int ((p3 &&& (255 : Int32)).toUInt32.toUInt16.toUInt32.toInt32)), (.int (0 : Int32)), (.ref b110)]))
    obtain ⟨cl111, Ar111, qa111, Sa111, Na111, Ha111, Ga111⟩ := id V_b110
    have hin111 : ¬ ((0 : Int32) < 0 ∨ cl111.slots.size ≤ ((0 : Int32)).toNatClampNeg) := inb_of Sa111 ⟨by decide, by decide⟩
    obtain ⟨T112, h112, X112, e112, W112, st112⟩ := stC X110 hx hZ e110 Ar111 (j := (0 : Int32)) hin111 (g := (mkF m 49 #[iv p1, iv p2, iv p3, iv v3_64, rv b106, iv v5_109, rv b110, .unset, .unset, .unset, .unset, .unset, .unset] [(.int ((p3 &&& (255 : Int32)).toUInt32.toUInt16.toUInt32.toInt32)), (.int (0 : Int32)), (.ref b110)])) rfl rfl (hb hby at_49)
    refine own_by st112 ?_
    have hnr112 : nar .char ((p3 &&& (255 : Int32)).toUInt32.toUInt16.toUInt32.toInt32) = (p3 &&& (255 : Int32)) := own_nc _
    rw [hnr112] at W112
    have V_b110_112 : Arv Z h112 b110 k110 .char (1 : Int32) [(.int (p3 &&& (255 : Int32)))] (.int (0 : Int32)) := Arv.set Ar111 qa111 Sa111 Na111 Ha111 Ga111 (hnr112 ▸ fits_nar_char ((p3 &&& (255 : Int32)).toUInt32.toUInt16.toUInt32.toInt32)) W112 0 rfl (Nat.le_of_ble_eq_true rfl)
    have Od112 := Od110.wr W112 g_b110
    have V_b106_112 := V_b106_110.other W112 ne_b106_b110
    have N112 := Fr.snoc X112 N0 g_b110
    have Z112 : n0 ≤ h112.size := Nat.le_trans Z110 (Keep.of_wr W112).1
    have hk112 : 0 ≤ h112.size := Nat.le_trans hk110 (Keep.of_wr W112).1
    show own_Fin _ _ _ _ (T112.setTop (mkF m 50 #[iv p1, iv p2, iv p3, iv v3_64, rv b106, iv v5_109, rv b110, .unset, .unset, .unset, .unset, .unset, .unset] []))
    refine own_go (XS.iloadN X112.here hx rfl (hb hby at_50) rfl (Steps.refl _)) ?_
    show own_Fin _ _ _ _ (T112.setTop (mkF m 51 #[iv p1, iv p2, iv p3, iv v3_64, rv b106, iv v5_109, rv b110, .unset, .unset, .unset, .unset, .unset, .unset] [(.int p2)]))
    refine own_go (XS.bipush X112.here hx rfl (hb hby at_51) (Steps.refl _)) ?_
    show own_Fin _ _ _ _ (T112.setTop (mkF m 53 #[iv p1, iv p2, iv p3, iv v3_64, rv b106, iv v5_109, rv b110, .unset, .unset, .unset, .unset, .unset, .unset] [(.int (16 : Int32)), (.int p2)]))
    refine own_go (XS.iand X112.here hx rfl (hb hby at_53) rfl (Steps.refl _)) ?_
    show own_Fin _ _ _ _ (T112.setTop (mkF m 54 #[iv p1, iv p2, iv p3, iv v3_64, rv b106, iv v5_109, rv b110, .unset, .unset, .unset, .unset, .unset, .unset] [(.int (p2 &&& (16 : Int32)))]))
    by_cases c54_113 : (p2 &&& (16 : Int32)) = (0 : Int32)
    · refine own_go (XS.ifYes X112.here hx rfl (pc0 := 54) (pc' := 70) rfl (hb hby at_54) rfl ((if0 _ _).trans (teq c54_113).1) (by decide) (by decide) (Steps.refl _)) ?_
      show own_Fin _ _ _ _ (T112.setTop (mkF m 70 #[iv p1, iv p2, iv p3, iv v3_64, rv b106, iv v5_109, rv b110, .unset, .unset, .unset, .unset, .unset, .unset] []))
      obtain ⟨T114, h114, X114, e114, E114, A114, D114, U114, st114⟩ := newO X112 hx hZ hown (hw _ (List.mem_of_getElem? (i := 2) rfl)) (hw _ (List.mem_of_getElem? (i := 3) rfl)) (hw _ (List.mem_of_getElem? (i := 4) rfl)) e112 (g := (mkF m 70 #[iv p1, iv p2, iv p3, iv v3_64, rv b106, iv v5_109, rv b110, .unset, .unset, .unset, .unset, .unset, .unset] [])) rfl (hb hby at_70) (by decide) (by decide)
      obtain ⟨b114, g114⟩ : ∃ z, z = h112.size := ⟨_, rfl⟩
      rw [← g114] at A114 D114 U114 st114
      refine own_by st114 ?_
      have ne_b106_b114 : b106 ≠ b114 := Nat.ne_of_lt (Nat.lt_of_lt_of_eq V_b106_112.lt g114.symm)
      have ne_b110_b114 : b110 ≠ b114 := Nat.ne_of_lt (Nat.lt_of_lt_of_eq V_b110_112.lt g114.symm)
      have Od114 := Od112.ext E114
      have V_b106_114 := V_b106_112.ext E114
      have V_b110_114 := V_b110_112.ext E114
      have g_b114 : n0 ≤ b114 := Nat.le_trans Z112 (Nat.le_of_eq g114.symm)
      have Z114 : n0 ≤ h114.size := Nat.le_trans Z112 E114.1
      have hk114 : 0 ≤ h114.size := Nat.le_trans hk112 E114.1
      have E_b114 := A114
      have F_coder_b114 : Fld Z h114 b114 "java/lang/String" "coder" "B" (.int (0 : Int32)) := D114 (Or.inr (hw _ (List.mem_of_getElem? (i := 27) rfl))) (ty := .byte) (by decide)
      have F_value_b114 : Fld Z h114 b114 "java/lang/String" "value" "[B" .null := D114 (Or.inr (hw _ (List.mem_of_getElem? (i := 29) rfl))) (ty := (.array .byte)) (by decide)
      show own_Fin _ _ _ _ (T114.setTop (mkF m 73 #[iv p1, iv p2, iv p3, iv v3_64, rv b106, iv v5_109, rv b110, .unset, .unset, .unset, .unset, .unset, .unset] [(.ref b114)]))
      refine own_go (XS.dup X114.here hx rfl (hb hby at_73) rfl rfl (Steps.refl _)) ?_
      show own_Fin _ _ _ _ (T114.setTop (mkF m 74 #[iv p1, iv p2, iv p3, iv v3_64, rv b106, iv v5_109, rv b110, .unset, .unset, .unset, .unset, .unset, .unset] [(.ref b114), (.ref b114)]))
      refine own_go (XS.aload X114.here hx rfl (hb hby at_74) rfl rfl (Steps.refl _)) ?_
      show own_Fin _ _ _ _ (T114.setTop (mkF m 76 #[iv p1, iv p2, iv p3, iv v3_64, rv b106, iv v5_109, rv b110, .unset, .unset, .unset, .unset, .unset, .unset] [(.ref b110), (.ref b114), (.ref b114)]))
      obtain ⟨_, _, ⟨T115, L115, k115, n115⟩, -, X115, ⟨Lc115, hQ115, l115, y115, z115⟩, st115⟩ := X114.specialBack hx (y := (⟨"java/lang/String", "<init>", "([C)V"⟩ : MethodName)) rfl hown (mvT hZ (hw _ (List.mem_of_getElem? (i := 5) rfl))) (mvT hZ (hw _ (List.mem_of_getElem? (i := 6) rfl))) (mvT hZ (hw _ (List.mem_of_getElem? (i := 7) rfl))) (by decide) (backOf (W := 1) (rmstr_1 l Z a0 hw [] b114 b110 k110 cs (p3 &&& (255 : Int32)) h114 n0 Z114 E_b114 F_value_b114 F_coder_b114 g_b114 Od114 S_COMPACT_STRINGS hcs V_b110_114 (own_lt p3)) hZ (hw _ (List.mem_of_getElem? (i := 7) rfl)) (hw _ (List.mem_of_getElem? (i := 4) rfl)) (by decide) (by decide)) (g := (mkF m 76 #[iv p1, iv p2, iv p3, iv v3_64, rv b106, iv v5_109, rv b110, .unset, .unset, .unset, .unset, .unset, .unset] [(.ref b110), (.ref b114), (.ref b114)])) rfl (by rw [hml]; rfl) (Steps.refl _) (a := b114) (argsL := [(.ref b110)]) (rest := [(.ref b114)]) (lenOf pd__28__5b_C_29_V rfl) rfl (by show 2 * 0 + _ ≤ _; exact Nat.le_of_eq rfl) (hb hby at_76) (fun _ hv => ⟨rfl, e114, (by decide : 3 + 1 ≤ _), (by decide : 6 + 1 ≤ _)⟩)
      dsimp only [Pt.U, Pt.locs, Pt.cells, Pt.slots] at X115 l115 y115 z115 st115 hQ115
      subst l115 y115 z115
      refine own_go st115 ?_
      obtain ⟨b_115, kb_115, rfl, Nq115, K115, g_b_115, sb_b_115, r115_0, r115_1, r115_2, r115_3⟩ := hQ115
      have ne_b106_b_115 : b106 ≠ b_115 := Nat.ne_of_lt (Nat.lt_of_lt_of_le V_b106_114.lt sb_b_115)
      have ne_b110_b_115 : b110 ≠ b_115 := Nat.ne_of_lt (Nat.lt_of_lt_of_le V_b110_114.lt sb_b_115)
      have ne_b114_b_115 : b114 ≠ b_115 := Nat.ne_of_lt (Nat.lt_of_lt_of_le E_b114.lt sb_b_115)
      have Od115 := Od114.keep K115 (allS g_b114 all0)
      have V_b106_115 := V_b106_114.keep K115 (ninS ne_b106_b114 nin0)
      have V_b110_115 := V_b110_114.keep K115 (ninS ne_b110_b114 nin0)
      have E_b114_115 := E_b114.keep K115
      have Z115 : n0 ≤ T115.heap.size := Nat.le_trans Z114 K115.1
      have hk115 : 0 ≤ T115.heap.size := Nat.le_trans hk114 K115.1
      have N115 := Fr.app N112 Nq115
      show own_Fin _ _ _ _ (T115.setTop (mkF m 79 #[iv p1, iv p2, iv p3, iv v3_64, rv b106, iv v5_109, rv b110, .unset, .unset, .unset, .unset, .unset, .unset] [(.ref b114)]))
      refine own_go (XS.astore X115.here hx rfl (hb hby at_79) rfl rfl rfl (Steps.refl _)) ?_
      show own_Fin _ _ _ _ (T115.setTop (mkF m 81 #[iv p1, iv p2, iv p3, iv v3_64, rv b106, iv v5_109, rv b110, rv b114, .unset, .unset, .unset, .unset, .unset] []))
      obtain ⟨T116, h116, X116, e116, E116, A116, D116, U116, st116⟩ := newO X115 hx hZ hown (hw _ (List.mem_of_getElem? (i := 30) rfl)) (hw _ (List.mem_of_getElem? (i := 31) rfl)) (hw _ (List.mem_of_getElem? (i := 32) rfl)) rfl (g := (mkF m 81 #[iv p1, iv p2, iv p3, iv v3_64, rv b106, iv v5_109, rv b110, rv b114, .unset, .unset, .unset, .unset, .unset] [])) rfl (hb hby at_81) (by decide) (by decide)
      obtain ⟨b116, g116⟩ : ∃ z, z = T115.heap.size := ⟨_, rfl⟩
      rw [← g116] at A116 D116 U116 st116
      refine own_by st116 ?_
      have ne_b106_b116 : b106 ≠ b116 := Nat.ne_of_lt (Nat.lt_of_lt_of_eq V_b106_115.lt g116.symm)
      have ne_b110_b116 : b110 ≠ b116 := Nat.ne_of_lt (Nat.lt_of_lt_of_eq V_b110_115.lt g116.symm)
      have ne_b114_b116 : b114 ≠ b116 := Nat.ne_of_lt (Nat.lt_of_lt_of_eq r115_0.lt g116.symm)
      have ne_b_115_b116 : b_115 ≠ b116 := Nat.ne_of_lt (Nat.lt_of_lt_of_eq r115_3.lt g116.symm)
      have Od116 := Od115.ext E116
      have V_b106_116 := V_b106_115.ext E116
      have V_b110_116 := V_b110_115.ext E116
      have r115_0_116 := r115_0.ext E116
      have r115_1_116 := r115_1.ext E116
      have r115_2_116 := r115_2.ext E116
      have r115_3_116 := r115_3.ext E116
      have g_b116 : n0 ≤ b116 := Nat.le_trans Z115 (Nat.le_of_eq g116.symm)
      have Z116 : n0 ≤ h116.size := Nat.le_trans Z115 E116.1
      have hk116 : 0 ≤ h116.size := Nat.le_trans hk115 E116.1
      have E_b116 := A116
      have F_modCount_b116 : Fld Z h116 b116 "java/util/AbstractList" "modCount" "I" (.int (0 : Int32)) := D116 (Or.inl (hw _ (List.mem_of_getElem? (i := 50) rfl))) (ty := .int) (by decide)
      have F_elementData_b116 : Fld Z h116 b116 "java/util/ArrayList" "elementData" "[Ljava/lang/Object;" .null := D116 (Or.inl (hw _ (List.mem_of_getElem? (i := 53) rfl))) (ty := (.array (.object "java/lang/Object"))) (by decide)
      show own_Fin _ _ _ _ (T116.setTop (mkF m 84 #[iv p1, iv p2, iv p3, iv v3_64, rv b106, iv v5_109, rv b110, rv b114, .unset, .unset, .unset, .unset, .unset] [(.ref b116)]))
      refine own_go (XS.dup X116.here hx rfl (hb hby at_84) rfl rfl (Steps.refl _)) ?_
      show own_Fin _ _ _ _ (T116.setTop (mkF m 85 #[iv p1, iv p2, iv p3, iv v3_64, rv b106, iv v5_109, rv b110, rv b114, .unset, .unset, .unset, .unset, .unset] [(.ref b116), (.ref b116)]))
      obtain ⟨_, _, ⟨T117, L117, k117, n117⟩, -, X117, ⟨Lc117, hQ117, l117, y117, z117⟩, st117⟩ := X116.specialBack hx (y := (⟨"java/util/ArrayList", "<init>", "()V"⟩ : MethodName)) rfl hown (mvT hZ (hw _ (List.mem_of_getElem? (i := 33) rfl))) (mvT hZ (hw _ (List.mem_of_getElem? (i := 34) rfl))) (mvT hZ (hw _ (List.mem_of_getElem? (i := 35) rfl))) (by decide) (backOf (W := 1) (rmali l Z a0 hw [] b116 dd h116 n0 Z116 E_b116 F_modCount_b116 F_elementData_b116 g_b116 Od116 S_DEFAULTCAPACITY_EMPTY_ELEMENTDATA) hZ (hw _ (List.mem_of_getElem? (i := 35) rfl)) (hw _ (List.mem_of_getElem? (i := 32) rfl)) (by decide) (by decide)) (g := (mkF m 85 #[iv p1, iv p2, iv p3, iv v3_64, rv b106, iv v5_109, rv b110, rv b114, .unset, .unset, .unset, .unset, .unset] [(.ref b116), (.ref b116)])) rfl (by rw [hml]; rfl) (Steps.refl _) (a := b116) (argsL := []) (rest := [(.ref b116)]) (lenOf pd__28__29_V rfl) rfl (by show 2 * 0 + _ ≤ _; exact Nat.le_of_eq rfl) (hb hby at_85) (fun _ hv => ⟨rfl, e116, (by decide : 5 + 0 ≤ _), (by decide : 10 + 0 ≤ _)⟩)
      dsimp only [Pt.U, Pt.locs, Pt.cells, Pt.slots] at X117 l117 y117 z117 st117 hQ117
      subst l117 y117 z117
      refine own_go st117 ?_
      obtain ⟨rfl, Nq117, K117, r117_0, r117_1, r117_2⟩ := hQ117
      have Od117 := Od116.keep K117 (allS g_b116 all0)
      have V_b106_117 := V_b106_116.keep K117 (ninS ne_b106_b116 nin0)
      have V_b110_117 := V_b110_116.keep K117 (ninS ne_b110_b116 nin0)
      have r115_0_117 := r115_0_116.keep K117
      have r115_1_117 := r115_1_116.keep K117 (ninS ne_b114_b116 nin0)
      have r115_2_117 := r115_2_116.keep K117 (ninS ne_b114_b116 nin0)
      have r115_3_117 := r115_3_116.keep K117 (ninS ne_b_115_b116 nin0)
      have E_b116_117 := E_b116.keep K117
      have Z117 : n0 ≤ T117.heap.size := Nat.le_trans Z116 K117.1
      have hk117 : 0 ≤ T117.heap.size := Nat.le_trans hk116 K117.1
      have N117 := Fr.app N115 Nq117
      show own_Fin _ _ _ _ (T117.setTop (mkF m 88 #[iv p1, iv p2, iv p3, iv v3_64, rv b106, iv v5_109, rv b110, rv b114, .unset, .unset, .unset, .unset, .unset] [(.ref b116)]))
      refine own_go (XS.astore X117.here hx rfl (hb hby at_88) rfl rfl rfl (Steps.refl _)) ?_
      show own_Fin _ _ _ _ (T117.setTop (mkF m 90 #[iv p1, iv p2, iv p3, iv v3_64, rv b106, iv v5_109, rv b110, rv b114, rv b116, .unset, .unset, .unset, .unset] []))
      obtain ⟨T118, h118, X118, e118, E118, A118, D118, U118, st118⟩ := newO X117 hx hZ hown (hw _ (List.mem_of_getElem? (i := 54) rfl)) (hw _ (List.mem_of_getElem? (i := 55) rfl)) (hw _ (List.mem_of_getElem? (i := 56) rfl)) rfl (g := (mkF m 90 #[iv p1, iv p2, iv p3, iv v3_64, rv b106, iv v5_109, rv b110, rv b114, rv b116, .unset, .unset, .unset, .unset] [])) rfl (hb hby at_90) (by decide) (by decide)
      obtain ⟨b118, g118⟩ : ∃ z, z = T117.heap.size := ⟨_, rfl⟩
      rw [← g118] at A118 D118 U118 st118
      refine own_by st118 ?_
      have ne_b106_b118 : b106 ≠ b118 := Nat.ne_of_lt (Nat.lt_of_lt_of_eq V_b106_117.lt g118.symm)
      have ne_b110_b118 : b110 ≠ b118 := Nat.ne_of_lt (Nat.lt_of_lt_of_eq V_b110_117.lt g118.symm)
      have ne_b114_b118 : b114 ≠ b118 := Nat.ne_of_lt (Nat.lt_of_lt_of_eq r115_0_117.lt g118.symm)
      have ne_b_115_b118 : b_115 ≠ b118 := Nat.ne_of_lt (Nat.lt_of_lt_of_eq r115_3_117.lt g118.symm)
      have ne_b116_b118 : b116 ≠ b118 := Nat.ne_of_lt (Nat.lt_of_lt_of_eq r117_0.lt g118.symm)
      have Od118 := Od117.ext E118
      have V_b106_118 := V_b106_117.ext E118
      have V_b110_118 := V_b110_117.ext E118
      have r115_0_118 := r115_0_117.ext E118
      have r115_1_118 := r115_1_117.ext E118
      have r115_2_118 := r115_2_117.ext E118
      have r115_3_118 := r115_3_117.ext E118
      have r117_0_118 := r117_0.ext E118
      have r117_1_118 := r117_1.ext E118
      have r117_2_118 := r117_2.ext E118
      have g_b118 : n0 ≤ b118 := Nat.le_trans Z117 (Nat.le_of_eq g118.symm)
      have Z118 : n0 ≤ h118.size := Nat.le_trans Z117 E118.1
      have hk118 : 0 ≤ h118.size := Nat.le_trans hk117 E118.1
      have E_b118 := A118
      have F_status_b118 : Fld Z h118 b118 "com/example/pryority/pryority/Response" "status" "I" (.int (0 : Int32)) := D118 (Or.inr (hw _ (List.mem_of_getElem? (i := 67) rfl))) (ty := .int) (by decide)
      have F_reason_b118 : Fld Z h118 b118 "com/example/pryority/pryority/Response" "reason" "Ljava/lang/String;" .null := D118 (Or.inr (hw _ (List.mem_of_getElem? (i := 69) rfl))) (ty := (.object "java/lang/String")) (by decide)
      have F_fields_b118 : Fld Z h118 b118 "com/example/pryority/pryority/Response" "fields" "Ljava/util/List;" .null := D118 (Or.inr (hw _ (List.mem_of_getElem? (i := 71) rfl))) (ty := (.object "java/util/List")) (by decide)
      have F_body_b118 : Fld Z h118 b118 "com/example/pryority/pryority/Response" "body" "[B" .null := D118 (Or.inr (hw _ (List.mem_of_getElem? (i := 73) rfl))) (ty := (.array .byte)) (by decide)
      have F_truncated_b118 : Fld Z h118 b118 "com/example/pryority/pryority/Response" "truncated" "Z" (.int (0 : Int32)) := D118 (Or.inr (hw _ (List.mem_of_getElem? (i := 75) rfl))) (ty := .boolean) (by decide)
      show own_Fin _ _ _ _ (T118.setTop (mkF m 93 #[iv p1, iv p2, iv p3, iv v3_64, rv b106, iv v5_109, rv b110, rv b114, rv b116, .unset, .unset, .unset, .unset] [(.ref b118)]))
      refine own_go (XS.dup X118.here hx rfl (hb hby at_93) rfl rfl (Steps.refl _)) ?_
      show own_Fin _ _ _ _ (T118.setTop (mkF m 94 #[iv p1, iv p2, iv p3, iv v3_64, rv b106, iv v5_109, rv b110, rv b114, rv b116, .unset, .unset, .unset, .unset] [(.ref b118), (.ref b118)]))
      refine own_go (XS.iload X118.here hx rfl (hb hby at_94) rfl (Steps.refl _)) ?_
      show own_Fin _ _ _ _ (T118.setTop (mkF m 96 #[iv p1, iv p2, iv p3, iv v3_64, rv b106, iv v5_109, rv b110, rv b114, rv b116, .unset, .unset, .unset, .unset] [(.int v5_109), (.ref b118), (.ref b118)]))
      refine own_go (XS.aload X118.here hx rfl (hb hby at_96) rfl rfl (Steps.refl _)) ?_
      show own_Fin _ _ _ _ (T118.setTop (mkF m 98 #[iv p1, iv p2, iv p3, iv v3_64, rv b106, iv v5_109, rv b110, rv b114, rv b116, .unset, .unset, .unset, .unset] [(.ref b114), (.int v5_109), (.ref b118), (.ref b118)]))
      refine own_go (XS.aload X118.here hx rfl (hb hby at_98) rfl rfl (Steps.refl _)) ?_
      show own_Fin _ _ _ _ (T118.setTop (mkF m 100 #[iv p1, iv p2, iv p3, iv v3_64, rv b106, iv v5_109, rv b110, rv b114, rv b116, .unset, .unset, .unset, .unset] [(.ref b116), (.ref b114), (.int v5_109), (.ref b118), (.ref b118)]))
      refine own_go (XS.aload X118.here hx rfl (hb hby at_100) rfl rfl (Steps.refl _)) ?_
      show own_Fin _ _ _ _ (T118.setTop (mkF m 102 #[iv p1, iv p2, iv p3, iv v3_64, rv b106, iv v5_109, rv b110, rv b114, rv b116, .unset, .unset, .unset, .unset] [(.ref b106), (.ref b116), (.ref b114), (.int v5_109), (.ref b118), (.ref b118)]))
      refine own_go (XS.iloadN X118.here hx rfl (hb hby at_102) rfl (Steps.refl _)) ?_
      show own_Fin _ _ _ _ (T118.setTop (mkF m 103 #[iv p1, iv p2, iv p3, iv v3_64, rv b106, iv v5_109, rv b110, rv b114, rv b116, .unset, .unset, .unset, .unset] [(.int v3_64), (.ref b106), (.ref b116), (.ref b114), (.int v5_109), (.ref b118), (.ref b118)]))
      obtain ⟨_, _, ⟨T119, L119, k119, n119⟩, -, X119, ⟨Lc119, hQ119, l119, y119, z119⟩, st119⟩ := X118.specialBack hx (y := (⟨"com/example/pryority/pryority/Response", "<init>", "(ILjava/lang/String;Ljava/util/List;[BZ)V"⟩ : MethodName)) rfl hown (mvT hZ (hw _ (List.mem_of_getElem? (i := 57) rfl))) (mvT hZ (hw _ (List.mem_of_getElem? (i := 58) rfl))) (mvT hZ (hw _ (List.mem_of_getElem? (i := 59) rfl))) (by decide) (backOf (W := 1) (rmr5 l Z a0 hw [] b118 v5_109 b114 b116 b106 v3_64 h118 n0 Z118 E_b118 F_status_b118 F_reason_b118 F_fields_b118 F_body_b118 F_truncated_b118 g_b118) hZ (hw _ (List.mem_of_getElem? (i := 59) rfl)) (hw _ (List.mem_of_getElem? (i := 56) rfl)) (by decide) (by decide)) (g := (mkF m 103 #[iv p1, iv p2, iv p3, iv v3_64, rv b106, iv v5_109, rv b110, rv b114, rv b116, .unset, .unset, .unset, .unset] [(.int v3_64), (.ref b106), (.ref b116), (.ref b114), (.int v5_109), (.ref b118), (.ref b118)])) rfl (by rw [hml]; rfl) (Steps.refl _) (a := b118) (argsL := [(.int v5_109), (.ref b114), (.ref b116), (.ref b106), (.int v3_64)]) (rest := [(.ref b118)]) (lenOf pd__28_ILjava_2f_lang_2f_String_3b_Ljava_2f_util_2f_List_3b__5b_BZ_29_V rfl) rfl (by show 2 * 0 + _ ≤ _; exact Nat.le_of_eq rfl) (hb hby at_103) (fun _ hv => ⟨rfl, e118, (by decide : 6 + 0 ≤ _), (by decide : 15 + 0 ≤ _)⟩)
      dsimp only [Pt.U, Pt.locs, Pt.cells, Pt.slots] at X119 l119 y119 z119 st119 hQ119
      subst l119 y119 z119
      refine own_go st119 ?_
      obtain ⟨rfl, Nq119, K119, r119_0, r119_1⟩ := hQ119
      have Od119 := Od118.keep K119 (allS g_b118 all0)
      have V_b106_119 := V_b106_118.keep K119 (ninS ne_b106_b118 nin0)
      have V_b110_119 := V_b110_118.keep K119 (ninS ne_b110_b118 nin0)
      have r115_0_119 := r115_0_118.keep K119
      have r115_1_119 := r115_1_118.keep K119 (ninS ne_b114_b118 nin0)
      have r115_2_119 := r115_2_118.keep K119 (ninS ne_b114_b118 nin0)
      have r115_3_119 := r115_3_118.keep K119 (ninS ne_b_115_b118 nin0)
      have r117_0_119 := r117_0_118.keep K119
      have r117_1_119 := r117_1_118.keep K119 (ninS ne_b116_b118 nin0)
      have r117_2_119 := r117_2_118.keep K119 (ninS ne_b116_b118 nin0)
      have E_b118_119 := E_b118.keep K119
      have Z119 : n0 ≤ T119.heap.size := Nat.le_trans Z118 K119.1
      have hk119 : 0 ≤ T119.heap.size := Nat.le_trans hk118 K119.1
      have N119 := Fr.app N117 Nq119
      show own_Fin _ _ _ _ (T119.setTop (mkF m 106 #[iv p1, iv p2, iv p3, iv v3_64, rv b106, iv v5_109, rv b110, rv b114, rv b116, .unset, .unset, .unset, .unset] [(.ref b118)]))
      refine own_go (XS.astore X119.here hx rfl (hb hby at_106) rfl rfl rfl (Steps.refl _)) ?_
      show own_Fin _ _ _ _ (T119.setTop (mkF m 108 #[iv p1, iv p2, iv p3, iv v3_64, rv b106, iv v5_109, rv b110, rv b114, rv b116, rv b118, .unset, .unset, .unset] []))
      have di120 : Steps p.tables e below (T119.setTop (mkF m 108 #[iv p1, iv p2, iv p3, iv v3_64, rv b106, iv v5_109, rv b110, rv b114, rv b116, rv b118, .unset, .unset, .unset] [])) (T119.setTop (mkF m 123 #[iv p1, iv p2, iv p3, iv v3_64, rv b106, iv v5_109, rv b110, rv b114, rv b116, rv b118, .unset, .unset, .unset] [(.int (own_ex v5_109))])) := by
        refine XS.iload X119.here hx rfl (hb hby at_108) rfl ?_
        show Steps _ _ _ (T119.setTop (mkF m 110 #[iv p1, iv p2, iv p3, iv v3_64, rv b106, iv v5_109, rv b110, rv b114, rv b116, rv b118, .unset, .unset, .unset] [(.int v5_109)])) _
        by_cases c110_121 : v5_109 < (0 : Int32)
        · refine XS.ifYes X119.here hx rfl (pc0 := 110) (pc' := 118) rfl (hb hby at_110) rfl ((if0 _ _).trans (tlt c110_121).1) (by decide) (by decide) ?_
          show Steps _ _ _ (T119.setTop (mkF m 118 #[iv p1, iv p2, iv p3, iv v3_64, rv b106, iv v5_109, rv b110, rv b114, rv b116, rv b118, .unset, .unset, .unset] [])) _
          refine XS.iconst X119.here hx rfl (hb hby at_118) ?_
          show Steps _ _ _ (T119.setTop (mkF m 119 #[iv p1, iv p2, iv p3, iv v3_64, rv b106, iv v5_109, rv b110, rv b114, rv b116, rv b118, .unset, .unset, .unset] [(.int (1 : Int32))])) _
          refine XS.goto X119.here hx rfl (pc0 := 119) (pc' := 123) rfl (hb hby at_119) (by decide) (by decide) ?_
          show Steps _ _ _ (T119.setTop (mkF m 123 #[iv p1, iv p2, iv p3, iv v3_64, rv b106, iv v5_109, rv b110, rv b114, rv b116, rv b118, .unset, .unset, .unset] [(.int (1 : Int32))])) _
          rw [show (own_ex v5_109) = (1 : Int32) from by simp [own_ex, c110_121]]; exact Steps.refl _
        · refine XS.ifNo X119.here hx rfl (hb hby at_110) rfl ((if0 _ _).trans (flt c110_121).1) ?_
          show Steps _ _ _ (T119.setTop (mkF m 113 #[iv p1, iv p2, iv p3, iv v3_64, rv b106, iv v5_109, rv b110, rv b114, rv b116, rv b118, .unset, .unset, .unset] [])) _
          refine XS.iload X119.here hx rfl (hb hby at_113) rfl ?_
          show Steps _ _ _ (T119.setTop (mkF m 115 #[iv p1, iv p2, iv p3, iv v3_64, rv b106, iv v5_109, rv b110, rv b114, rv b116, rv b118, .unset, .unset, .unset] [(.int v5_109)])) _
          by_cases c115_122 : (0 : Int32) < v5_109
          · refine XS.ifNo X119.here hx rfl (hb hby at_115) rfl ((if0 _ _).trans (tlt c115_122).2.2.2) ?_
            show Steps _ _ _ (T119.setTop (mkF m 118 #[iv p1, iv p2, iv p3, iv v3_64, rv b106, iv v5_109, rv b110, rv b114, rv b116, rv b118, .unset, .unset, .unset] [])) _
            refine XS.iconst X119.here hx rfl (hb hby at_118) ?_
            show Steps _ _ _ (T119.setTop (mkF m 119 #[iv p1, iv p2, iv p3, iv v3_64, rv b106, iv v5_109, rv b110, rv b114, rv b116, rv b118, .unset, .unset, .unset] [(.int (1 : Int32))])) _
            refine XS.goto X119.here hx rfl (pc0 := 119) (pc' := 123) rfl (hb hby at_119) (by decide) (by decide) ?_
            show Steps _ _ _ (T119.setTop (mkF m 123 #[iv p1, iv p2, iv p3, iv v3_64, rv b106, iv v5_109, rv b110, rv b114, rv b116, rv b118, .unset, .unset, .unset] [(.int (1 : Int32))])) _
            rw [show (own_ex v5_109) = (1 : Int32) from by simp [own_ex, c110_121, c115_122]]; exact Steps.refl _
          · refine XS.ifYes X119.here hx rfl (pc0 := 115) (pc' := 122) rfl (hb hby at_115) rfl ((if0 _ _).trans (flt c115_122).2.2.2) (by decide) (by decide) ?_
            show Steps _ _ _ (T119.setTop (mkF m 122 #[iv p1, iv p2, iv p3, iv v3_64, rv b106, iv v5_109, rv b110, rv b114, rv b116, rv b118, .unset, .unset, .unset] [])) _
            refine XS.iconst X119.here hx rfl (hb hby at_122) ?_
            show Steps _ _ _ (T119.setTop (mkF m 123 #[iv p1, iv p2, iv p3, iv v3_64, rv b106, iv v5_109, rv b110, rv b114, rv b116, rv b118, .unset, .unset, .unset] [(.int (0 : Int32))])) _
            rw [show (own_ex v5_109) = (0 : Int32) from by simp [own_ex, c110_121, c115_122]]; exact Steps.refl _
      refine own_go di120 ?_
      show own_Fin _ _ _ _ (T119.setTop (mkF m 123 #[iv p1, iv p2, iv p3, iv v3_64, rv b106, iv v5_109, rv b110, rv b114, rv b116, rv b118, .unset, .unset, .unset] [(.int (own_ex v5_109))]))
      refine own_go (XS.istore X119.here hx rfl (hb hby at_123) rfl rfl (Steps.refl _)) ?_
      show own_Fin _ _ _ _ (T119.setTop (mkF m 125 #[iv p1, iv p2, iv p3, iv v3_64, rv b106, iv v5_109, rv b110, rv b114, rv b116, rv b118, iv (own_ex v5_109), .unset, .unset] []))
      generalize hz_v10_123 : (own_ex v5_109) = v10_123
      refine own_go (XS.aload X119.here hx rfl (hb hby at_125) rfl rfl (Steps.refl _)) ?_
      show own_Fin _ _ _ _ (T119.setTop (mkF m 127 #[iv p1, iv p2, iv p3, iv v3_64, rv b106, iv v5_109, rv b110, rv b114, rv b116, rv b118, iv v10_123, .unset, .unset] [(.ref b118)]))
      obtain ⟨cq124, kq124, q124a, q124b, q124c⟩ := isOf hZ rfl r119_0
      obtain ⟨_, _, ⟨T124, L124, k124, n124⟩, -, X124, ⟨Lc124, hQ124, l124, y124, z124⟩, st124⟩ := X119.virtualBack hx (y := (⟨"com/example/pryority/pryority/Response", "isAnswer", "()Z"⟩ : MethodName)) (z := (⟨"com/example/pryority/pryority/Response", "isAnswer", "()Z"⟩ : MethodName)) hown (mvT hZ (hw _ (List.mem_of_getElem? (i := 76) rfl))) (mvT hZ (hw _ (List.mem_of_getElem? (i := 77) rfl))) (notFace_of_selects (args := #[]) (mvT hZ (hw _ (List.mem_of_getElem? (i := 79) rfl)))) (mvT hZ (hw _ (List.mem_of_getElem? (i := 79) rfl))) (mvT hZ (hw _ (List.mem_of_getElem? (i := 78) rfl))) (by decide) (backOf (W := 0) (rmia l Z a0 hw [] b118 v5_109 T119.heap n0 Z119 r119_1) hZ (hw _ (List.mem_of_getElem? (i := 80) rfl)) (hw _ (List.mem_of_getElem? (i := 56) rfl)) (by decide) (by decide)) q124a q124c (g := (mkF m 127 #[iv p1, iv p2, iv p3, iv v3_64, rv b106, iv v5_109, rv b110, rv b114, rv b116, rv b118, iv v10_123, .unset, .unset] [(.ref b118)])) rfl (by rw [hml]; rfl) (Steps.refl _) (argsL := []) (rest := []) (lenOf pd__28__29_Z rfl) rfl (by show 2 * 0 + _ ≤ _; exact Nat.le_of_eq rfl) (hb hby at_127) (fun _ hv => ⟨rfl, rfl, (by decide : 6 + 0 ≤ _), (by decide : 15 + 0 ≤ _)⟩)
      dsimp only [Pt.U, Pt.locs, Pt.cells, Pt.slots] at X124 l124 y124 z124 st124 hQ124
      subst l124 y124 z124
      obtain ⟨rfl, Nq124, e124⟩ := hQ124
      refine own_go st124 ?_
      have N124 := Fr.app N119 Nq124
      show own_Fin _ _ _ _ (T124.setTop (mkF m 130 #[iv p1, iv p2, iv p3, iv v3_64, rv b106, iv v5_109, rv b110, rv b114, rv b116, rv b118, iv v10_123, .unset, .unset] [(.int (own_an v5_109))]))
      refine own_go (XS.istore X124.here hx rfl (hb hby at_130) rfl rfl (Steps.refl _)) ?_
      show own_Fin _ _ _ _ (T124.setTop (mkF m 132 #[iv p1, iv p2, iv p3, iv v3_64, rv b106, iv v5_109, rv b110, rv b114, rv b116, rv b118, iv v10_123, iv (own_an v5_109), .unset] []))
      generalize hz_v11_125 : (own_an v5_109) = v11_125
      obtain ⟨_, _, ⟨T126, L126, k126, n126⟩, -, X126, hs2126, hgr126, ⟨Lc126, hQ126, l126, y126, z126⟩, st126⟩ := callSS X124 hx (y := (⟨"com/example/pryority/pryority/Response", "noAnswer", "()Lcom/example/pryority/pryority/Response;"⟩ : MethodName)) hown (mvT hZ (hw _ (List.mem_of_getElem? (i := 81) rfl))) (mvT hZ (hw _ (List.mem_of_getElem? (i := 82) rfl))) (mvT hZ (hw _ (List.mem_of_getElem? (i := 56) rfl))) (mvT hZ (hw _ (List.mem_of_getElem? (i := 83) rfl))) (by decide) (backOfS (W := 0) (rmna l Z a0 hw [] el T119.heap n0 Z119 Od119 S_EMPTY_LIST) hZ (hw _ (List.mem_of_getElem? (i := 83) rfl)) (hw _ (List.mem_of_getElem? (i := 56) rfl)) (by decide) (by decide)) (g := (mkF m 132 #[iv p1, iv p2, iv p3, iv v3_64, rv b106, iv v5_109, rv b110, rv b114, rv b116, rv b118, iv v10_123, iv v11_125, .unset] [])) rfl (by rw [hml]; rfl) (argsL := []) (rest := []) (lenOf pd__28__29_Lcom_2f_example_2f_pryority_2f_pryority_2f_Response_3b_ rfl) rfl (by show 2 * 0 + _ ≤ _; exact Nat.le_of_eq rfl) (hb hby at_132) (fun _ hv => ⟨rfl, e124, (by decide : 6 + 4 ≤ _), (by decide : 15 + 9 ≤ _)⟩)
      dsimp only [Pt.U, Pt.locs, Pt.cells, Pt.slots] at X126 l126 y126 z126 st126 hQ126 hs2126 hgr126
      subst l126 y126 z126
      obtain ⟨Xr126, hS126, hZ126, hown126⟩ := rebS hS0 (show 0 ≤ T124.heap.size by rw [e124]; exact hk119) X126 hs2126 hgr126 hZ hown
      refine own_go st126 ?_
      obtain ⟨r_126, rfl, Nq126, K126, g_r_126, sb_r_126, r126_0, r126_1⟩ := hQ126
      have ne_b106_r_126 : b106 ≠ r_126 := Nat.ne_of_lt (Nat.lt_of_lt_of_le V_b106_119.lt sb_r_126)
      have ne_b110_r_126 : b110 ≠ r_126 := Nat.ne_of_lt (Nat.lt_of_lt_of_le V_b110_119.lt sb_r_126)
      have ne_b114_r_126 : b114 ≠ r_126 := Nat.ne_of_lt (Nat.lt_of_lt_of_le r115_0_119.lt sb_r_126)
      have ne_b_115_r_126 : b_115 ≠ r_126 := Nat.ne_of_lt (Nat.lt_of_lt_of_le r115_3_119.lt sb_r_126)
      have ne_b116_r_126 : b116 ≠ r_126 := Nat.ne_of_lt (Nat.lt_of_lt_of_le r117_0_119.lt sb_r_126)
      have ne_b118_r_126 : b118 ≠ r_126 := Nat.ne_of_lt (Nat.lt_of_lt_of_le r119_0.lt sb_r_126)
      have Od126 := Od119.keep K126 all0
      have V_b106_126 := V_b106_119.keep K126 nin0
      have V_b110_126 := V_b110_119.keep K126 nin0
      have r115_0_126 := r115_0_119.keep K126
      have r115_1_126 := r115_1_119.keep K126 nin0
      have r115_2_126 := r115_2_119.keep K126 nin0
      have r115_3_126 := r115_3_119.keep K126 nin0
      have r117_0_126 := r117_0_119.keep K126
      have r117_1_126 := r117_1_119.keep K126 nin0
      have r117_2_126 := r117_2_119.keep K126 nin0
      have r119_0_126 := r119_0.keep K126
      have r119_1_126 := r119_1.keep K126 nin0
      have Z126 : n0 ≤ T126.heap.size := Nat.le_trans Z119 K126.1
      have hk126 : 0 ≤ T126.heap.size := Nat.le_trans hk119 K126.1
      have hkr126 : T126.heap.size ≤ T126.heap.size := Nat.le_refl _
      have N126 := Fr.app N124 Nq126
      show own_Fin _ _ _ _ (T126.setTop (mkF m 135 #[iv p1, iv p2, iv p3, iv v3_64, rv b106, iv v5_109, rv b110, rv b114, rv b116, rv b118, iv v10_123, iv v11_125, .unset] [(.ref r_126)]))
      refine own_go (XS.astore Xr126.here hx rfl (hb hby at_135) rfl rfl rfl (Steps.refl _)) ?_
      show own_Fin _ _ _ _ (T126.setTop (mkF m 137 #[iv p1, iv p2, iv p3, iv v3_64, rv b106, iv v5_109, rv b110, rv b114, rv b116, rv b118, iv v10_123, iv v11_125, rv r_126] []))
      refine own_go (XS.iload Xr126.here hx rfl (hb hby at_137) rfl (Steps.refl _)) ?_
      show own_Fin _ _ _ _ (T126.setTop (mkF m 139 #[iv p1, iv p2, iv p3, iv v3_64, rv b106, iv v5_109, rv b110, rv b114, rv b116, rv b118, iv v10_123, iv v11_125, rv r_126] [(.int v11_125)]))
      refine own_go (XS.iload Xr126.here hx rfl (hb hby at_139) rfl (Steps.refl _)) ?_
      show own_Fin _ _ _ _ (T126.setTop (mkF m 141 #[iv p1, iv p2, iv p3, iv v3_64, rv b106, iv v5_109, rv b110, rv b114, rv b116, rv b118, iv v10_123, iv v11_125, rv r_126] [(.int v10_123), (.int v11_125)]))
      refine own_go (XS.icmpNo Xr126.here hx rfl (hb hby at_141) rfl (teq (show v11_125 = v10_123 from (by rw [← hz_v11_125, ← hz_v10_123]; exact own_exan _))).2 (Steps.refl _)) ?_
      show own_Fin _ _ _ _ (T126.setTop (mkF m 144 #[iv p1, iv p2, iv p3, iv v3_64, rv b106, iv v5_109, rv b110, rv b114, rv b116, rv b118, iv v10_123, iv v11_125, rv r_126] []))
      refine own_go (XS.aload Xr126.here hx rfl (hb hby at_144) rfl rfl (Steps.refl _)) ?_
      show own_Fin _ _ _ _ (T126.setTop (mkF m 146 #[iv p1, iv p2, iv p3, iv v3_64, rv b106, iv v5_109, rv b110, rv b114, rv b116, rv b118, iv v10_123, iv v11_125, rv r_126] [(.ref r_126)]))
      obtain ⟨cq127, kq127, q127a, q127b, q127c⟩ := isOf hZ126 rfl r126_0
      obtain ⟨_, _, ⟨T127, L127, k127, n127⟩, -, X127, ⟨Lc127, hQ127, l127, y127, z127⟩, st127⟩ := Xr126.virtualBack hx (y := (⟨"com/example/pryority/pryority/Response", "isAnswer", "()Z"⟩ : MethodName)) (z := (⟨"com/example/pryority/pryority/Response", "isAnswer", "()Z"⟩ : MethodName)) hown126 (mvT hZ126 (hw _ (List.mem_of_getElem? (i := 76) rfl))) (mvT hZ126 (hw _ (List.mem_of_getElem? (i := 77) rfl))) (notFace_of_selects (args := #[]) (mvT hZ126 (hw _ (List.mem_of_getElem? (i := 79) rfl)))) (mvT hZ126 (hw _ (List.mem_of_getElem? (i := 79) rfl))) (mvT hZ126 (hw _ (List.mem_of_getElem? (i := 78) rfl))) (by decide) (backOf (W := 0) (rmia l Z a0 hw [] r_126 (0 : Int32) T126.heap n0 Z126 r126_1) hZ126 (hw _ (List.mem_of_getElem? (i := 80) rfl)) (hw _ (List.mem_of_getElem? (i := 56) rfl)) (by decide) (by decide)) q127a q127c (g := (mkF m 146 #[iv p1, iv p2, iv p3, iv v3_64, rv b106, iv v5_109, rv b110, rv b114, rv b116, rv b118, iv v10_123, iv v11_125, rv r_126] [(.ref r_126)])) rfl (by rw [hml]; rfl) (Steps.refl _) (argsL := []) (rest := []) (lenOf pd__28__29_Z rfl) rfl (by show 2 * 0 + _ ≤ _; exact Nat.le_of_eq rfl) (hb hby at_146) (fun _ hv => ⟨rfl, rfl, (by decide : 10 + 0 ≤ _), (by decide : 24 + 0 ≤ _)⟩)
      dsimp only [Pt.U, Pt.locs, Pt.cells, Pt.slots] at X127 l127 y127 z127 st127 hQ127
      subst l127 y127 z127
      obtain ⟨rfl, Nq127, e127⟩ := hQ127
      refine own_go st127 ?_
      have N127 := Fr.app N126 Nq127
      show own_Fin _ _ _ _ (T127.setTop (mkF m 149 #[iv p1, iv p2, iv p3, iv v3_64, rv b106, iv v5_109, rv b110, rv b114, rv b116, rv b118, iv v10_123, iv v11_125, rv r_126] [(.int (own_an (0 : Int32)))]))
      refine own_go (XS.ifNo X127.here hx rfl (hb hby at_149) rfl ((if0 _ _).trans (teq (show (own_an (0 : Int32)) = (0 : Int32) from rfl)).2) (Steps.refl _)) ?_
      show own_Fin _ _ _ _ (T127.setTop (mkF m 152 #[iv p1, iv p2, iv p3, iv v3_64, rv b106, iv v5_109, rv b110, rv b114, rv b116, rv b118, iv v10_123, iv v11_125, rv r_126] []))
      refine own_go (XS.iconst X127.here hx rfl (hb hby at_152) (Steps.refl _)) ?_
      show own_Fin _ _ _ _ (T127.setTop (mkF m 153 #[iv p1, iv p2, iv p3, iv v3_64, rv b106, iv v5_109, rv b110, rv b114, rv b116, rv b118, iv v10_123, iv v11_125, rv r_126] [(.int (1 : Int32))]))
      refine own_go (XS.goto X127.here hx rfl (pc0 := 153) (pc' := 157) rfl (hb hby at_153) (by decide) (by decide) (Steps.refl _)) ?_
      show own_Fin _ _ _ _ (T127.setTop (mkF m 157 #[iv p1, iv p2, iv p3, iv v3_64, rv b106, iv v5_109, rv b110, rv b114, rv b116, rv b118, iv v10_123, iv v11_125, rv r_126] [(.int (1 : Int32))]))
      obtain ⟨fs128, hr128, hrun128, hended128, hRW128⟩ := X127.leaveW (s := s) hS126 (n := T126.heap.size) (by rw [e127]; exact hkr126) (v := some (.int (1 : Int32))) (fun h => by rw [Bd.returns] at h; cases h)
      refine own_done (retN X127 hx (t := .boolean) Bd.returns (by simp) (hb hby at_157) hr128) hrun128 hended128 ⟨_, _, rfl, ?_, hRW128.1, hRW128.2.1, hRW128.2.2.1, hRW128.2.2.2.mono (by decide) (by decide)⟩
      show Q0 Z p1 p2 p3 cs dd el h0 n0 _ T127.heap _
      rw [e127]
      exact ⟨rfl, N127⟩
    · refine own_go (XS.ifNo X112.here hx rfl (hb hby at_54) rfl ((if0 _ _).trans (feq c54_113).1) (Steps.refl _)) ?_
      show own_Fin _ _ _ _ (T112.setTop (mkF m 57 #[iv p1, iv p2, iv p3, iv v3_64, rv b106, iv v5_109, rv b110, .unset, .unset, .unset, .unset, .unset, .unset] []))
      obtain ⟨T129, h129, X129, e129, E129, A129, D129, U129, st129⟩ := newO X112 hx hZ hown (hw _ (List.mem_of_getElem? (i := 2) rfl)) (hw _ (List.mem_of_getElem? (i := 3) rfl)) (hw _ (List.mem_of_getElem? (i := 4) rfl)) e112 (g := (mkF m 57 #[iv p1, iv p2, iv p3, iv v3_64, rv b106, iv v5_109, rv b110, .unset, .unset, .unset, .unset, .unset, .unset] [])) rfl (hb hby at_57) (by decide) (by decide)
      obtain ⟨b129, g129⟩ : ∃ z, z = h112.size := ⟨_, rfl⟩
      rw [← g129] at A129 D129 U129 st129
      refine own_by st129 ?_
      have ne_b106_b129 : b106 ≠ b129 := Nat.ne_of_lt (Nat.lt_of_lt_of_eq V_b106_112.lt g129.symm)
      have ne_b110_b129 : b110 ≠ b129 := Nat.ne_of_lt (Nat.lt_of_lt_of_eq V_b110_112.lt g129.symm)
      have Od129 := Od112.ext E129
      have V_b106_129 := V_b106_112.ext E129
      have V_b110_129 := V_b110_112.ext E129
      have g_b129 : n0 ≤ b129 := Nat.le_trans Z112 (Nat.le_of_eq g129.symm)
      have Z129 : n0 ≤ h129.size := Nat.le_trans Z112 E129.1
      have hk129 : 0 ≤ h129.size := Nat.le_trans hk112 E129.1
      have E_b129 := A129
      have F_coder_b129 : Fld Z h129 b129 "java/lang/String" "coder" "B" (.int (0 : Int32)) := D129 (Or.inr (hw _ (List.mem_of_getElem? (i := 27) rfl))) (ty := .byte) (by decide)
      have F_value_b129 : Fld Z h129 b129 "java/lang/String" "value" "[B" .null := D129 (Or.inr (hw _ (List.mem_of_getElem? (i := 29) rfl))) (ty := (.array .byte)) (by decide)
      show own_Fin _ _ _ _ (T129.setTop (mkF m 60 #[iv p1, iv p2, iv p3, iv v3_64, rv b106, iv v5_109, rv b110, .unset, .unset, .unset, .unset, .unset, .unset] [(.ref b129)]))
      refine own_go (XS.dup X129.here hx rfl (hb hby at_60) rfl rfl (Steps.refl _)) ?_
      show own_Fin _ _ _ _ (T129.setTop (mkF m 61 #[iv p1, iv p2, iv p3, iv v3_64, rv b106, iv v5_109, rv b110, .unset, .unset, .unset, .unset, .unset, .unset] [(.ref b129), (.ref b129)]))
      refine own_go (XS.iconst X129.here hx rfl (hb hby at_61) (Steps.refl _)) ?_
      show own_Fin _ _ _ _ (T129.setTop (mkF m 62 #[iv p1, iv p2, iv p3, iv v3_64, rv b106, iv v5_109, rv b110, .unset, .unset, .unset, .unset, .unset, .unset] [(.int (0 : Int32)), (.ref b129), (.ref b129)]))
      obtain ⟨T130, h130, k130, X130, e130, E130, A130, st130⟩ := newP X129 hx hZ (hw _ (List.mem_of_getElem? (i := 1) rfl)) e129 (g := (mkF m 62 #[iv p1, iv p2, iv p3, iv v3_64, rv b106, iv v5_109, rv b110, .unset, .unset, .unset, .unset, .unset, .unset] [(.int (0 : Int32)), (.ref b129), (.ref b129)])) rfl (hb hby at_62) rfl (by decide) (cap := 0) (by decide) (by decide) (by decide) (by decide)
      obtain ⟨b130, g130⟩ : ∃ z, z = h129.size := ⟨_, rfl⟩
      rw [← g130] at A130 st130
      refine own_by st130 ?_
      have ne_b106_b130 : b106 ≠ b130 := Nat.ne_of_lt (Nat.lt_of_lt_of_eq V_b106_129.lt g130.symm)
      have ne_b110_b130 : b110 ≠ b130 := Nat.ne_of_lt (Nat.lt_of_lt_of_eq V_b110_129.lt g130.symm)
      have ne_b129_b130 : b129 ≠ b130 := Nat.ne_of_lt (Nat.lt_of_lt_of_eq E_b129.lt g130.symm)
      have Od130 := Od129.ext E130
      have V_b106_130 := V_b106_129.ext E130
      have V_b110_130 := V_b110_129.ext E130
      have E_b129_130 := E_b129.ext E130
      have F_coder_b129_130 := F_coder_b129.ext E130
      have F_value_b129_130 := F_value_b129.ext E130
      have g_b130 : n0 ≤ b130 := Nat.le_trans Z129 (Nat.le_of_eq g130.symm)
      have Z130 : n0 ≤ h130.size := Nat.le_trans Z129 E130.1
      have hk130 : 0 ≤ h130.size := Nat.le_trans hk129 E130.1
      have V_b130 : Arv Z h130 b130 k130 .char (0 : Int32) [] (.int (0 : Int32)) := (Arv.new A130 (by decide)).pad (pad_rep [] (.int (0 : Int32)) 0)
      show own_Fin _ _ _ _ (T130.setTop (mkF m 64 #[iv p1, iv p2, iv p3, iv v3_64, rv b106, iv v5_109, rv b110, .unset, .unset, .unset, .unset, .unset, .unset] [(.ref b130), (.ref b129), (.ref b129)]))
      obtain ⟨_, _, ⟨T131, L131, k131, n131⟩, -, X131, hs2131, hgr131, ⟨Lc131, ⟨hQ131, hK131⟩, l131, y131, z131⟩, st131⟩ := X130.specialBackS hx (y := (⟨"java/lang/String", "<init>", "([C)V"⟩ : MethodName)) rfl hown (mvT hZ (hw _ (List.mem_of_getElem? (i := 5) rfl))) (mvT hZ (hw _ (List.mem_of_getElem? (i := 6) rfl))) (mvT hZ (hw _ (List.mem_of_getElem? (i := 7) rfl))) (by decide) (own_backK (W := 1) (rmstr_0 l Z a0 hw [] b129 b130 k130 h130 n0 Z130 E_b129_130 F_value_b129_130 F_coder_b129_130 g_b129 Od130 V_b130 hh7 hcw) hZ (hw _ (List.mem_of_getElem? (i := 7) rfl)) (hw _ (List.mem_of_getElem? (i := 4) rfl)) (by decide) (by decide)) (g := (mkF m 64 #[iv p1, iv p2, iv p3, iv v3_64, rv b106, iv v5_109, rv b110, .unset, .unset, .unset, .unset, .unset, .unset] [(.ref b130), (.ref b129), (.ref b129)])) rfl (by rw [hml]; rfl) (Steps.refl _) (a := b129) (argsL := [(.ref b130)]) (rest := [(.ref b129)]) (lenOf pd__28__5b_C_29_V rfl) rfl (by show 2 * 0 + _ ≤ _; exact Nat.le_of_eq rfl) (hb hby at_64) (fun _ hv => ⟨rfl, e130, (by decide : 4 + 2 ≤ _), (by decide : 6 + 4 ≤ _), own_K.warm (Or.inl IB0) hv⟩)
      dsimp only [Pt.U, Pt.locs, Pt.cells, Pt.slots] at X131 l131 y131 z131 st131 hQ131 hs2131 hgr131 hK131
      subst l131 y131 z131
      obtain ⟨Xr131, hS131, hZ131, hown131⟩ := rebS hS0 (show 0 ≤ T130.heap.size by rw [e130]; exact hk130) X131 hs2131 hgr131 hZ hown
      refine own_go st131 ?_
      obtain ⟨rfl, Nq131, K131, r131_0⟩ := hQ131
      have Od131 := Od130.keep K131 (allS g_b129 all0)
      have V_b106_131 := V_b106_130.keep K131 (ninS ne_b106_b129 nin0)
      have V_b110_131 := V_b110_130.keep K131 (ninS ne_b110_b129 nin0)
      have E_b129_131 := E_b129_130.keep K131
      have V_b130_131 := V_b130.keep K131 (ninS (Ne.symm ne_b129_b130) nin0)
      have Z131 : n0 ≤ T131.heap.size := Nat.le_trans Z130 K131.1
      have hk131 : 0 ≤ T131.heap.size := Nat.le_trans hk130 K131.1
      have hkr131 : T131.heap.size ≤ T131.heap.size := Nat.le_refl _
      have N131 := Fr.app N112 Nq131
      show own_Fin _ _ _ _ (T131.setTop (mkF m 67 #[iv p1, iv p2, iv p3, iv v3_64, rv b106, iv v5_109, rv b110, .unset, .unset, .unset, .unset, .unset, .unset] [(.ref b129)]))
      refine own_go (XS.goto Xr131.here hx rfl (pc0 := 67) (pc' := 79) rfl (hb hby at_67) (by decide) (by decide) (Steps.refl _)) ?_
      show own_Fin _ _ _ _ (T131.setTop (mkF m 79 #[iv p1, iv p2, iv p3, iv v3_64, rv b106, iv v5_109, rv b110, .unset, .unset, .unset, .unset, .unset, .unset] [(.ref b129)]))
      refine own_go (XS.astore Xr131.here hx rfl (hb hby at_79) rfl rfl rfl (Steps.refl _)) ?_
      show own_Fin _ _ _ _ (T131.setTop (mkF m 81 #[iv p1, iv p2, iv p3, iv v3_64, rv b106, iv v5_109, rv b110, rv b129, .unset, .unset, .unset, .unset, .unset] []))
      obtain ⟨T132, h132, X132, e132, E132, A132, D132, U132, st132⟩ := newO Xr131 hx hZ131 hown131 (hw _ (List.mem_of_getElem? (i := 30) rfl)) (hw _ (List.mem_of_getElem? (i := 31) rfl)) (hw _ (List.mem_of_getElem? (i := 32) rfl)) rfl (g := (mkF m 81 #[iv p1, iv p2, iv p3, iv v3_64, rv b106, iv v5_109, rv b110, rv b129, .unset, .unset, .unset, .unset, .unset] [])) rfl (hb hby at_81) (by decide) (by decide)
      obtain ⟨b132, g132⟩ : ∃ z, z = T131.heap.size := ⟨_, rfl⟩
      rw [← g132] at A132 D132 U132 st132
      refine own_by st132 ?_
      have ne_b106_b132 : b106 ≠ b132 := Nat.ne_of_lt (Nat.lt_of_lt_of_eq V_b106_131.lt g132.symm)
      have ne_b110_b132 : b110 ≠ b132 := Nat.ne_of_lt (Nat.lt_of_lt_of_eq V_b110_131.lt g132.symm)
      have ne_b129_b132 : b129 ≠ b132 := Nat.ne_of_lt (Nat.lt_of_lt_of_eq r131_0.lt g132.symm)
      have ne_b130_b132 : b130 ≠ b132 := Nat.ne_of_lt (Nat.lt_of_lt_of_eq V_b130_131.lt g132.symm)
      have Od132 := Od131.ext E132
      have V_b106_132 := V_b106_131.ext E132
      have V_b110_132 := V_b110_131.ext E132
      have r131_0_132 := r131_0.ext E132
      have V_b130_132 := V_b130_131.ext E132
      have g_b132 : n0 ≤ b132 := Nat.le_trans Z131 (Nat.le_of_eq g132.symm)
      have Z132 : n0 ≤ h132.size := Nat.le_trans Z131 E132.1
      have hk132 : T131.heap.size ≤ h132.size := Nat.le_trans hkr131 E132.1
      have E_b132 := A132
      have F_modCount_b132 : Fld Z h132 b132 "java/util/AbstractList" "modCount" "I" (.int (0 : Int32)) := D132 (Or.inl (hw _ (List.mem_of_getElem? (i := 50) rfl))) (ty := .int) (by decide)
      have F_elementData_b132 : Fld Z h132 b132 "java/util/ArrayList" "elementData" "[Ljava/lang/Object;" .null := D132 (Or.inl (hw _ (List.mem_of_getElem? (i := 53) rfl))) (ty := (.array (.object "java/lang/Object"))) (by decide)
      show own_Fin _ _ _ _ (T132.setTop (mkF m 84 #[iv p1, iv p2, iv p3, iv v3_64, rv b106, iv v5_109, rv b110, rv b129, .unset, .unset, .unset, .unset, .unset] [(.ref b132)]))
      refine own_go (XS.dup X132.here hx rfl (hb hby at_84) rfl rfl (Steps.refl _)) ?_
      show own_Fin _ _ _ _ (T132.setTop (mkF m 85 #[iv p1, iv p2, iv p3, iv v3_64, rv b106, iv v5_109, rv b110, rv b129, .unset, .unset, .unset, .unset, .unset] [(.ref b132), (.ref b132)]))
      obtain ⟨_, _, ⟨T133, L133, k133, n133⟩, -, X133, ⟨Lc133, hQ133, l133, y133, z133⟩, st133⟩ := X132.specialBack hx (y := (⟨"java/util/ArrayList", "<init>", "()V"⟩ : MethodName)) rfl hown131 (mvT hZ131 (hw _ (List.mem_of_getElem? (i := 33) rfl))) (mvT hZ131 (hw _ (List.mem_of_getElem? (i := 34) rfl))) (mvT hZ131 (hw _ (List.mem_of_getElem? (i := 35) rfl))) (by decide) (backOf (W := 1) (rmali l Z a0 hw [] b132 dd h132 n0 Z132 E_b132 F_modCount_b132 F_elementData_b132 g_b132 Od132 S_DEFAULTCAPACITY_EMPTY_ELEMENTDATA) hZ131 (hw _ (List.mem_of_getElem? (i := 35) rfl)) (hw _ (List.mem_of_getElem? (i := 32) rfl)) (by decide) (by decide)) (g := (mkF m 85 #[iv p1, iv p2, iv p3, iv v3_64, rv b106, iv v5_109, rv b110, rv b129, .unset, .unset, .unset, .unset, .unset] [(.ref b132), (.ref b132)])) rfl (by rw [hml]; rfl) (Steps.refl _) (a := b132) (argsL := []) (rest := [(.ref b132)]) (lenOf pd__28__29_V rfl) rfl (by show 2 * 0 + _ ≤ _; exact Nat.le_of_eq rfl) (hb hby at_85) (fun _ hv => ⟨rfl, e132, (by decide : 7 + 0 ≤ _), (by decide : 13 + 0 ≤ _)⟩)
      dsimp only [Pt.U, Pt.locs, Pt.cells, Pt.slots] at X133 l133 y133 z133 st133 hQ133
      subst l133 y133 z133
      refine own_go st133 ?_
      obtain ⟨rfl, Nq133, K133, r133_0, r133_1, r133_2⟩ := hQ133
      have Od133 := Od132.keep K133 (allS g_b132 all0)
      have V_b106_133 := V_b106_132.keep K133 (ninS ne_b106_b132 nin0)
      have V_b110_133 := V_b110_132.keep K133 (ninS ne_b110_b132 nin0)
      have r131_0_133 := r131_0_132.keep K133
      have V_b130_133 := V_b130_132.keep K133 (ninS ne_b130_b132 nin0)
      have E_b132_133 := E_b132.keep K133
      have Z133 : n0 ≤ T133.heap.size := Nat.le_trans Z132 K133.1
      have hk133 : T131.heap.size ≤ T133.heap.size := Nat.le_trans hk132 K133.1
      have N133 := Fr.app N131 Nq133
      show own_Fin _ _ _ _ (T133.setTop (mkF m 88 #[iv p1, iv p2, iv p3, iv v3_64, rv b106, iv v5_109, rv b110, rv b129, .unset, .unset, .unset, .unset, .unset] [(.ref b132)]))
      refine own_go (XS.astore X133.here hx rfl (hb hby at_88) rfl rfl rfl (Steps.refl _)) ?_
      show own_Fin _ _ _ _ (T133.setTop (mkF m 90 #[iv p1, iv p2, iv p3, iv v3_64, rv b106, iv v5_109, rv b110, rv b129, rv b132, .unset, .unset, .unset, .unset] []))
      obtain ⟨T134, h134, X134, e134, E134, A134, D134, U134, st134⟩ := newO X133 hx hZ131 hown131 (hw _ (List.mem_of_getElem? (i := 54) rfl)) (hw _ (List.mem_of_getElem? (i := 55) rfl)) (hw _ (List.mem_of_getElem? (i := 56) rfl)) rfl (g := (mkF m 90 #[iv p1, iv p2, iv p3, iv v3_64, rv b106, iv v5_109, rv b110, rv b129, rv b132, .unset, .unset, .unset, .unset] [])) rfl (hb hby at_90) (by decide) (by decide)
      obtain ⟨b134, g134⟩ : ∃ z, z = T133.heap.size := ⟨_, rfl⟩
      rw [← g134] at A134 D134 U134 st134
      refine own_by st134 ?_
      have ne_b106_b134 : b106 ≠ b134 := Nat.ne_of_lt (Nat.lt_of_lt_of_eq V_b106_133.lt g134.symm)
      have ne_b110_b134 : b110 ≠ b134 := Nat.ne_of_lt (Nat.lt_of_lt_of_eq V_b110_133.lt g134.symm)
      have ne_b129_b134 : b129 ≠ b134 := Nat.ne_of_lt (Nat.lt_of_lt_of_eq r131_0_133.lt g134.symm)
      have ne_b130_b134 : b130 ≠ b134 := Nat.ne_of_lt (Nat.lt_of_lt_of_eq V_b130_133.lt g134.symm)
      have ne_b132_b134 : b132 ≠ b134 := Nat.ne_of_lt (Nat.lt_of_lt_of_eq r133_0.lt g134.symm)
      have Od134 := Od133.ext E134
      have V_b106_134 := V_b106_133.ext E134
      have V_b110_134 := V_b110_133.ext E134
      have r131_0_134 := r131_0_133.ext E134
      have V_b130_134 := V_b130_133.ext E134
      have r133_0_134 := r133_0.ext E134
      have r133_1_134 := r133_1.ext E134
      have r133_2_134 := r133_2.ext E134
      have g_b134 : n0 ≤ b134 := Nat.le_trans Z133 (Nat.le_of_eq g134.symm)
      have Z134 : n0 ≤ h134.size := Nat.le_trans Z133 E134.1
      have hk134 : T131.heap.size ≤ h134.size := Nat.le_trans hk133 E134.1
      have E_b134 := A134
      have F_status_b134 : Fld Z h134 b134 "com/example/pryority/pryority/Response" "status" "I" (.int (0 : Int32)) := D134 (Or.inr (hw _ (List.mem_of_getElem? (i := 67) rfl))) (ty := .int) (by decide)
      have F_reason_b134 : Fld Z h134 b134 "com/example/pryority/pryority/Response" "reason" "Ljava/lang/String;" .null := D134 (Or.inr (hw _ (List.mem_of_getElem? (i := 69) rfl))) (ty := (.object "java/lang/String")) (by decide)
      have F_fields_b134 : Fld Z h134 b134 "com/example/pryority/pryority/Response" "fields" "Ljava/util/List;" .null := D134 (Or.inr (hw _ (List.mem_of_getElem? (i := 71) rfl))) (ty := (.object "java/util/List")) (by decide)
      have F_body_b134 : Fld Z h134 b134 "com/example/pryority/pryority/Response" "body" "[B" .null := D134 (Or.inr (hw _ (List.mem_of_getElem? (i := 73) rfl))) (ty := (.array .byte)) (by decide)
      have F_truncated_b134 : Fld Z h134 b134 "com/example/pryority/pryority/Response" "truncated" "Z" (.int (0 : Int32)) := D134 (Or.inr (hw _ (List.mem_of_getElem? (i := 75) rfl))) (ty := .boolean) (by decide)
      show own_Fin _ _ _ _ (T134.setTop (mkF m 93 #[iv p1, iv p2, iv p3, iv v3_64, rv b106, iv v5_109, rv b110, rv b129, rv b132, .unset, .unset, .unset, .unset] [(.ref b134)]))
      refine own_go (XS.dup X134.here hx rfl (hb hby at_93) rfl rfl (Steps.refl _)) ?_
      show own_Fin _ _ _ _ (T134.setTop (mkF m 94 #[iv p1, iv p2, iv p3, iv v3_64, rv b106, iv v5_109, rv b110, rv b129, rv b132, .unset, .unset, .unset, .unset] [(.ref b134), (.ref b134)]))
      refine own_go (XS.iload X134.here hx rfl (hb hby at_94) rfl (Steps.refl _)) ?_
      show own_Fin _ _ _ _ (T134.setTop (mkF m 96 #[iv p1, iv p2, iv p3, iv v3_64, rv b106, iv v5_109, rv b110, rv b129, rv b132, .unset, .unset, .unset, .unset] [(.int v5_109), (.ref b134), (.ref b134)]))
      refine own_go (XS.aload X134.here hx rfl (hb hby at_96) rfl rfl (Steps.refl _)) ?_
      show own_Fin _ _ _ _ (T134.setTop (mkF m 98 #[iv p1, iv p2, iv p3, iv v3_64, rv b106, iv v5_109, rv b110, rv b129, rv b132, .unset, .unset, .unset, .unset] [(.ref b129), (.int v5_109), (.ref b134), (.ref b134)]))
      refine own_go (XS.aload X134.here hx rfl (hb hby at_98) rfl rfl (Steps.refl _)) ?_
      show own_Fin _ _ _ _ (T134.setTop (mkF m 100 #[iv p1, iv p2, iv p3, iv v3_64, rv b106, iv v5_109, rv b110, rv b129, rv b132, .unset, .unset, .unset, .unset] [(.ref b132), (.ref b129), (.int v5_109), (.ref b134), (.ref b134)]))
      refine own_go (XS.aload X134.here hx rfl (hb hby at_100) rfl rfl (Steps.refl _)) ?_
      show own_Fin _ _ _ _ (T134.setTop (mkF m 102 #[iv p1, iv p2, iv p3, iv v3_64, rv b106, iv v5_109, rv b110, rv b129, rv b132, .unset, .unset, .unset, .unset] [(.ref b106), (.ref b132), (.ref b129), (.int v5_109), (.ref b134), (.ref b134)]))
      refine own_go (XS.iloadN X134.here hx rfl (hb hby at_102) rfl (Steps.refl _)) ?_
      show own_Fin _ _ _ _ (T134.setTop (mkF m 103 #[iv p1, iv p2, iv p3, iv v3_64, rv b106, iv v5_109, rv b110, rv b129, rv b132, .unset, .unset, .unset, .unset] [(.int v3_64), (.ref b106), (.ref b132), (.ref b129), (.int v5_109), (.ref b134), (.ref b134)]))
      obtain ⟨_, _, ⟨T135, L135, k135, n135⟩, -, X135, ⟨Lc135, hQ135, l135, y135, z135⟩, st135⟩ := X134.specialBack hx (y := (⟨"com/example/pryority/pryority/Response", "<init>", "(ILjava/lang/String;Ljava/util/List;[BZ)V"⟩ : MethodName)) rfl hown131 (mvT hZ131 (hw _ (List.mem_of_getElem? (i := 57) rfl))) (mvT hZ131 (hw _ (List.mem_of_getElem? (i := 58) rfl))) (mvT hZ131 (hw _ (List.mem_of_getElem? (i := 59) rfl))) (by decide) (backOf (W := 1) (rmr5 l Z a0 hw [] b134 v5_109 b129 b132 b106 v3_64 h134 n0 Z134 E_b134 F_status_b134 F_reason_b134 F_fields_b134 F_body_b134 F_truncated_b134 g_b134) hZ131 (hw _ (List.mem_of_getElem? (i := 59) rfl)) (hw _ (List.mem_of_getElem? (i := 56) rfl)) (by decide) (by decide)) (g := (mkF m 103 #[iv p1, iv p2, iv p3, iv v3_64, rv b106, iv v5_109, rv b110, rv b129, rv b132, .unset, .unset, .unset, .unset] [(.int v3_64), (.ref b106), (.ref b132), (.ref b129), (.int v5_109), (.ref b134), (.ref b134)])) rfl (by rw [hml]; rfl) (Steps.refl _) (a := b134) (argsL := [(.int v5_109), (.ref b129), (.ref b132), (.ref b106), (.int v3_64)]) (rest := [(.ref b134)]) (lenOf pd__28_ILjava_2f_lang_2f_String_3b_Ljava_2f_util_2f_List_3b__5b_BZ_29_V rfl) rfl (by show 2 * 0 + _ ≤ _; exact Nat.le_of_eq rfl) (hb hby at_103) (fun _ hv => ⟨rfl, e134, (by decide : 8 + 0 ≤ _), (by decide : 18 + 0 ≤ _)⟩)
      dsimp only [Pt.U, Pt.locs, Pt.cells, Pt.slots] at X135 l135 y135 z135 st135 hQ135
      subst l135 y135 z135
      refine own_go st135 ?_
      obtain ⟨rfl, Nq135, K135, r135_0, r135_1⟩ := hQ135
      have Od135 := Od134.keep K135 (allS g_b134 all0)
      have V_b106_135 := V_b106_134.keep K135 (ninS ne_b106_b134 nin0)
      have V_b110_135 := V_b110_134.keep K135 (ninS ne_b110_b134 nin0)
      have r131_0_135 := r131_0_134.keep K135
      have V_b130_135 := V_b130_134.keep K135 (ninS ne_b130_b134 nin0)
      have r133_0_135 := r133_0_134.keep K135
      have r133_1_135 := r133_1_134.keep K135 (ninS ne_b132_b134 nin0)
      have r133_2_135 := r133_2_134.keep K135 (ninS ne_b132_b134 nin0)
      have E_b134_135 := E_b134.keep K135
      have Z135 : n0 ≤ T135.heap.size := Nat.le_trans Z134 K135.1
      have hk135 : T131.heap.size ≤ T135.heap.size := Nat.le_trans hk134 K135.1
      have N135 := Fr.app N133 Nq135
      show own_Fin _ _ _ _ (T135.setTop (mkF m 106 #[iv p1, iv p2, iv p3, iv v3_64, rv b106, iv v5_109, rv b110, rv b129, rv b132, .unset, .unset, .unset, .unset] [(.ref b134)]))
      refine own_go (XS.astore X135.here hx rfl (hb hby at_106) rfl rfl rfl (Steps.refl _)) ?_
      show own_Fin _ _ _ _ (T135.setTop (mkF m 108 #[iv p1, iv p2, iv p3, iv v3_64, rv b106, iv v5_109, rv b110, rv b129, rv b132, rv b134, .unset, .unset, .unset] []))
      have di136 : Steps p.tables e below (T135.setTop (mkF m 108 #[iv p1, iv p2, iv p3, iv v3_64, rv b106, iv v5_109, rv b110, rv b129, rv b132, rv b134, .unset, .unset, .unset] [])) (T135.setTop (mkF m 123 #[iv p1, iv p2, iv p3, iv v3_64, rv b106, iv v5_109, rv b110, rv b129, rv b132, rv b134, .unset, .unset, .unset] [(.int (own_ex v5_109))])) := by
        refine XS.iload X135.here hx rfl (hb hby at_108) rfl ?_
        show Steps _ _ _ (T135.setTop (mkF m 110 #[iv p1, iv p2, iv p3, iv v3_64, rv b106, iv v5_109, rv b110, rv b129, rv b132, rv b134, .unset, .unset, .unset] [(.int v5_109)])) _
        by_cases c110_137 : v5_109 < (0 : Int32)
        · refine XS.ifYes X135.here hx rfl (pc0 := 110) (pc' := 118) rfl (hb hby at_110) rfl ((if0 _ _).trans (tlt c110_137).1) (by decide) (by decide) ?_
          show Steps _ _ _ (T135.setTop (mkF m 118 #[iv p1, iv p2, iv p3, iv v3_64, rv b106, iv v5_109, rv b110, rv b129, rv b132, rv b134, .unset, .unset, .unset] [])) _
          refine XS.iconst X135.here hx rfl (hb hby at_118) ?_
          show Steps _ _ _ (T135.setTop (mkF m 119 #[iv p1, iv p2, iv p3, iv v3_64, rv b106, iv v5_109, rv b110, rv b129, rv b132, rv b134, .unset, .unset, .unset] [(.int (1 : Int32))])) _
          refine XS.goto X135.here hx rfl (pc0 := 119) (pc' := 123) rfl (hb hby at_119) (by decide) (by decide) ?_
          show Steps _ _ _ (T135.setTop (mkF m 123 #[iv p1, iv p2, iv p3, iv v3_64, rv b106, iv v5_109, rv b110, rv b129, rv b132, rv b134, .unset, .unset, .unset] [(.int (1 : Int32))])) _
          rw [show (own_ex v5_109) = (1 : Int32) from by simp [own_ex, c110_137]]; exact Steps.refl _
        · refine XS.ifNo X135.here hx rfl (hb hby at_110) rfl ((if0 _ _).trans (flt c110_137).1) ?_
          show Steps _ _ _ (T135.setTop (mkF m 113 #[iv p1, iv p2, iv p3, iv v3_64, rv b106, iv v5_109, rv b110, rv b129, rv b132, rv b134, .unset, .unset, .unset] [])) _
          refine XS.iload X135.here hx rfl (hb hby at_113) rfl ?_
          show Steps _ _ _ (T135.setTop (mkF m 115 #[iv p1, iv p2, iv p3, iv v3_64, rv b106, iv v5_109, rv b110, rv b129, rv b132, rv b134, .unset, .unset, .unset] [(.int v5_109)])) _
          by_cases c115_138 : (0 : Int32) < v5_109
          · refine XS.ifNo X135.here hx rfl (hb hby at_115) rfl ((if0 _ _).trans (tlt c115_138).2.2.2) ?_
            show Steps _ _ _ (T135.setTop (mkF m 118 #[iv p1, iv p2, iv p3, iv v3_64, rv b106, iv v5_109, rv b110, rv b129, rv b132, rv b134, .unset, .unset, .unset] [])) _
            refine XS.iconst X135.here hx rfl (hb hby at_118) ?_
            show Steps _ _ _ (T135.setTop (mkF m 119 #[iv p1, iv p2, iv p3, iv v3_64, rv b106, iv v5_109, rv b110, rv b129, rv b132, rv b134, .unset, .unset, .unset] [(.int (1 : Int32))])) _
            refine XS.goto X135.here hx rfl (pc0 := 119) (pc' := 123) rfl (hb hby at_119) (by decide) (by decide) ?_
            show Steps _ _ _ (T135.setTop (mkF m 123 #[iv p1, iv p2, iv p3, iv v3_64, rv b106, iv v5_109, rv b110, rv b129, rv b132, rv b134, .unset, .unset, .unset] [(.int (1 : Int32))])) _
            rw [show (own_ex v5_109) = (1 : Int32) from by simp [own_ex, c110_137, c115_138]]; exact Steps.refl _
          · refine XS.ifYes X135.here hx rfl (pc0 := 115) (pc' := 122) rfl (hb hby at_115) rfl ((if0 _ _).trans (flt c115_138).2.2.2) (by decide) (by decide) ?_
            show Steps _ _ _ (T135.setTop (mkF m 122 #[iv p1, iv p2, iv p3, iv v3_64, rv b106, iv v5_109, rv b110, rv b129, rv b132, rv b134, .unset, .unset, .unset] [])) _
            refine XS.iconst X135.here hx rfl (hb hby at_122) ?_
            show Steps _ _ _ (T135.setTop (mkF m 123 #[iv p1, iv p2, iv p3, iv v3_64, rv b106, iv v5_109, rv b110, rv b129, rv b132, rv b134, .unset, .unset, .unset] [(.int (0 : Int32))])) _
            rw [show (own_ex v5_109) = (0 : Int32) from by simp [own_ex, c110_137, c115_138]]; exact Steps.refl _
      refine own_go di136 ?_
      show own_Fin _ _ _ _ (T135.setTop (mkF m 123 #[iv p1, iv p2, iv p3, iv v3_64, rv b106, iv v5_109, rv b110, rv b129, rv b132, rv b134, .unset, .unset, .unset] [(.int (own_ex v5_109))]))
      refine own_go (XS.istore X135.here hx rfl (hb hby at_123) rfl rfl (Steps.refl _)) ?_
      show own_Fin _ _ _ _ (T135.setTop (mkF m 125 #[iv p1, iv p2, iv p3, iv v3_64, rv b106, iv v5_109, rv b110, rv b129, rv b132, rv b134, iv (own_ex v5_109), .unset, .unset] []))
      generalize hz_v10_139 : (own_ex v5_109) = v10_139
      refine own_go (XS.aload X135.here hx rfl (hb hby at_125) rfl rfl (Steps.refl _)) ?_
      show own_Fin _ _ _ _ (T135.setTop (mkF m 127 #[iv p1, iv p2, iv p3, iv v3_64, rv b106, iv v5_109, rv b110, rv b129, rv b132, rv b134, iv v10_139, .unset, .unset] [(.ref b134)]))
      obtain ⟨cq140, kq140, q140a, q140b, q140c⟩ := isOf hZ131 rfl r135_0
      obtain ⟨_, _, ⟨T140, L140, k140, n140⟩, -, X140, ⟨Lc140, hQ140, l140, y140, z140⟩, st140⟩ := X135.virtualBack hx (y := (⟨"com/example/pryority/pryority/Response", "isAnswer", "()Z"⟩ : MethodName)) (z := (⟨"com/example/pryority/pryority/Response", "isAnswer", "()Z"⟩ : MethodName)) hown131 (mvT hZ131 (hw _ (List.mem_of_getElem? (i := 76) rfl))) (mvT hZ131 (hw _ (List.mem_of_getElem? (i := 77) rfl))) (notFace_of_selects (args := #[]) (mvT hZ131 (hw _ (List.mem_of_getElem? (i := 79) rfl)))) (mvT hZ131 (hw _ (List.mem_of_getElem? (i := 79) rfl))) (mvT hZ131 (hw _ (List.mem_of_getElem? (i := 78) rfl))) (by decide) (backOf (W := 0) (rmia l Z a0 hw [] b134 v5_109 T135.heap n0 Z135 r135_1) hZ131 (hw _ (List.mem_of_getElem? (i := 80) rfl)) (hw _ (List.mem_of_getElem? (i := 56) rfl)) (by decide) (by decide)) q140a q140c (g := (mkF m 127 #[iv p1, iv p2, iv p3, iv v3_64, rv b106, iv v5_109, rv b110, rv b129, rv b132, rv b134, iv v10_139, .unset, .unset] [(.ref b134)])) rfl (by rw [hml]; rfl) (Steps.refl _) (argsL := []) (rest := []) (lenOf pd__28__29_Z rfl) rfl (by show 2 * 0 + _ ≤ _; exact Nat.le_of_eq rfl) (hb hby at_127) (fun _ hv => ⟨rfl, rfl, (by decide : 8 + 0 ≤ _), (by decide : 18 + 0 ≤ _)⟩)
      dsimp only [Pt.U, Pt.locs, Pt.cells, Pt.slots] at X140 l140 y140 z140 st140 hQ140
      subst l140 y140 z140
      obtain ⟨rfl, Nq140, e140⟩ := hQ140
      refine own_go st140 ?_
      have N140 := Fr.app N135 Nq140
      show own_Fin _ _ _ _ (T140.setTop (mkF m 130 #[iv p1, iv p2, iv p3, iv v3_64, rv b106, iv v5_109, rv b110, rv b129, rv b132, rv b134, iv v10_139, .unset, .unset] [(.int (own_an v5_109))]))
      refine own_go (XS.istore X140.here hx rfl (hb hby at_130) rfl rfl (Steps.refl _)) ?_
      show own_Fin _ _ _ _ (T140.setTop (mkF m 132 #[iv p1, iv p2, iv p3, iv v3_64, rv b106, iv v5_109, rv b110, rv b129, rv b132, rv b134, iv v10_139, iv (own_an v5_109), .unset] []))
      generalize hz_v11_141 : (own_an v5_109) = v11_141
      obtain ⟨_, _, ⟨T142, L142, k142, n142⟩, -, X142, hs2142, hgr142, ⟨Lc142, hQ142, l142, y142, z142⟩, st142⟩ := callSS X140 hx (y := (⟨"com/example/pryority/pryority/Response", "noAnswer", "()Lcom/example/pryority/pryority/Response;"⟩ : MethodName)) hown131 (mvT hZ131 (hw _ (List.mem_of_getElem? (i := 81) rfl))) (mvT hZ131 (hw _ (List.mem_of_getElem? (i := 82) rfl))) (mvT hZ131 (hw _ (List.mem_of_getElem? (i := 56) rfl))) (mvT hZ131 (hw _ (List.mem_of_getElem? (i := 83) rfl))) (by decide) (backOfS (W := 0) (rmna l Z a0 hw [] el T135.heap n0 Z135 Od135 S_EMPTY_LIST) hZ131 (hw _ (List.mem_of_getElem? (i := 83) rfl)) (hw _ (List.mem_of_getElem? (i := 56) rfl)) (by decide) (by decide)) (g := (mkF m 132 #[iv p1, iv p2, iv p3, iv v3_64, rv b106, iv v5_109, rv b110, rv b129, rv b132, rv b134, iv v10_139, iv v11_141, .unset] [])) rfl (by rw [hml]; rfl) (argsL := []) (rest := []) (lenOf pd__28__29_Lcom_2f_example_2f_pryority_2f_pryority_2f_Response_3b_ rfl) rfl (by show 2 * 0 + _ ≤ _; exact Nat.le_of_eq rfl) (hb hby at_132) (fun _ hv => ⟨rfl, e140, (by decide : 8 + 4 ≤ _), (by decide : 18 + 9 ≤ _)⟩)
      dsimp only [Pt.U, Pt.locs, Pt.cells, Pt.slots] at X142 l142 y142 z142 st142 hQ142 hs2142 hgr142
      subst l142 y142 z142
      obtain ⟨Xr142, hS142, hZ142, hown142⟩ := rebS hS131 (show T131.heap.size ≤ T140.heap.size by rw [e140]; exact hk135) X142 hs2142 hgr142 hZ131 hown131
      refine own_go st142 ?_
      obtain ⟨r_142, rfl, Nq142, K142, g_r_142, sb_r_142, r142_0, r142_1⟩ := hQ142
      have ne_b106_r_142 : b106 ≠ r_142 := Nat.ne_of_lt (Nat.lt_of_lt_of_le V_b106_135.lt sb_r_142)
      have ne_b110_r_142 : b110 ≠ r_142 := Nat.ne_of_lt (Nat.lt_of_lt_of_le V_b110_135.lt sb_r_142)
      have ne_b129_r_142 : b129 ≠ r_142 := Nat.ne_of_lt (Nat.lt_of_lt_of_le r131_0_135.lt sb_r_142)
      have ne_b130_r_142 : b130 ≠ r_142 := Nat.ne_of_lt (Nat.lt_of_lt_of_le V_b130_135.lt sb_r_142)
      have ne_b132_r_142 : b132 ≠ r_142 := Nat.ne_of_lt (Nat.lt_of_lt_of_le r133_0_135.lt sb_r_142)
      have ne_b134_r_142 : b134 ≠ r_142 := Nat.ne_of_lt (Nat.lt_of_lt_of_le r135_0.lt sb_r_142)
      have Od142 := Od135.keep K142 all0
      have V_b106_142 := V_b106_135.keep K142 nin0
      have V_b110_142 := V_b110_135.keep K142 nin0
      have r131_0_142 := r131_0_135.keep K142
      have V_b130_142 := V_b130_135.keep K142 nin0
      have r133_0_142 := r133_0_135.keep K142
      have r133_1_142 := r133_1_135.keep K142 nin0
      have r133_2_142 := r133_2_135.keep K142 nin0
      have r135_0_142 := r135_0.keep K142
      have r135_1_142 := r135_1.keep K142 nin0
      have Z142 : n0 ≤ T142.heap.size := Nat.le_trans Z135 K142.1
      have hk142 : T131.heap.size ≤ T142.heap.size := Nat.le_trans hk135 K142.1
      have hkr142 : T142.heap.size ≤ T142.heap.size := Nat.le_refl _
      have N142 := Fr.app N140 Nq142
      show own_Fin _ _ _ _ (T142.setTop (mkF m 135 #[iv p1, iv p2, iv p3, iv v3_64, rv b106, iv v5_109, rv b110, rv b129, rv b132, rv b134, iv v10_139, iv v11_141, .unset] [(.ref r_142)]))
      refine own_go (XS.astore Xr142.here hx rfl (hb hby at_135) rfl rfl rfl (Steps.refl _)) ?_
      show own_Fin _ _ _ _ (T142.setTop (mkF m 137 #[iv p1, iv p2, iv p3, iv v3_64, rv b106, iv v5_109, rv b110, rv b129, rv b132, rv b134, iv v10_139, iv v11_141, rv r_142] []))
      refine own_go (XS.iload Xr142.here hx rfl (hb hby at_137) rfl (Steps.refl _)) ?_
      show own_Fin _ _ _ _ (T142.setTop (mkF m 139 #[iv p1, iv p2, iv p3, iv v3_64, rv b106, iv v5_109, rv b110, rv b129, rv b132, rv b134, iv v10_139, iv v11_141, rv r_142] [(.int v11_141)]))
      refine own_go (XS.iload Xr142.here hx rfl (hb hby at_139) rfl (Steps.refl _)) ?_
      show own_Fin _ _ _ _ (T142.setTop (mkF m 141 #[iv p1, iv p2, iv p3, iv v3_64, rv b106, iv v5_109, rv b110, rv b129, rv b132, rv b134, iv v10_139, iv v11_141, rv r_142] [(.int v10_139), (.int v11_141)]))
      refine own_go (XS.icmpNo Xr142.here hx rfl (hb hby at_141) rfl (teq (show v11_141 = v10_139 from (by rw [← hz_v11_141, ← hz_v10_139]; exact own_exan _))).2 (Steps.refl _)) ?_
      show own_Fin _ _ _ _ (T142.setTop (mkF m 144 #[iv p1, iv p2, iv p3, iv v3_64, rv b106, iv v5_109, rv b110, rv b129, rv b132, rv b134, iv v10_139, iv v11_141, rv r_142] []))
      refine own_go (XS.aload Xr142.here hx rfl (hb hby at_144) rfl rfl (Steps.refl _)) ?_
      show own_Fin _ _ _ _ (T142.setTop (mkF m 146 #[iv p1, iv p2, iv p3, iv v3_64, rv b106, iv v5_109, rv b110, rv b129, rv b132, rv b134, iv v10_139, iv v11_141, rv r_142] [(.ref r_142)]))
      obtain ⟨cq143, kq143, q143a, q143b, q143c⟩ := isOf hZ142 rfl r142_0
      obtain ⟨_, _, ⟨T143, L143, k143, n143⟩, -, X143, ⟨Lc143, hQ143, l143, y143, z143⟩, st143⟩ := Xr142.virtualBack hx (y := (⟨"com/example/pryority/pryority/Response", "isAnswer", "()Z"⟩ : MethodName)) (z := (⟨"com/example/pryority/pryority/Response", "isAnswer", "()Z"⟩ : MethodName)) hown142 (mvT hZ142 (hw _ (List.mem_of_getElem? (i := 76) rfl))) (mvT hZ142 (hw _ (List.mem_of_getElem? (i := 77) rfl))) (notFace_of_selects (args := #[]) (mvT hZ142 (hw _ (List.mem_of_getElem? (i := 79) rfl)))) (mvT hZ142 (hw _ (List.mem_of_getElem? (i := 79) rfl))) (mvT hZ142 (hw _ (List.mem_of_getElem? (i := 78) rfl))) (by decide) (backOf (W := 0) (rmia l Z a0 hw [] r_142 (0 : Int32) T142.heap n0 Z142 r142_1) hZ142 (hw _ (List.mem_of_getElem? (i := 80) rfl)) (hw _ (List.mem_of_getElem? (i := 56) rfl)) (by decide) (by decide)) q143a q143c (g := (mkF m 146 #[iv p1, iv p2, iv p3, iv v3_64, rv b106, iv v5_109, rv b110, rv b129, rv b132, rv b134, iv v10_139, iv v11_141, rv r_142] [(.ref r_142)])) rfl (by rw [hml]; rfl) (Steps.refl _) (argsL := []) (rest := []) (lenOf pd__28__29_Z rfl) rfl (by show 2 * 0 + _ ≤ _; exact Nat.le_of_eq rfl) (hb hby at_146) (fun _ hv => ⟨rfl, rfl, (by decide : 12 + 0 ≤ _), (by decide : 27 + 0 ≤ _)⟩)
      dsimp only [Pt.U, Pt.locs, Pt.cells, Pt.slots] at X143 l143 y143 z143 st143 hQ143
      subst l143 y143 z143
      obtain ⟨rfl, Nq143, e143⟩ := hQ143
      refine own_go st143 ?_
      have N143 := Fr.app N142 Nq143
      show own_Fin _ _ _ _ (T143.setTop (mkF m 149 #[iv p1, iv p2, iv p3, iv v3_64, rv b106, iv v5_109, rv b110, rv b129, rv b132, rv b134, iv v10_139, iv v11_141, rv r_142] [(.int (own_an (0 : Int32)))]))
      refine own_go (XS.ifNo X143.here hx rfl (hb hby at_149) rfl ((if0 _ _).trans (teq (show (own_an (0 : Int32)) = (0 : Int32) from rfl)).2) (Steps.refl _)) ?_
      show own_Fin _ _ _ _ (T143.setTop (mkF m 152 #[iv p1, iv p2, iv p3, iv v3_64, rv b106, iv v5_109, rv b110, rv b129, rv b132, rv b134, iv v10_139, iv v11_141, rv r_142] []))
      refine own_go (XS.iconst X143.here hx rfl (hb hby at_152) (Steps.refl _)) ?_
      show own_Fin _ _ _ _ (T143.setTop (mkF m 153 #[iv p1, iv p2, iv p3, iv v3_64, rv b106, iv v5_109, rv b110, rv b129, rv b132, rv b134, iv v10_139, iv v11_141, rv r_142] [(.int (1 : Int32))]))
      refine own_go (XS.goto X143.here hx rfl (pc0 := 153) (pc' := 157) rfl (hb hby at_153) (by decide) (by decide) (Steps.refl _)) ?_
      show own_Fin _ _ _ _ (T143.setTop (mkF m 157 #[iv p1, iv p2, iv p3, iv v3_64, rv b106, iv v5_109, rv b110, rv b129, rv b132, rv b134, iv v10_139, iv v11_141, rv r_142] [(.int (1 : Int32))]))
      obtain ⟨fs144, hr144, hrun144, hended144, hRW144⟩ := X143.leaveW (s := s) hS142 (n := T142.heap.size) (by rw [e143]; exact hkr142) (v := some (.int (1 : Int32))) (fun h => by rw [Bd.returns] at h; cases h)
      refine own_done (retN X143 hx (t := .boolean) Bd.returns (by simp) (hb hby at_157) hr144) hrun144 hended144 ⟨_, _, rfl, ?_, hRW144.1, hRW144.2.1, hRW144.2.2.1, hRW144.2.2.2.mono (by decide) (by decide)⟩
      show Q0 Z p1 p2 p3 cs dd el h0 n0 _ T143.heap _
      rw [e143]
      exact ⟨rfl, N143⟩
  · show own_Fin _ _ _ _ (s₁.setTop (mkF m 17 #[iv p1, iv p2, iv p3, iv v3_64, .unset, .unset, .unset, .unset, .unset, .unset, .unset, .unset, .unset] [(.int (2 : Int32))]))
    obtain ⟨T145, h145, k145, X145, e145, E145, A145, st145⟩ := newP X0w hx hZ (hw _ (List.mem_of_getElem? (i := 0) rfl)) e0 (g := (mkF m 17 #[iv p1, iv p2, iv p3, iv v3_64, .unset, .unset, .unset, .unset, .unset, .unset, .unset, .unset, .unset] [(.int (2 : Int32))])) rfl (hb hby at_17) rfl (by decide) (cap := 2) (by decide) (by decide) (by decide) (by decide)
    obtain ⟨b145, g145⟩ : ∃ z, z = h0.size := ⟨_, rfl⟩
    rw [← g145] at A145 st145
    refine own_by st145 ?_
    have Od145 := O0.ext E145
    have g_b145 : n0 ≤ b145 := Nat.le_trans Z0 (Nat.le_of_eq g145.symm)
    have Z145 : n0 ≤ h145.size := Nat.le_trans Z0 E145.1
    have hk145 : 0 ≤ h145.size := Nat.le_trans hk0 E145.1
    have V_b145 : Arv Z h145 b145 k145 .byte (2 : Int32) [(.int (0 : Int32)), (.int (0 : Int32))] (.int (0 : Int32)) := (Arv.new A145 (by decide)).pad (pad_rep [] (.int (0 : Int32)) 2)
    show own_Fin _ _ _ _ (T145.setTop (mkF m 19 #[iv p1, iv p2, iv p3, iv v3_64, .unset, .unset, .unset, .unset, .unset, .unset, .unset, .unset, .unset] [(.ref b145)]))
    refine own_go (XS.astore X145.here hx rfl (hb hby at_19) rfl rfl rfl (Steps.refl _)) ?_
    show own_Fin _ _ _ _ (T145.setTop (mkF m 21 #[iv p1, iv p2, iv p3, iv v3_64, rv b145, .unset, .unset, .unset, .unset, .unset, .unset, .unset, .unset] []))
    refine own_go (XS.iloadN X145.here hx rfl (hb hby at_21) rfl (Steps.refl _)) ?_
    show own_Fin _ _ _ _ (T145.setTop (mkF m 22 #[iv p1, iv p2, iv p3, iv v3_64, rv b145, .unset, .unset, .unset, .unset, .unset, .unset, .unset, .unset] [(.int p2)]))
    refine own_go (XS.bipush X145.here hx rfl (hb hby at_22) (Steps.refl _)) ?_
    show own_Fin _ _ _ _ (T145.setTop (mkF m 24 #[iv p1, iv p2, iv p3, iv v3_64, rv b145, .unset, .unset, .unset, .unset, .unset, .unset, .unset, .unset] [(.int (8 : Int32)), (.int p2)]))
    refine own_go (XS.iand X145.here hx rfl (hb hby at_24) rfl (Steps.refl _)) ?_
    show own_Fin _ _ _ _ (T145.setTop (mkF m 25 #[iv p1, iv p2, iv p3, iv v3_64, rv b145, .unset, .unset, .unset, .unset, .unset, .unset, .unset, .unset] [(.int (p2 &&& (8 : Int32)))]))
    have di146 : Steps p.tables e below (T145.setTop (mkF m 25 #[iv p1, iv p2, iv p3, iv v3_64, rv b145, .unset, .unset, .unset, .unset, .unset, .unset, .unset, .unset] [(.int (p2 &&& (8 : Int32)))])) (T145.setTop (mkF m 33 #[iv p1, iv p2, iv p3, iv v3_64, rv b145, .unset, .unset, .unset, .unset, .unset, .unset, .unset, .unset] [(.int (own_st (p2 &&& (8 : Int32)) p1))])) := by
      by_cases c25_147 : (p2 &&& (8 : Int32)) = (0 : Int32)
      · refine XS.ifYes X145.here hx rfl (pc0 := 25) (pc' := 32) rfl (hb hby at_25) rfl ((if0 _ _).trans (teq c25_147).1) (by decide) (by decide) ?_
        show Steps _ _ _ (T145.setTop (mkF m 32 #[iv p1, iv p2, iv p3, iv v3_64, rv b145, .unset, .unset, .unset, .unset, .unset, .unset, .unset, .unset] [])) _
        refine XS.iloadN X145.here hx rfl (hb hby at_32) rfl ?_
        show Steps _ _ _ (T145.setTop (mkF m 33 #[iv p1, iv p2, iv p3, iv v3_64, rv b145, .unset, .unset, .unset, .unset, .unset, .unset, .unset, .unset] [(.int p1)])) _
        rw [show (own_st (p2 &&& (8 : Int32)) p1) = p1 from by simp [own_st, c25_147]]; exact Steps.refl _
      · refine XS.ifNo X145.here hx rfl (hb hby at_25) rfl ((if0 _ _).trans (feq c25_147).1) ?_
        show Steps _ _ _ (T145.setTop (mkF m 28 #[iv p1, iv p2, iv p3, iv v3_64, rv b145, .unset, .unset, .unset, .unset, .unset, .unset, .unset, .unset] [])) _
        refine XS.iconst X145.here hx rfl (hb hby at_28) ?_
        show Steps _ _ _ (T145.setTop (mkF m 29 #[iv p1, iv p2, iv p3, iv v3_64, rv b145, .unset, .unset, .unset, .unset, .unset, .unset, .unset, .unset] [(.int (0 : Int32))])) _
        refine XS.goto X145.here hx rfl (pc0 := 29) (pc' := 33) rfl (hb hby at_29) (by decide) (by decide) ?_
        show Steps _ _ _ (T145.setTop (mkF m 33 #[iv p1, iv p2, iv p3, iv v3_64, rv b145, .unset, .unset, .unset, .unset, .unset, .unset, .unset, .unset] [(.int (0 : Int32))])) _
        rw [show (own_st (p2 &&& (8 : Int32)) p1) = (0 : Int32) from by simp [own_st, c25_147]]; exact Steps.refl _
    refine own_go di146 ?_
    show own_Fin _ _ _ _ (T145.setTop (mkF m 33 #[iv p1, iv p2, iv p3, iv v3_64, rv b145, .unset, .unset, .unset, .unset, .unset, .unset, .unset, .unset] [(.int (own_st (p2 &&& (8 : Int32)) p1))]))
    refine own_go (XS.istore X145.here hx rfl (hb hby at_33) rfl rfl (Steps.refl _)) ?_
    show own_Fin _ _ _ _ (T145.setTop (mkF m 35 #[iv p1, iv p2, iv p3, iv v3_64, rv b145, iv (own_st (p2 &&& (8 : Int32)) p1), .unset, .unset, .unset, .unset, .unset, .unset, .unset] []))
    generalize hz_v5_148 : (own_st (p2 &&& (8 : Int32)) p1) = v5_148
    refine own_go (XS.iconst X145.here hx rfl (hb hby at_35) (Steps.refl _)) ?_
    show own_Fin _ _ _ _ (T145.setTop (mkF m 36 #[iv p1, iv p2, iv p3, iv v3_64, rv b145, iv v5_148, .unset, .unset, .unset, .unset, .unset, .unset, .unset] [(.int (1 : Int32))]))
    obtain ⟨T149, h149, k149, X149, e149, E149, A149, st149⟩ := newP X145 hx hZ (hw _ (List.mem_of_getElem? (i := 1) rfl)) e145 (g := (mkF m 36 #[iv p1, iv p2, iv p3, iv v3_64, rv b145, iv v5_148, .unset, .unset, .unset, .unset, .unset, .unset, .unset] [(.int (1 : Int32))])) rfl (hb hby at_36) rfl (by decide) (cap := 1) (by decide) (by decide) (by decide) (by decide)
    obtain ⟨b149, g149⟩ : ∃ z, z = h145.size := ⟨_, rfl⟩
    rw [← g149] at A149 st149
    refine own_by st149 ?_
    have ne_b145_b149 : b145 ≠ b149 := Nat.ne_of_lt (Nat.lt_of_lt_of_eq V_b145.lt g149.symm)
    have Od149 := Od145.ext E149
    have V_b145_149 := V_b145.ext E149
    have g_b149 : n0 ≤ b149 := Nat.le_trans Z145 (Nat.le_of_eq g149.symm)
    have Z149 : n0 ≤ h149.size := Nat.le_trans Z145 E149.1
    have hk149 : 0 ≤ h149.size := Nat.le_trans hk145 E149.1
    have V_b149 : Arv Z h149 b149 k149 .char (1 : Int32) [(.int (0 : Int32))] (.int (0 : Int32)) := (Arv.new A149 (by decide)).pad (pad_rep [] (.int (0 : Int32)) 1)
    show own_Fin _ _ _ _ (T149.setTop (mkF m 38 #[iv p1, iv p2, iv p3, iv v3_64, rv b145, iv v5_148, .unset, .unset, .unset, .unset, .unset, .unset, .unset] [(.ref b149)]))
    refine own_go (XS.astore X149.here hx rfl (hb hby at_38) rfl rfl rfl (Steps.refl _)) ?_
    show own_Fin _ _ _ _ (T149.setTop (mkF m 40 #[iv p1, iv p2, iv p3, iv v3_64, rv b145, iv v5_148, rv b149, .unset, .unset, .unset, .unset, .unset, .unset] []))
    refine own_go (XS.aload X149.here hx rfl (hb hby at_40) rfl rfl (Steps.refl _)) ?_
    show own_Fin _ _ _ _ (T149.setTop (mkF m 42 #[iv p1, iv p2, iv p3, iv v3_64, rv b145, iv v5_148, rv b149, .unset, .unset, .unset, .unset, .unset, .unset] [(.ref b149)]))
    refine own_go (XS.iconst X149.here hx rfl (hb hby at_42) (Steps.refl _)) ?_
    show own_Fin _ _ _ _ (T149.setTop (mkF m 43 #[iv p1, iv p2, iv p3, iv v3_64, rv b145, iv v5_148, rv b149, .unset, .unset, .unset, .unset, .unset, .unset] [(.int (0 : Int32)), (.ref b149)]))
    refine own_go (XS.iloadN X149.here hx rfl (hb hby at_43) rfl (Steps.refl _)) ?_
    show own_Fin _ _ _ _ (T149.setTop (mkF m 44 #[iv p1, iv p2, iv p3, iv v3_64, rv b145, iv v5_148, rv b149, .unset, .unset, .unset, .unset, .unset, .unset] [(.int p3), (.int (0 : Int32)), (.ref b149)]))
    refine own_go (XS.sipush X149.here hx rfl (hb hby at_44) (Steps.refl _)) ?_
    show own_Fin _ _ _ _ (T149.setTop (mkF m 47 #[iv p1, iv p2, iv p3, iv v3_64, rv b145, iv v5_148, rv b149, .unset, .unset, .unset, .unset, .unset, .unset] [(.int (255 : Int32)), (.int p3), (.int (0 : Int32)), (.ref b149)]))
    refine own_go (XS.iand X149.here hx rfl (hb hby at_47) rfl (Steps.refl _)) ?_
    show own_Fin _ _ _ _ (T149.setTop (mkF m 48 #[iv p1, iv p2, iv p3, iv v3_64, rv b145, iv v5_148, rv b149, .unset, .unset, .unset, .unset, .unset, .unset] [(.int (p3 &&& (255 : Int32))), (.int (0 : Int32)), (.ref b149)]))
    refine own_go (XS.i2c X149.here hx rfl (hb hby at_48) rfl (Steps.refl _)) ?_
    show own_Fin _ _ _ _ (T149.setTop (mkF m 49 #[iv p1, iv p2, iv p3, iv v3_64, rv b145, iv v5_148, rv b149, .unset, .unset, .unset, .unset, .unset, .unset] [(.int ((p3 &&& (255 : Int32)).toUInt32.toUInt16.toUInt32.toInt32)), (.int (0 : Int32)), (.ref b149)]))
    obtain ⟨cl150, Ar150, qa150, Sa150, Na150, Ha150, Ga150⟩ := id V_b149
    have hin150 : ¬ ((0 : Int32) < 0 ∨ cl150.slots.size ≤ ((0 : Int32)).toNatClampNeg) := inb_of Sa150 ⟨by decide, by decide⟩
    obtain ⟨T151, h151, X151, e151, W151, st151⟩ := stC X149 hx hZ e149 Ar150 (j := (0 : Int32)) hin150 (g := (mkF m 49 #[iv p1, iv p2, iv p3, iv v3_64, rv b145, iv v5_148, rv b149, .unset, .unset, .unset, .unset, .unset, .unset] [(.int ((p3 &&& (255 : Int32)).toUInt32.toUInt16.toUInt32.toInt32)), (.int (0 : Int32)), (.ref b149)])) rfl rfl (hb hby at_49)
    refine own_by st151 ?_
    have hnr151 : nar .char ((p3 &&& (255 : Int32)).toUInt32.toUInt16.toUInt32.toInt32) = (p3 &&& (255 : Int32)) := own_nc _
    rw [hnr151] at W151
    have V_b149_151 : Arv Z h151 b149 k149 .char (1 : Int32) [(.int (p3 &&& (255 : Int32)))] (.int (0 : Int32)) := Arv.set Ar150 qa150 Sa150 Na150 Ha150 Ga150 (hnr151 ▸ fits_nar_char ((p3 &&& (255 : Int32)).toUInt32.toUInt16.toUInt32.toInt32)) W151 0 rfl (Nat.le_of_ble_eq_true rfl)
    have Od151 := Od149.wr W151 g_b149
    have V_b145_151 := V_b145_149.other W151 ne_b145_b149
    have N151 := Fr.snoc X151 N0 g_b149
    have Z151 : n0 ≤ h151.size := Nat.le_trans Z149 (Keep.of_wr W151).1
    have hk151 : 0 ≤ h151.size := Nat.le_trans hk149 (Keep.of_wr W151).1
    show own_Fin _ _ _ _ (T151.setTop (mkF m 50 #[iv p1, iv p2, iv p3, iv v3_64, rv b145, iv v5_148, rv b149, .unset, .unset, .unset, .unset, .unset, .unset] []))
    refine own_go (XS.iloadN X151.here hx rfl (hb hby at_50) rfl (Steps.refl _)) ?_
    show own_Fin _ _ _ _ (T151.setTop (mkF m 51 #[iv p1, iv p2, iv p3, iv v3_64, rv b145, iv v5_148, rv b149, .unset, .unset, .unset, .unset, .unset, .unset] [(.int p2)]))
    refine own_go (XS.bipush X151.here hx rfl (hb hby at_51) (Steps.refl _)) ?_
    show own_Fin _ _ _ _ (T151.setTop (mkF m 53 #[iv p1, iv p2, iv p3, iv v3_64, rv b145, iv v5_148, rv b149, .unset, .unset, .unset, .unset, .unset, .unset] [(.int (16 : Int32)), (.int p2)]))
    refine own_go (XS.iand X151.here hx rfl (hb hby at_53) rfl (Steps.refl _)) ?_
    show own_Fin _ _ _ _ (T151.setTop (mkF m 54 #[iv p1, iv p2, iv p3, iv v3_64, rv b145, iv v5_148, rv b149, .unset, .unset, .unset, .unset, .unset, .unset] [(.int (p2 &&& (16 : Int32)))]))
    by_cases c54_152 : (p2 &&& (16 : Int32)) = (0 : Int32)
    · refine own_go (XS.ifYes X151.here hx rfl (pc0 := 54) (pc' := 70) rfl (hb hby at_54) rfl ((if0 _ _).trans (teq c54_152).1) (by decide) (by decide) (Steps.refl _)) ?_
      show own_Fin _ _ _ _ (T151.setTop (mkF m 70 #[iv p1, iv p2, iv p3, iv v3_64, rv b145, iv v5_148, rv b149, .unset, .unset, .unset, .unset, .unset, .unset] []))
      obtain ⟨T153, h153, X153, e153, E153, A153, D153, U153, st153⟩ := newO X151 hx hZ hown (hw _ (List.mem_of_getElem? (i := 2) rfl)) (hw _ (List.mem_of_getElem? (i := 3) rfl)) (hw _ (List.mem_of_getElem? (i := 4) rfl)) e151 (g := (mkF m 70 #[iv p1, iv p2, iv p3, iv v3_64, rv b145, iv v5_148, rv b149, .unset, .unset, .unset, .unset, .unset, .unset] [])) rfl (hb hby at_70) (by decide) (by decide)
      obtain ⟨b153, g153⟩ : ∃ z, z = h151.size := ⟨_, rfl⟩
      rw [← g153] at A153 D153 U153 st153
      refine own_by st153 ?_
      have ne_b145_b153 : b145 ≠ b153 := Nat.ne_of_lt (Nat.lt_of_lt_of_eq V_b145_151.lt g153.symm)
      have ne_b149_b153 : b149 ≠ b153 := Nat.ne_of_lt (Nat.lt_of_lt_of_eq V_b149_151.lt g153.symm)
      have Od153 := Od151.ext E153
      have V_b145_153 := V_b145_151.ext E153
      have V_b149_153 := V_b149_151.ext E153
      have g_b153 : n0 ≤ b153 := Nat.le_trans Z151 (Nat.le_of_eq g153.symm)
      have Z153 : n0 ≤ h153.size := Nat.le_trans Z151 E153.1
      have hk153 : 0 ≤ h153.size := Nat.le_trans hk151 E153.1
      have E_b153 := A153
      have F_coder_b153 : Fld Z h153 b153 "java/lang/String" "coder" "B" (.int (0 : Int32)) := D153 (Or.inr (hw _ (List.mem_of_getElem? (i := 27) rfl))) (ty := .byte) (by decide)
      have F_value_b153 : Fld Z h153 b153 "java/lang/String" "value" "[B" .null := D153 (Or.inr (hw _ (List.mem_of_getElem? (i := 29) rfl))) (ty := (.array .byte)) (by decide)
      show own_Fin _ _ _ _ (T153.setTop (mkF m 73 #[iv p1, iv p2, iv p3, iv v3_64, rv b145, iv v5_148, rv b149, .unset, .unset, .unset, .unset, .unset, .unset] [(.ref b153)]))
      refine own_go (XS.dup X153.here hx rfl (hb hby at_73) rfl rfl (Steps.refl _)) ?_
      show own_Fin _ _ _ _ (T153.setTop (mkF m 74 #[iv p1, iv p2, iv p3, iv v3_64, rv b145, iv v5_148, rv b149, .unset, .unset, .unset, .unset, .unset, .unset] [(.ref b153), (.ref b153)]))
      refine own_go (XS.aload X153.here hx rfl (hb hby at_74) rfl rfl (Steps.refl _)) ?_
      show own_Fin _ _ _ _ (T153.setTop (mkF m 76 #[iv p1, iv p2, iv p3, iv v3_64, rv b145, iv v5_148, rv b149, .unset, .unset, .unset, .unset, .unset, .unset] [(.ref b149), (.ref b153), (.ref b153)]))
      obtain ⟨_, _, ⟨T154, L154, k154, n154⟩, -, X154, ⟨Lc154, hQ154, l154, y154, z154⟩, st154⟩ := X153.specialBack hx (y := (⟨"java/lang/String", "<init>", "([C)V"⟩ : MethodName)) rfl hown (mvT hZ (hw _ (List.mem_of_getElem? (i := 5) rfl))) (mvT hZ (hw _ (List.mem_of_getElem? (i := 6) rfl))) (mvT hZ (hw _ (List.mem_of_getElem? (i := 7) rfl))) (by decide) (backOf (W := 1) (rmstr_1 l Z a0 hw [] b153 b149 k149 cs (p3 &&& (255 : Int32)) h153 n0 Z153 E_b153 F_value_b153 F_coder_b153 g_b153 Od153 S_COMPACT_STRINGS hcs V_b149_153 (own_lt p3)) hZ (hw _ (List.mem_of_getElem? (i := 7) rfl)) (hw _ (List.mem_of_getElem? (i := 4) rfl)) (by decide) (by decide)) (g := (mkF m 76 #[iv p1, iv p2, iv p3, iv v3_64, rv b145, iv v5_148, rv b149, .unset, .unset, .unset, .unset, .unset, .unset] [(.ref b149), (.ref b153), (.ref b153)])) rfl (by rw [hml]; rfl) (Steps.refl _) (a := b153) (argsL := [(.ref b149)]) (rest := [(.ref b153)]) (lenOf pd__28__5b_C_29_V rfl) rfl (by show 2 * 0 + _ ≤ _; exact Nat.le_of_eq rfl) (hb hby at_76) (fun _ hv => ⟨rfl, e153, (by decide : 3 + 1 ≤ _), (by decide : 7 + 1 ≤ _)⟩)
      dsimp only [Pt.U, Pt.locs, Pt.cells, Pt.slots] at X154 l154 y154 z154 st154 hQ154
      subst l154 y154 z154
      refine own_go st154 ?_
      obtain ⟨b_154, kb_154, rfl, Nq154, K154, g_b_154, sb_b_154, r154_0, r154_1, r154_2, r154_3⟩ := hQ154
      have ne_b145_b_154 : b145 ≠ b_154 := Nat.ne_of_lt (Nat.lt_of_lt_of_le V_b145_153.lt sb_b_154)
      have ne_b149_b_154 : b149 ≠ b_154 := Nat.ne_of_lt (Nat.lt_of_lt_of_le V_b149_153.lt sb_b_154)
      have ne_b153_b_154 : b153 ≠ b_154 := Nat.ne_of_lt (Nat.lt_of_lt_of_le E_b153.lt sb_b_154)
      have Od154 := Od153.keep K154 (allS g_b153 all0)
      have V_b145_154 := V_b145_153.keep K154 (ninS ne_b145_b153 nin0)
      have V_b149_154 := V_b149_153.keep K154 (ninS ne_b149_b153 nin0)
      have E_b153_154 := E_b153.keep K154
      have Z154 : n0 ≤ T154.heap.size := Nat.le_trans Z153 K154.1
      have hk154 : 0 ≤ T154.heap.size := Nat.le_trans hk153 K154.1
      have N154 := Fr.app N151 Nq154
      show own_Fin _ _ _ _ (T154.setTop (mkF m 79 #[iv p1, iv p2, iv p3, iv v3_64, rv b145, iv v5_148, rv b149, .unset, .unset, .unset, .unset, .unset, .unset] [(.ref b153)]))
      refine own_go (XS.astore X154.here hx rfl (hb hby at_79) rfl rfl rfl (Steps.refl _)) ?_
      show own_Fin _ _ _ _ (T154.setTop (mkF m 81 #[iv p1, iv p2, iv p3, iv v3_64, rv b145, iv v5_148, rv b149, rv b153, .unset, .unset, .unset, .unset, .unset] []))
      obtain ⟨T155, h155, X155, e155, E155, A155, D155, U155, st155⟩ := newO X154 hx hZ hown (hw _ (List.mem_of_getElem? (i := 30) rfl)) (hw _ (List.mem_of_getElem? (i := 31) rfl)) (hw _ (List.mem_of_getElem? (i := 32) rfl)) rfl (g := (mkF m 81 #[iv p1, iv p2, iv p3, iv v3_64, rv b145, iv v5_148, rv b149, rv b153, .unset, .unset, .unset, .unset, .unset] [])) rfl (hb hby at_81) (by decide) (by decide)
      obtain ⟨b155, g155⟩ : ∃ z, z = T154.heap.size := ⟨_, rfl⟩
      rw [← g155] at A155 D155 U155 st155
      refine own_by st155 ?_
      have ne_b145_b155 : b145 ≠ b155 := Nat.ne_of_lt (Nat.lt_of_lt_of_eq V_b145_154.lt g155.symm)
      have ne_b149_b155 : b149 ≠ b155 := Nat.ne_of_lt (Nat.lt_of_lt_of_eq V_b149_154.lt g155.symm)
      have ne_b153_b155 : b153 ≠ b155 := Nat.ne_of_lt (Nat.lt_of_lt_of_eq r154_0.lt g155.symm)
      have ne_b_154_b155 : b_154 ≠ b155 := Nat.ne_of_lt (Nat.lt_of_lt_of_eq r154_3.lt g155.symm)
      have Od155 := Od154.ext E155
      have V_b145_155 := V_b145_154.ext E155
      have V_b149_155 := V_b149_154.ext E155
      have r154_0_155 := r154_0.ext E155
      have r154_1_155 := r154_1.ext E155
      have r154_2_155 := r154_2.ext E155
      have r154_3_155 := r154_3.ext E155
      have g_b155 : n0 ≤ b155 := Nat.le_trans Z154 (Nat.le_of_eq g155.symm)
      have Z155 : n0 ≤ h155.size := Nat.le_trans Z154 E155.1
      have hk155 : 0 ≤ h155.size := Nat.le_trans hk154 E155.1
      have E_b155 := A155
      have F_modCount_b155 : Fld Z h155 b155 "java/util/AbstractList" "modCount" "I" (.int (0 : Int32)) := D155 (Or.inl (hw _ (List.mem_of_getElem? (i := 50) rfl))) (ty := .int) (by decide)
      have F_elementData_b155 : Fld Z h155 b155 "java/util/ArrayList" "elementData" "[Ljava/lang/Object;" .null := D155 (Or.inl (hw _ (List.mem_of_getElem? (i := 53) rfl))) (ty := (.array (.object "java/lang/Object"))) (by decide)
      show own_Fin _ _ _ _ (T155.setTop (mkF m 84 #[iv p1, iv p2, iv p3, iv v3_64, rv b145, iv v5_148, rv b149, rv b153, .unset, .unset, .unset, .unset, .unset] [(.ref b155)]))
      refine own_go (XS.dup X155.here hx rfl (hb hby at_84) rfl rfl (Steps.refl _)) ?_
      show own_Fin _ _ _ _ (T155.setTop (mkF m 85 #[iv p1, iv p2, iv p3, iv v3_64, rv b145, iv v5_148, rv b149, rv b153, .unset, .unset, .unset, .unset, .unset] [(.ref b155), (.ref b155)]))
      obtain ⟨_, _, ⟨T156, L156, k156, n156⟩, -, X156, ⟨Lc156, hQ156, l156, y156, z156⟩, st156⟩ := X155.specialBack hx (y := (⟨"java/util/ArrayList", "<init>", "()V"⟩ : MethodName)) rfl hown (mvT hZ (hw _ (List.mem_of_getElem? (i := 33) rfl))) (mvT hZ (hw _ (List.mem_of_getElem? (i := 34) rfl))) (mvT hZ (hw _ (List.mem_of_getElem? (i := 35) rfl))) (by decide) (backOf (W := 1) (rmali l Z a0 hw [] b155 dd h155 n0 Z155 E_b155 F_modCount_b155 F_elementData_b155 g_b155 Od155 S_DEFAULTCAPACITY_EMPTY_ELEMENTDATA) hZ (hw _ (List.mem_of_getElem? (i := 35) rfl)) (hw _ (List.mem_of_getElem? (i := 32) rfl)) (by decide) (by decide)) (g := (mkF m 85 #[iv p1, iv p2, iv p3, iv v3_64, rv b145, iv v5_148, rv b149, rv b153, .unset, .unset, .unset, .unset, .unset] [(.ref b155), (.ref b155)])) rfl (by rw [hml]; rfl) (Steps.refl _) (a := b155) (argsL := []) (rest := [(.ref b155)]) (lenOf pd__28__29_V rfl) rfl (by show 2 * 0 + _ ≤ _; exact Nat.le_of_eq rfl) (hb hby at_85) (fun _ hv => ⟨rfl, e155, (by decide : 5 + 0 ≤ _), (by decide : 11 + 0 ≤ _)⟩)
      dsimp only [Pt.U, Pt.locs, Pt.cells, Pt.slots] at X156 l156 y156 z156 st156 hQ156
      subst l156 y156 z156
      refine own_go st156 ?_
      obtain ⟨rfl, Nq156, K156, r156_0, r156_1, r156_2⟩ := hQ156
      have Od156 := Od155.keep K156 (allS g_b155 all0)
      have V_b145_156 := V_b145_155.keep K156 (ninS ne_b145_b155 nin0)
      have V_b149_156 := V_b149_155.keep K156 (ninS ne_b149_b155 nin0)
      have r154_0_156 := r154_0_155.keep K156
      have r154_1_156 := r154_1_155.keep K156 (ninS ne_b153_b155 nin0)
      have r154_2_156 := r154_2_155.keep K156 (ninS ne_b153_b155 nin0)
      have r154_3_156 := r154_3_155.keep K156 (ninS ne_b_154_b155 nin0)
      have E_b155_156 := E_b155.keep K156
      have Z156 : n0 ≤ T156.heap.size := Nat.le_trans Z155 K156.1
      have hk156 : 0 ≤ T156.heap.size := Nat.le_trans hk155 K156.1
      have N156 := Fr.app N154 Nq156
      show own_Fin _ _ _ _ (T156.setTop (mkF m 88 #[iv p1, iv p2, iv p3, iv v3_64, rv b145, iv v5_148, rv b149, rv b153, .unset, .unset, .unset, .unset, .unset] [(.ref b155)]))
      refine own_go (XS.astore X156.here hx rfl (hb hby at_88) rfl rfl rfl (Steps.refl _)) ?_
      show own_Fin _ _ _ _ (T156.setTop (mkF m 90 #[iv p1, iv p2, iv p3, iv v3_64, rv b145, iv v5_148, rv b149, rv b153, rv b155, .unset, .unset, .unset, .unset] []))
      obtain ⟨T157, h157, X157, e157, E157, A157, D157, U157, st157⟩ := newO X156 hx hZ hown (hw _ (List.mem_of_getElem? (i := 54) rfl)) (hw _ (List.mem_of_getElem? (i := 55) rfl)) (hw _ (List.mem_of_getElem? (i := 56) rfl)) rfl (g := (mkF m 90 #[iv p1, iv p2, iv p3, iv v3_64, rv b145, iv v5_148, rv b149, rv b153, rv b155, .unset, .unset, .unset, .unset] [])) rfl (hb hby at_90) (by decide) (by decide)
      obtain ⟨b157, g157⟩ : ∃ z, z = T156.heap.size := ⟨_, rfl⟩
      rw [← g157] at A157 D157 U157 st157
      refine own_by st157 ?_
      have ne_b145_b157 : b145 ≠ b157 := Nat.ne_of_lt (Nat.lt_of_lt_of_eq V_b145_156.lt g157.symm)
      have ne_b149_b157 : b149 ≠ b157 := Nat.ne_of_lt (Nat.lt_of_lt_of_eq V_b149_156.lt g157.symm)
      have ne_b153_b157 : b153 ≠ b157 := Nat.ne_of_lt (Nat.lt_of_lt_of_eq r154_0_156.lt g157.symm)
      have ne_b_154_b157 : b_154 ≠ b157 := Nat.ne_of_lt (Nat.lt_of_lt_of_eq r154_3_156.lt g157.symm)
      have ne_b155_b157 : b155 ≠ b157 := Nat.ne_of_lt (Nat.lt_of_lt_of_eq r156_0.lt g157.symm)
      have Od157 := Od156.ext E157
      have V_b145_157 := V_b145_156.ext E157
      have V_b149_157 := V_b149_156.ext E157
      have r154_0_157 := r154_0_156.ext E157
      have r154_1_157 := r154_1_156.ext E157
      have r154_2_157 := r154_2_156.ext E157
      have r154_3_157 := r154_3_156.ext E157
      have r156_0_157 := r156_0.ext E157
      have r156_1_157 := r156_1.ext E157
      have r156_2_157 := r156_2.ext E157
      have g_b157 : n0 ≤ b157 := Nat.le_trans Z156 (Nat.le_of_eq g157.symm)
      have Z157 : n0 ≤ h157.size := Nat.le_trans Z156 E157.1
      have hk157 : 0 ≤ h157.size := Nat.le_trans hk156 E157.1
      have E_b157 := A157
      have F_status_b157 : Fld Z h157 b157 "com/example/pryority/pryority/Response" "status" "I" (.int (0 : Int32)) := D157 (Or.inr (hw _ (List.mem_of_getElem? (i := 67) rfl))) (ty := .int) (by decide)
      have F_reason_b157 : Fld Z h157 b157 "com/example/pryority/pryority/Response" "reason" "Ljava/lang/String;" .null := D157 (Or.inr (hw _ (List.mem_of_getElem? (i := 69) rfl))) (ty := (.object "java/lang/String")) (by decide)
      have F_fields_b157 : Fld Z h157 b157 "com/example/pryority/pryority/Response" "fields" "Ljava/util/List;" .null := D157 (Or.inr (hw _ (List.mem_of_getElem? (i := 71) rfl))) (ty := (.object "java/util/List")) (by decide)
      have F_body_b157 : Fld Z h157 b157 "com/example/pryority/pryority/Response" "body" "[B" .null := D157 (Or.inr (hw _ (List.mem_of_getElem? (i := 73) rfl))) (ty := (.array .byte)) (by decide)
      have F_truncated_b157 : Fld Z h157 b157 "com/example/pryority/pryority/Response" "truncated" "Z" (.int (0 : Int32)) := D157 (Or.inr (hw _ (List.mem_of_getElem? (i := 75) rfl))) (ty := .boolean) (by decide)
      show own_Fin _ _ _ _ (T157.setTop (mkF m 93 #[iv p1, iv p2, iv p3, iv v3_64, rv b145, iv v5_148, rv b149, rv b153, rv b155, .unset, .unset, .unset, .unset] [(.ref b157)]))
      refine own_go (XS.dup X157.here hx rfl (hb hby at_93) rfl rfl (Steps.refl _)) ?_
      show own_Fin _ _ _ _ (T157.setTop (mkF m 94 #[iv p1, iv p2, iv p3, iv v3_64, rv b145, iv v5_148, rv b149, rv b153, rv b155, .unset, .unset, .unset, .unset] [(.ref b157), (.ref b157)]))
      refine own_go (XS.iload X157.here hx rfl (hb hby at_94) rfl (Steps.refl _)) ?_
      show own_Fin _ _ _ _ (T157.setTop (mkF m 96 #[iv p1, iv p2, iv p3, iv v3_64, rv b145, iv v5_148, rv b149, rv b153, rv b155, .unset, .unset, .unset, .unset] [(.int v5_148), (.ref b157), (.ref b157)]))
      refine own_go (XS.aload X157.here hx rfl (hb hby at_96) rfl rfl (Steps.refl _)) ?_
      show own_Fin _ _ _ _ (T157.setTop (mkF m 98 #[iv p1, iv p2, iv p3, iv v3_64, rv b145, iv v5_148, rv b149, rv b153, rv b155, .unset, .unset, .unset, .unset] [(.ref b153), (.int v5_148), (.ref b157), (.ref b157)]))
      refine own_go (XS.aload X157.here hx rfl (hb hby at_98) rfl rfl (Steps.refl _)) ?_
      show own_Fin _ _ _ _ (T157.setTop (mkF m 100 #[iv p1, iv p2, iv p3, iv v3_64, rv b145, iv v5_148, rv b149, rv b153, rv b155, .unset, .unset, .unset, .unset] [(.ref b155), (.ref b153), (.int v5_148), (.ref b157), (.ref b157)]))
      refine own_go (XS.aload X157.here hx rfl (hb hby at_100) rfl rfl (Steps.refl _)) ?_
      show own_Fin _ _ _ _ (T157.setTop (mkF m 102 #[iv p1, iv p2, iv p3, iv v3_64, rv b145, iv v5_148, rv b149, rv b153, rv b155, .unset, .unset, .unset, .unset] [(.ref b145), (.ref b155), (.ref b153), (.int v5_148), (.ref b157), (.ref b157)]))
      refine own_go (XS.iloadN X157.here hx rfl (hb hby at_102) rfl (Steps.refl _)) ?_
      show own_Fin _ _ _ _ (T157.setTop (mkF m 103 #[iv p1, iv p2, iv p3, iv v3_64, rv b145, iv v5_148, rv b149, rv b153, rv b155, .unset, .unset, .unset, .unset] [(.int v3_64), (.ref b145), (.ref b155), (.ref b153), (.int v5_148), (.ref b157), (.ref b157)]))
      obtain ⟨_, _, ⟨T158, L158, k158, n158⟩, -, X158, ⟨Lc158, hQ158, l158, y158, z158⟩, st158⟩ := X157.specialBack hx (y := (⟨"com/example/pryority/pryority/Response", "<init>", "(ILjava/lang/String;Ljava/util/List;[BZ)V"⟩ : MethodName)) rfl hown (mvT hZ (hw _ (List.mem_of_getElem? (i := 57) rfl))) (mvT hZ (hw _ (List.mem_of_getElem? (i := 58) rfl))) (mvT hZ (hw _ (List.mem_of_getElem? (i := 59) rfl))) (by decide) (backOf (W := 1) (rmr5 l Z a0 hw [] b157 v5_148 b153 b155 b145 v3_64 h157 n0 Z157 E_b157 F_status_b157 F_reason_b157 F_fields_b157 F_body_b157 F_truncated_b157 g_b157) hZ (hw _ (List.mem_of_getElem? (i := 59) rfl)) (hw _ (List.mem_of_getElem? (i := 56) rfl)) (by decide) (by decide)) (g := (mkF m 103 #[iv p1, iv p2, iv p3, iv v3_64, rv b145, iv v5_148, rv b149, rv b153, rv b155, .unset, .unset, .unset, .unset] [(.int v3_64), (.ref b145), (.ref b155), (.ref b153), (.int v5_148), (.ref b157), (.ref b157)])) rfl (by rw [hml]; rfl) (Steps.refl _) (a := b157) (argsL := [(.int v5_148), (.ref b153), (.ref b155), (.ref b145), (.int v3_64)]) (rest := [(.ref b157)]) (lenOf pd__28_ILjava_2f_lang_2f_String_3b_Ljava_2f_util_2f_List_3b__5b_BZ_29_V rfl) rfl (by show 2 * 0 + _ ≤ _; exact Nat.le_of_eq rfl) (hb hby at_103) (fun _ hv => ⟨rfl, e157, (by decide : 6 + 0 ≤ _), (by decide : 16 + 0 ≤ _)⟩)
      dsimp only [Pt.U, Pt.locs, Pt.cells, Pt.slots] at X158 l158 y158 z158 st158 hQ158
      subst l158 y158 z158
      refine own_go st158 ?_
      obtain ⟨rfl, Nq158, K158, r158_0, r158_1⟩ := hQ158
      have Od158 := Od157.keep K158 (allS g_b157 all0)
      have V_b145_158 := V_b145_157.keep K158 (ninS ne_b145_b157 nin0)
      have V_b149_158 := V_b149_157.keep K158 (ninS ne_b149_b157 nin0)
      have r154_0_158 := r154_0_157.keep K158
      have r154_1_158 := r154_1_157.keep K158 (ninS ne_b153_b157 nin0)
      have r154_2_158 := r154_2_157.keep K158 (ninS ne_b153_b157 nin0)
      have r154_3_158 := r154_3_157.keep K158 (ninS ne_b_154_b157 nin0)
      have r156_0_158 := r156_0_157.keep K158
      have r156_1_158 := r156_1_157.keep K158 (ninS ne_b155_b157 nin0)
      have r156_2_158 := r156_2_157.keep K158 (ninS ne_b155_b157 nin0)
      have E_b157_158 := E_b157.keep K158
      have Z158 : n0 ≤ T158.heap.size := Nat.le_trans Z157 K158.1
      have hk158 : 0 ≤ T158.heap.size := Nat.le_trans hk157 K158.1
      have N158 := Fr.app N156 Nq158
      show own_Fin _ _ _ _ (T158.setTop (mkF m 106 #[iv p1, iv p2, iv p3, iv v3_64, rv b145, iv v5_148, rv b149, rv b153, rv b155, .unset, .unset, .unset, .unset] [(.ref b157)]))
      refine own_go (XS.astore X158.here hx rfl (hb hby at_106) rfl rfl rfl (Steps.refl _)) ?_
      show own_Fin _ _ _ _ (T158.setTop (mkF m 108 #[iv p1, iv p2, iv p3, iv v3_64, rv b145, iv v5_148, rv b149, rv b153, rv b155, rv b157, .unset, .unset, .unset] []))
      have di159 : Steps p.tables e below (T158.setTop (mkF m 108 #[iv p1, iv p2, iv p3, iv v3_64, rv b145, iv v5_148, rv b149, rv b153, rv b155, rv b157, .unset, .unset, .unset] [])) (T158.setTop (mkF m 123 #[iv p1, iv p2, iv p3, iv v3_64, rv b145, iv v5_148, rv b149, rv b153, rv b155, rv b157, .unset, .unset, .unset] [(.int (own_ex v5_148))])) := by
        refine XS.iload X158.here hx rfl (hb hby at_108) rfl ?_
        show Steps _ _ _ (T158.setTop (mkF m 110 #[iv p1, iv p2, iv p3, iv v3_64, rv b145, iv v5_148, rv b149, rv b153, rv b155, rv b157, .unset, .unset, .unset] [(.int v5_148)])) _
        by_cases c110_160 : v5_148 < (0 : Int32)
        · refine XS.ifYes X158.here hx rfl (pc0 := 110) (pc' := 118) rfl (hb hby at_110) rfl ((if0 _ _).trans (tlt c110_160).1) (by decide) (by decide) ?_
          show Steps _ _ _ (T158.setTop (mkF m 118 #[iv p1, iv p2, iv p3, iv v3_64, rv b145, iv v5_148, rv b149, rv b153, rv b155, rv b157, .unset, .unset, .unset] [])) _
          refine XS.iconst X158.here hx rfl (hb hby at_118) ?_
          show Steps _ _ _ (T158.setTop (mkF m 119 #[iv p1, iv p2, iv p3, iv v3_64, rv b145, iv v5_148, rv b149, rv b153, rv b155, rv b157, .unset, .unset, .unset] [(.int (1 : Int32))])) _
          refine XS.goto X158.here hx rfl (pc0 := 119) (pc' := 123) rfl (hb hby at_119) (by decide) (by decide) ?_
          show Steps _ _ _ (T158.setTop (mkF m 123 #[iv p1, iv p2, iv p3, iv v3_64, rv b145, iv v5_148, rv b149, rv b153, rv b155, rv b157, .unset, .unset, .unset] [(.int (1 : Int32))])) _
          rw [show (own_ex v5_148) = (1 : Int32) from by simp [own_ex, c110_160]]; exact Steps.refl _
        · refine XS.ifNo X158.here hx rfl (hb hby at_110) rfl ((if0 _ _).trans (flt c110_160).1) ?_
          show Steps _ _ _ (T158.setTop (mkF m 113 #[iv p1, iv p2, iv p3, iv v3_64, rv b145, iv v5_148, rv b149, rv b153, rv b155, rv b157, .unset, .unset, .unset] [])) _
          refine XS.iload X158.here hx rfl (hb hby at_113) rfl ?_
          show Steps _ _ _ (T158.setTop (mkF m 115 #[iv p1, iv p2, iv p3, iv v3_64, rv b145, iv v5_148, rv b149, rv b153, rv b155, rv b157, .unset, .unset, .unset] [(.int v5_148)])) _
          by_cases c115_161 : (0 : Int32) < v5_148
          · refine XS.ifNo X158.here hx rfl (hb hby at_115) rfl ((if0 _ _).trans (tlt c115_161).2.2.2) ?_
            show Steps _ _ _ (T158.setTop (mkF m 118 #[iv p1, iv p2, iv p3, iv v3_64, rv b145, iv v5_148, rv b149, rv b153, rv b155, rv b157, .unset, .unset, .unset] [])) _
            refine XS.iconst X158.here hx rfl (hb hby at_118) ?_
            show Steps _ _ _ (T158.setTop (mkF m 119 #[iv p1, iv p2, iv p3, iv v3_64, rv b145, iv v5_148, rv b149, rv b153, rv b155, rv b157, .unset, .unset, .unset] [(.int (1 : Int32))])) _
            refine XS.goto X158.here hx rfl (pc0 := 119) (pc' := 123) rfl (hb hby at_119) (by decide) (by decide) ?_
            show Steps _ _ _ (T158.setTop (mkF m 123 #[iv p1, iv p2, iv p3, iv v3_64, rv b145, iv v5_148, rv b149, rv b153, rv b155, rv b157, .unset, .unset, .unset] [(.int (1 : Int32))])) _
            rw [show (own_ex v5_148) = (1 : Int32) from by simp [own_ex, c110_160, c115_161]]; exact Steps.refl _
          · refine XS.ifYes X158.here hx rfl (pc0 := 115) (pc' := 122) rfl (hb hby at_115) rfl ((if0 _ _).trans (flt c115_161).2.2.2) (by decide) (by decide) ?_
            show Steps _ _ _ (T158.setTop (mkF m 122 #[iv p1, iv p2, iv p3, iv v3_64, rv b145, iv v5_148, rv b149, rv b153, rv b155, rv b157, .unset, .unset, .unset] [])) _
            refine XS.iconst X158.here hx rfl (hb hby at_122) ?_
            show Steps _ _ _ (T158.setTop (mkF m 123 #[iv p1, iv p2, iv p3, iv v3_64, rv b145, iv v5_148, rv b149, rv b153, rv b155, rv b157, .unset, .unset, .unset] [(.int (0 : Int32))])) _
            rw [show (own_ex v5_148) = (0 : Int32) from by simp [own_ex, c110_160, c115_161]]; exact Steps.refl _
      refine own_go di159 ?_
      show own_Fin _ _ _ _ (T158.setTop (mkF m 123 #[iv p1, iv p2, iv p3, iv v3_64, rv b145, iv v5_148, rv b149, rv b153, rv b155, rv b157, .unset, .unset, .unset] [(.int (own_ex v5_148))]))
      refine own_go (XS.istore X158.here hx rfl (hb hby at_123) rfl rfl (Steps.refl _)) ?_
      show own_Fin _ _ _ _ (T158.setTop (mkF m 125 #[iv p1, iv p2, iv p3, iv v3_64, rv b145, iv v5_148, rv b149, rv b153, rv b155, rv b157, iv (own_ex v5_148), .unset, .unset] []))
      generalize hz_v10_162 : (own_ex v5_148) = v10_162
      refine own_go (XS.aload X158.here hx rfl (hb hby at_125) rfl rfl (Steps.refl _)) ?_
      show own_Fin _ _ _ _ (T158.setTop (mkF m 127 #[iv p1, iv p2, iv p3, iv v3_64, rv b145, iv v5_148, rv b149, rv b153, rv b155, rv b157, iv v10_162, .unset, .unset] [(.ref b157)]))
      obtain ⟨cq163, kq163, q163a, q163b, q163c⟩ := isOf hZ rfl r158_0
      obtain ⟨_, _, ⟨T163, L163, k163, n163⟩, -, X163, ⟨Lc163, hQ163, l163, y163, z163⟩, st163⟩ := X158.virtualBack hx (y := (⟨"com/example/pryority/pryority/Response", "isAnswer", "()Z"⟩ : MethodName)) (z := (⟨"com/example/pryority/pryority/Response", "isAnswer", "()Z"⟩ : MethodName)) hown (mvT hZ (hw _ (List.mem_of_getElem? (i := 76) rfl))) (mvT hZ (hw _ (List.mem_of_getElem? (i := 77) rfl))) (notFace_of_selects (args := #[]) (mvT hZ (hw _ (List.mem_of_getElem? (i := 79) rfl)))) (mvT hZ (hw _ (List.mem_of_getElem? (i := 79) rfl))) (mvT hZ (hw _ (List.mem_of_getElem? (i := 78) rfl))) (by decide) (backOf (W := 0) (rmia l Z a0 hw [] b157 v5_148 T158.heap n0 Z158 r158_1) hZ (hw _ (List.mem_of_getElem? (i := 80) rfl)) (hw _ (List.mem_of_getElem? (i := 56) rfl)) (by decide) (by decide)) q163a q163c (g := (mkF m 127 #[iv p1, iv p2, iv p3, iv v3_64, rv b145, iv v5_148, rv b149, rv b153, rv b155, rv b157, iv v10_162, .unset, .unset] [(.ref b157)])) rfl (by rw [hml]; rfl) (Steps.refl _) (argsL := []) (rest := []) (lenOf pd__28__29_Z rfl) rfl (by show 2 * 0 + _ ≤ _; exact Nat.le_of_eq rfl) (hb hby at_127) (fun _ hv => ⟨rfl, rfl, (by decide : 6 + 0 ≤ _), (by decide : 16 + 0 ≤ _)⟩)
      dsimp only [Pt.U, Pt.locs, Pt.cells, Pt.slots] at X163 l163 y163 z163 st163 hQ163
      subst l163 y163 z163
      obtain ⟨rfl, Nq163, e163⟩ := hQ163
      refine own_go st163 ?_
      have N163 := Fr.app N158 Nq163
      show own_Fin _ _ _ _ (T163.setTop (mkF m 130 #[iv p1, iv p2, iv p3, iv v3_64, rv b145, iv v5_148, rv b149, rv b153, rv b155, rv b157, iv v10_162, .unset, .unset] [(.int (own_an v5_148))]))
      refine own_go (XS.istore X163.here hx rfl (hb hby at_130) rfl rfl (Steps.refl _)) ?_
      show own_Fin _ _ _ _ (T163.setTop (mkF m 132 #[iv p1, iv p2, iv p3, iv v3_64, rv b145, iv v5_148, rv b149, rv b153, rv b155, rv b157, iv v10_162, iv (own_an v5_148), .unset] []))
      generalize hz_v11_164 : (own_an v5_148) = v11_164
      obtain ⟨_, _, ⟨T165, L165, k165, n165⟩, -, X165, hs2165, hgr165, ⟨Lc165, hQ165, l165, y165, z165⟩, st165⟩ := callSS X163 hx (y := (⟨"com/example/pryority/pryority/Response", "noAnswer", "()Lcom/example/pryority/pryority/Response;"⟩ : MethodName)) hown (mvT hZ (hw _ (List.mem_of_getElem? (i := 81) rfl))) (mvT hZ (hw _ (List.mem_of_getElem? (i := 82) rfl))) (mvT hZ (hw _ (List.mem_of_getElem? (i := 56) rfl))) (mvT hZ (hw _ (List.mem_of_getElem? (i := 83) rfl))) (by decide) (backOfS (W := 0) (rmna l Z a0 hw [] el T158.heap n0 Z158 Od158 S_EMPTY_LIST) hZ (hw _ (List.mem_of_getElem? (i := 83) rfl)) (hw _ (List.mem_of_getElem? (i := 56) rfl)) (by decide) (by decide)) (g := (mkF m 132 #[iv p1, iv p2, iv p3, iv v3_64, rv b145, iv v5_148, rv b149, rv b153, rv b155, rv b157, iv v10_162, iv v11_164, .unset] [])) rfl (by rw [hml]; rfl) (argsL := []) (rest := []) (lenOf pd__28__29_Lcom_2f_example_2f_pryority_2f_pryority_2f_Response_3b_ rfl) rfl (by show 2 * 0 + _ ≤ _; exact Nat.le_of_eq rfl) (hb hby at_132) (fun _ hv => ⟨rfl, e163, (by decide : 6 + 4 ≤ _), (by decide : 16 + 9 ≤ _)⟩)
      dsimp only [Pt.U, Pt.locs, Pt.cells, Pt.slots] at X165 l165 y165 z165 st165 hQ165 hs2165 hgr165
      subst l165 y165 z165
      obtain ⟨Xr165, hS165, hZ165, hown165⟩ := rebS hS0 (show 0 ≤ T163.heap.size by rw [e163]; exact hk158) X165 hs2165 hgr165 hZ hown
      refine own_go st165 ?_
      obtain ⟨r_165, rfl, Nq165, K165, g_r_165, sb_r_165, r165_0, r165_1⟩ := hQ165
      have ne_b145_r_165 : b145 ≠ r_165 := Nat.ne_of_lt (Nat.lt_of_lt_of_le V_b145_158.lt sb_r_165)
      have ne_b149_r_165 : b149 ≠ r_165 := Nat.ne_of_lt (Nat.lt_of_lt_of_le V_b149_158.lt sb_r_165)
      have ne_b153_r_165 : b153 ≠ r_165 := Nat.ne_of_lt (Nat.lt_of_lt_of_le r154_0_158.lt sb_r_165)
      have ne_b_154_r_165 : b_154 ≠ r_165 := Nat.ne_of_lt (Nat.lt_of_lt_of_le r154_3_158.lt sb_r_165)
      have ne_b155_r_165 : b155 ≠ r_165 := Nat.ne_of_lt (Nat.lt_of_lt_of_le r156_0_158.lt sb_r_165)
      have ne_b157_r_165 : b157 ≠ r_165 := Nat.ne_of_lt (Nat.lt_of_lt_of_le r158_0.lt sb_r_165)
      have Od165 := Od158.keep K165 all0
      have V_b145_165 := V_b145_158.keep K165 nin0
      have V_b149_165 := V_b149_158.keep K165 nin0
      have r154_0_165 := r154_0_158.keep K165
      have r154_1_165 := r154_1_158.keep K165 nin0
      have r154_2_165 := r154_2_158.keep K165 nin0
      have r154_3_165 := r154_3_158.keep K165 nin0
      have r156_0_165 := r156_0_158.keep K165
      have r156_1_165 := r156_1_158.keep K165 nin0
      have r156_2_165 := r156_2_158.keep K165 nin0
      have r158_0_165 := r158_0.keep K165
      have r158_1_165 := r158_1.keep K165 nin0
      have Z165 : n0 ≤ T165.heap.size := Nat.le_trans Z158 K165.1
      have hk165 : 0 ≤ T165.heap.size := Nat.le_trans hk158 K165.1
      have hkr165 : T165.heap.size ≤ T165.heap.size := Nat.le_refl _
      have N165 := Fr.app N163 Nq165
      show own_Fin _ _ _ _ (T165.setTop (mkF m 135 #[iv p1, iv p2, iv p3, iv v3_64, rv b145, iv v5_148, rv b149, rv b153, rv b155, rv b157, iv v10_162, iv v11_164, .unset] [(.ref r_165)]))
      refine own_go (XS.astore Xr165.here hx rfl (hb hby at_135) rfl rfl rfl (Steps.refl _)) ?_
      show own_Fin _ _ _ _ (T165.setTop (mkF m 137 #[iv p1, iv p2, iv p3, iv v3_64, rv b145, iv v5_148, rv b149, rv b153, rv b155, rv b157, iv v10_162, iv v11_164, rv r_165] []))
      refine own_go (XS.iload Xr165.here hx rfl (hb hby at_137) rfl (Steps.refl _)) ?_
      show own_Fin _ _ _ _ (T165.setTop (mkF m 139 #[iv p1, iv p2, iv p3, iv v3_64, rv b145, iv v5_148, rv b149, rv b153, rv b155, rv b157, iv v10_162, iv v11_164, rv r_165] [(.int v11_164)]))
      refine own_go (XS.iload Xr165.here hx rfl (hb hby at_139) rfl (Steps.refl _)) ?_
      show own_Fin _ _ _ _ (T165.setTop (mkF m 141 #[iv p1, iv p2, iv p3, iv v3_64, rv b145, iv v5_148, rv b149, rv b153, rv b155, rv b157, iv v10_162, iv v11_164, rv r_165] [(.int v10_162), (.int v11_164)]))
      refine own_go (XS.icmpNo Xr165.here hx rfl (hb hby at_141) rfl (teq (show v11_164 = v10_162 from (by rw [← hz_v11_164, ← hz_v10_162]; exact own_exan _))).2 (Steps.refl _)) ?_
      show own_Fin _ _ _ _ (T165.setTop (mkF m 144 #[iv p1, iv p2, iv p3, iv v3_64, rv b145, iv v5_148, rv b149, rv b153, rv b155, rv b157, iv v10_162, iv v11_164, rv r_165] []))
      refine own_go (XS.aload Xr165.here hx rfl (hb hby at_144) rfl rfl (Steps.refl _)) ?_
      show own_Fin _ _ _ _ (T165.setTop (mkF m 146 #[iv p1, iv p2, iv p3, iv v3_64, rv b145, iv v5_148, rv b149, rv b153, rv b155, rv b157, iv v10_162, iv v11_164, rv r_165] [(.ref r_165)]))
      obtain ⟨cq166, kq166, q166a, q166b, q166c⟩ := isOf hZ165 rfl r165_0
      obtain ⟨_, _, ⟨T166, L166, k166, n166⟩, -, X166, ⟨Lc166, hQ166, l166, y166, z166⟩, st166⟩ := Xr165.virtualBack hx (y := (⟨"com/example/pryority/pryority/Response", "isAnswer", "()Z"⟩ : MethodName)) (z := (⟨"com/example/pryority/pryority/Response", "isAnswer", "()Z"⟩ : MethodName)) hown165 (mvT hZ165 (hw _ (List.mem_of_getElem? (i := 76) rfl))) (mvT hZ165 (hw _ (List.mem_of_getElem? (i := 77) rfl))) (notFace_of_selects (args := #[]) (mvT hZ165 (hw _ (List.mem_of_getElem? (i := 79) rfl)))) (mvT hZ165 (hw _ (List.mem_of_getElem? (i := 79) rfl))) (mvT hZ165 (hw _ (List.mem_of_getElem? (i := 78) rfl))) (by decide) (backOf (W := 0) (rmia l Z a0 hw [] r_165 (0 : Int32) T165.heap n0 Z165 r165_1) hZ165 (hw _ (List.mem_of_getElem? (i := 80) rfl)) (hw _ (List.mem_of_getElem? (i := 56) rfl)) (by decide) (by decide)) q166a q166c (g := (mkF m 146 #[iv p1, iv p2, iv p3, iv v3_64, rv b145, iv v5_148, rv b149, rv b153, rv b155, rv b157, iv v10_162, iv v11_164, rv r_165] [(.ref r_165)])) rfl (by rw [hml]; rfl) (Steps.refl _) (argsL := []) (rest := []) (lenOf pd__28__29_Z rfl) rfl (by show 2 * 0 + _ ≤ _; exact Nat.le_of_eq rfl) (hb hby at_146) (fun _ hv => ⟨rfl, rfl, (by decide : 10 + 0 ≤ _), (by decide : 25 + 0 ≤ _)⟩)
      dsimp only [Pt.U, Pt.locs, Pt.cells, Pt.slots] at X166 l166 y166 z166 st166 hQ166
      subst l166 y166 z166
      obtain ⟨rfl, Nq166, e166⟩ := hQ166
      refine own_go st166 ?_
      have N166 := Fr.app N165 Nq166
      show own_Fin _ _ _ _ (T166.setTop (mkF m 149 #[iv p1, iv p2, iv p3, iv v3_64, rv b145, iv v5_148, rv b149, rv b153, rv b155, rv b157, iv v10_162, iv v11_164, rv r_165] [(.int (own_an (0 : Int32)))]))
      refine own_go (XS.ifNo X166.here hx rfl (hb hby at_149) rfl ((if0 _ _).trans (teq (show (own_an (0 : Int32)) = (0 : Int32) from rfl)).2) (Steps.refl _)) ?_
      show own_Fin _ _ _ _ (T166.setTop (mkF m 152 #[iv p1, iv p2, iv p3, iv v3_64, rv b145, iv v5_148, rv b149, rv b153, rv b155, rv b157, iv v10_162, iv v11_164, rv r_165] []))
      refine own_go (XS.iconst X166.here hx rfl (hb hby at_152) (Steps.refl _)) ?_
      show own_Fin _ _ _ _ (T166.setTop (mkF m 153 #[iv p1, iv p2, iv p3, iv v3_64, rv b145, iv v5_148, rv b149, rv b153, rv b155, rv b157, iv v10_162, iv v11_164, rv r_165] [(.int (1 : Int32))]))
      refine own_go (XS.goto X166.here hx rfl (pc0 := 153) (pc' := 157) rfl (hb hby at_153) (by decide) (by decide) (Steps.refl _)) ?_
      show own_Fin _ _ _ _ (T166.setTop (mkF m 157 #[iv p1, iv p2, iv p3, iv v3_64, rv b145, iv v5_148, rv b149, rv b153, rv b155, rv b157, iv v10_162, iv v11_164, rv r_165] [(.int (1 : Int32))]))
      obtain ⟨fs167, hr167, hrun167, hended167, hRW167⟩ := X166.leaveW (s := s) hS165 (n := T165.heap.size) (by rw [e166]; exact hkr165) (v := some (.int (1 : Int32))) (fun h => by rw [Bd.returns] at h; cases h)
      refine own_done (retN X166 hx (t := .boolean) Bd.returns (by simp) (hb hby at_157) hr167) hrun167 hended167 ⟨_, _, rfl, ?_, hRW167.1, hRW167.2.1, hRW167.2.2.1, hRW167.2.2.2.mono (by decide) (by decide)⟩
      show Q0 Z p1 p2 p3 cs dd el h0 n0 _ T166.heap _
      rw [e166]
      exact ⟨rfl, N166⟩
    · refine own_go (XS.ifNo X151.here hx rfl (hb hby at_54) rfl ((if0 _ _).trans (feq c54_152).1) (Steps.refl _)) ?_
      show own_Fin _ _ _ _ (T151.setTop (mkF m 57 #[iv p1, iv p2, iv p3, iv v3_64, rv b145, iv v5_148, rv b149, .unset, .unset, .unset, .unset, .unset, .unset] []))
      obtain ⟨T168, h168, X168, e168, E168, A168, D168, U168, st168⟩ := newO X151 hx hZ hown (hw _ (List.mem_of_getElem? (i := 2) rfl)) (hw _ (List.mem_of_getElem? (i := 3) rfl)) (hw _ (List.mem_of_getElem? (i := 4) rfl)) e151 (g := (mkF m 57 #[iv p1, iv p2, iv p3, iv v3_64, rv b145, iv v5_148, rv b149, .unset, .unset, .unset, .unset, .unset, .unset] [])) rfl (hb hby at_57) (by decide) (by decide)
      obtain ⟨b168, g168⟩ : ∃ z, z = h151.size := ⟨_, rfl⟩
      rw [← g168] at A168 D168 U168 st168
      refine own_by st168 ?_
      have ne_b145_b168 : b145 ≠ b168 := Nat.ne_of_lt (Nat.lt_of_lt_of_eq V_b145_151.lt g168.symm)
      have ne_b149_b168 : b149 ≠ b168 := Nat.ne_of_lt (Nat.lt_of_lt_of_eq V_b149_151.lt g168.symm)
      have Od168 := Od151.ext E168
      have V_b145_168 := V_b145_151.ext E168
      have V_b149_168 := V_b149_151.ext E168
      have g_b168 : n0 ≤ b168 := Nat.le_trans Z151 (Nat.le_of_eq g168.symm)
      have Z168 : n0 ≤ h168.size := Nat.le_trans Z151 E168.1
      have hk168 : 0 ≤ h168.size := Nat.le_trans hk151 E168.1
      have E_b168 := A168
      have F_coder_b168 : Fld Z h168 b168 "java/lang/String" "coder" "B" (.int (0 : Int32)) := D168 (Or.inr (hw _ (List.mem_of_getElem? (i := 27) rfl))) (ty := .byte) (by decide)
      have F_value_b168 : Fld Z h168 b168 "java/lang/String" "value" "[B" .null := D168 (Or.inr (hw _ (List.mem_of_getElem? (i := 29) rfl))) (ty := (.array .byte)) (by decide)
      show own_Fin _ _ _ _ (T168.setTop (mkF m 60 #[iv p1, iv p2, iv p3, iv v3_64, rv b145, iv v5_148, rv b149, .unset, .unset, .unset, .unset, .unset, .unset] [(.ref b168)]))
      refine own_go (XS.dup X168.here hx rfl (hb hby at_60) rfl rfl (Steps.refl _)) ?_
      show own_Fin _ _ _ _ (T168.setTop (mkF m 61 #[iv p1, iv p2, iv p3, iv v3_64, rv b145, iv v5_148, rv b149, .unset, .unset, .unset, .unset, .unset, .unset] [(.ref b168), (.ref b168)]))
      refine own_go (XS.iconst X168.here hx rfl (hb hby at_61) (Steps.refl _)) ?_
      show own_Fin _ _ _ _ (T168.setTop (mkF m 62 #[iv p1, iv p2, iv p3, iv v3_64, rv b145, iv v5_148, rv b149, .unset, .unset, .unset, .unset, .unset, .unset] [(.int (0 : Int32)), (.ref b168), (.ref b168)]))
      obtain ⟨T169, h169, k169, X169, e169, E169, A169, st169⟩ := newP X168 hx hZ (hw _ (List.mem_of_getElem? (i := 1) rfl)) e168 (g := (mkF m 62 #[iv p1, iv p2, iv p3, iv v3_64, rv b145, iv v5_148, rv b149, .unset, .unset, .unset, .unset, .unset, .unset] [(.int (0 : Int32)), (.ref b168), (.ref b168)])) rfl (hb hby at_62) rfl (by decide) (cap := 0) (by decide) (by decide) (by decide) (by decide)
      obtain ⟨b169, g169⟩ : ∃ z, z = h168.size := ⟨_, rfl⟩
      rw [← g169] at A169 st169
      refine own_by st169 ?_
      have ne_b145_b169 : b145 ≠ b169 := Nat.ne_of_lt (Nat.lt_of_lt_of_eq V_b145_168.lt g169.symm)
      have ne_b149_b169 : b149 ≠ b169 := Nat.ne_of_lt (Nat.lt_of_lt_of_eq V_b149_168.lt g169.symm)
      have ne_b168_b169 : b168 ≠ b169 := Nat.ne_of_lt (Nat.lt_of_lt_of_eq E_b168.lt g169.symm)
      have Od169 := Od168.ext E169
      have V_b145_169 := V_b145_168.ext E169
      have V_b149_169 := V_b149_168.ext E169
      have E_b168_169 := E_b168.ext E169
      have F_coder_b168_169 := F_coder_b168.ext E169
      have F_value_b168_169 := F_value_b168.ext E169
      have g_b169 : n0 ≤ b169 := Nat.le_trans Z168 (Nat.le_of_eq g169.symm)
      have Z169 : n0 ≤ h169.size := Nat.le_trans Z168 E169.1
      have hk169 : 0 ≤ h169.size := Nat.le_trans hk168 E169.1
      have V_b169 : Arv Z h169 b169 k169 .char (0 : Int32) [] (.int (0 : Int32)) := (Arv.new A169 (by decide)).pad (pad_rep [] (.int (0 : Int32)) 0)
      show own_Fin _ _ _ _ (T169.setTop (mkF m 64 #[iv p1, iv p2, iv p3, iv v3_64, rv b145, iv v5_148, rv b149, .unset, .unset, .unset, .unset, .unset, .unset] [(.ref b169), (.ref b168), (.ref b168)]))
      obtain ⟨_, _, ⟨T170, L170, k170, n170⟩, -, X170, hs2170, hgr170, ⟨Lc170, ⟨hQ170, hK170⟩, l170, y170, z170⟩, st170⟩ := X169.specialBackS hx (y := (⟨"java/lang/String", "<init>", "([C)V"⟩ : MethodName)) rfl hown (mvT hZ (hw _ (List.mem_of_getElem? (i := 5) rfl))) (mvT hZ (hw _ (List.mem_of_getElem? (i := 6) rfl))) (mvT hZ (hw _ (List.mem_of_getElem? (i := 7) rfl))) (by decide) (own_backK (W := 1) (rmstr_0 l Z a0 hw [] b168 b169 k169 h169 n0 Z169 E_b168_169 F_value_b168_169 F_coder_b168_169 g_b168 Od169 V_b169 hh7 hcw) hZ (hw _ (List.mem_of_getElem? (i := 7) rfl)) (hw _ (List.mem_of_getElem? (i := 4) rfl)) (by decide) (by decide)) (g := (mkF m 64 #[iv p1, iv p2, iv p3, iv v3_64, rv b145, iv v5_148, rv b149, .unset, .unset, .unset, .unset, .unset, .unset] [(.ref b169), (.ref b168), (.ref b168)])) rfl (by rw [hml]; rfl) (Steps.refl _) (a := b168) (argsL := [(.ref b169)]) (rest := [(.ref b168)]) (lenOf pd__28__5b_C_29_V rfl) rfl (by show 2 * 0 + _ ≤ _; exact Nat.le_of_eq rfl) (hb hby at_64) (fun _ hv => ⟨rfl, e169, (by decide : 4 + 2 ≤ _), (by decide : 7 + 4 ≤ _), own_K.warm (Or.inl IB0) hv⟩)
      dsimp only [Pt.U, Pt.locs, Pt.cells, Pt.slots] at X170 l170 y170 z170 st170 hQ170 hs2170 hgr170 hK170
      subst l170 y170 z170
      obtain ⟨Xr170, hS170, hZ170, hown170⟩ := rebS hS0 (show 0 ≤ T169.heap.size by rw [e169]; exact hk169) X170 hs2170 hgr170 hZ hown
      refine own_go st170 ?_
      obtain ⟨rfl, Nq170, K170, r170_0⟩ := hQ170
      have Od170 := Od169.keep K170 (allS g_b168 all0)
      have V_b145_170 := V_b145_169.keep K170 (ninS ne_b145_b168 nin0)
      have V_b149_170 := V_b149_169.keep K170 (ninS ne_b149_b168 nin0)
      have E_b168_170 := E_b168_169.keep K170
      have V_b169_170 := V_b169.keep K170 (ninS (Ne.symm ne_b168_b169) nin0)
      have Z170 : n0 ≤ T170.heap.size := Nat.le_trans Z169 K170.1
      have hk170 : 0 ≤ T170.heap.size := Nat.le_trans hk169 K170.1
      have hkr170 : T170.heap.size ≤ T170.heap.size := Nat.le_refl _
      have N170 := Fr.app N151 Nq170
      show own_Fin _ _ _ _ (T170.setTop (mkF m 67 #[iv p1, iv p2, iv p3, iv v3_64, rv b145, iv v5_148, rv b149, .unset, .unset, .unset, .unset, .unset, .unset] [(.ref b168)]))
      refine own_go (XS.goto Xr170.here hx rfl (pc0 := 67) (pc' := 79) rfl (hb hby at_67) (by decide) (by decide) (Steps.refl _)) ?_
      show own_Fin _ _ _ _ (T170.setTop (mkF m 79 #[iv p1, iv p2, iv p3, iv v3_64, rv b145, iv v5_148, rv b149, .unset, .unset, .unset, .unset, .unset, .unset] [(.ref b168)]))
      refine own_go (XS.astore Xr170.here hx rfl (hb hby at_79) rfl rfl rfl (Steps.refl _)) ?_
      show own_Fin _ _ _ _ (T170.setTop (mkF m 81 #[iv p1, iv p2, iv p3, iv v3_64, rv b145, iv v5_148, rv b149, rv b168, .unset, .unset, .unset, .unset, .unset] []))
      obtain ⟨T171, h171, X171, e171, E171, A171, D171, U171, st171⟩ := newO Xr170 hx hZ170 hown170 (hw _ (List.mem_of_getElem? (i := 30) rfl)) (hw _ (List.mem_of_getElem? (i := 31) rfl)) (hw _ (List.mem_of_getElem? (i := 32) rfl)) rfl (g := (mkF m 81 #[iv p1, iv p2, iv p3, iv v3_64, rv b145, iv v5_148, rv b149, rv b168, .unset, .unset, .unset, .unset, .unset] [])) rfl (hb hby at_81) (by decide) (by decide)
      obtain ⟨b171, g171⟩ : ∃ z, z = T170.heap.size := ⟨_, rfl⟩
      rw [← g171] at A171 D171 U171 st171
      refine own_by st171 ?_
      have ne_b145_b171 : b145 ≠ b171 := Nat.ne_of_lt (Nat.lt_of_lt_of_eq V_b145_170.lt g171.symm)
      have ne_b149_b171 : b149 ≠ b171 := Nat.ne_of_lt (Nat.lt_of_lt_of_eq V_b149_170.lt g171.symm)
      have ne_b168_b171 : b168 ≠ b171 := Nat.ne_of_lt (Nat.lt_of_lt_of_eq r170_0.lt g171.symm)
      have ne_b169_b171 : b169 ≠ b171 := Nat.ne_of_lt (Nat.lt_of_lt_of_eq V_b169_170.lt g171.symm)
      have Od171 := Od170.ext E171
      have V_b145_171 := V_b145_170.ext E171
      have V_b149_171 := V_b149_170.ext E171
      have r170_0_171 := r170_0.ext E171
      have V_b169_171 := V_b169_170.ext E171
      have g_b171 : n0 ≤ b171 := Nat.le_trans Z170 (Nat.le_of_eq g171.symm)
      have Z171 : n0 ≤ h171.size := Nat.le_trans Z170 E171.1
      have hk171 : T170.heap.size ≤ h171.size := Nat.le_trans hkr170 E171.1
      have E_b171 := A171
      have F_modCount_b171 : Fld Z h171 b171 "java/util/AbstractList" "modCount" "I" (.int (0 : Int32)) := D171 (Or.inl (hw _ (List.mem_of_getElem? (i := 50) rfl))) (ty := .int) (by decide)
      have F_elementData_b171 : Fld Z h171 b171 "java/util/ArrayList" "elementData" "[Ljava/lang/Object;" .null := D171 (Or.inl (hw _ (List.mem_of_getElem? (i := 53) rfl))) (ty := (.array (.object "java/lang/Object"))) (by decide)
      show own_Fin _ _ _ _ (T171.setTop (mkF m 84 #[iv p1, iv p2, iv p3, iv v3_64, rv b145, iv v5_148, rv b149, rv b168, .unset, .unset, .unset, .unset, .unset] [(.ref b171)]))
      refine own_go (XS.dup X171.here hx rfl (hb hby at_84) rfl rfl (Steps.refl _)) ?_
      show own_Fin _ _ _ _ (T171.setTop (mkF m 85 #[iv p1, iv p2, iv p3, iv v3_64, rv b145, iv v5_148, rv b149, rv b168, .unset, .unset, .unset, .unset, .unset] [(.ref b171), (.ref b171)]))
      obtain ⟨_, _, ⟨T172, L172, k172, n172⟩, -, X172, ⟨Lc172, hQ172, l172, y172, z172⟩, st172⟩ := X171.specialBack hx (y := (⟨"java/util/ArrayList", "<init>", "()V"⟩ : MethodName)) rfl hown170 (mvT hZ170 (hw _ (List.mem_of_getElem? (i := 33) rfl))) (mvT hZ170 (hw _ (List.mem_of_getElem? (i := 34) rfl))) (mvT hZ170 (hw _ (List.mem_of_getElem? (i := 35) rfl))) (by decide) (backOf (W := 1) (rmali l Z a0 hw [] b171 dd h171 n0 Z171 E_b171 F_modCount_b171 F_elementData_b171 g_b171 Od171 S_DEFAULTCAPACITY_EMPTY_ELEMENTDATA) hZ170 (hw _ (List.mem_of_getElem? (i := 35) rfl)) (hw _ (List.mem_of_getElem? (i := 32) rfl)) (by decide) (by decide)) (g := (mkF m 85 #[iv p1, iv p2, iv p3, iv v3_64, rv b145, iv v5_148, rv b149, rv b168, .unset, .unset, .unset, .unset, .unset] [(.ref b171), (.ref b171)])) rfl (by rw [hml]; rfl) (Steps.refl _) (a := b171) (argsL := []) (rest := [(.ref b171)]) (lenOf pd__28__29_V rfl) rfl (by show 2 * 0 + _ ≤ _; exact Nat.le_of_eq rfl) (hb hby at_85) (fun _ hv => ⟨rfl, e171, (by decide : 7 + 0 ≤ _), (by decide : 14 + 0 ≤ _)⟩)
      dsimp only [Pt.U, Pt.locs, Pt.cells, Pt.slots] at X172 l172 y172 z172 st172 hQ172
      subst l172 y172 z172
      refine own_go st172 ?_
      obtain ⟨rfl, Nq172, K172, r172_0, r172_1, r172_2⟩ := hQ172
      have Od172 := Od171.keep K172 (allS g_b171 all0)
      have V_b145_172 := V_b145_171.keep K172 (ninS ne_b145_b171 nin0)
      have V_b149_172 := V_b149_171.keep K172 (ninS ne_b149_b171 nin0)
      have r170_0_172 := r170_0_171.keep K172
      have V_b169_172 := V_b169_171.keep K172 (ninS ne_b169_b171 nin0)
      have E_b171_172 := E_b171.keep K172
      have Z172 : n0 ≤ T172.heap.size := Nat.le_trans Z171 K172.1
      have hk172 : T170.heap.size ≤ T172.heap.size := Nat.le_trans hk171 K172.1
      have N172 := Fr.app N170 Nq172
      show own_Fin _ _ _ _ (T172.setTop (mkF m 88 #[iv p1, iv p2, iv p3, iv v3_64, rv b145, iv v5_148, rv b149, rv b168, .unset, .unset, .unset, .unset, .unset] [(.ref b171)]))
      refine own_go (XS.astore X172.here hx rfl (hb hby at_88) rfl rfl rfl (Steps.refl _)) ?_
      show own_Fin _ _ _ _ (T172.setTop (mkF m 90 #[iv p1, iv p2, iv p3, iv v3_64, rv b145, iv v5_148, rv b149, rv b168, rv b171, .unset, .unset, .unset, .unset] []))
      obtain ⟨T173, h173, X173, e173, E173, A173, D173, U173, st173⟩ := newO X172 hx hZ170 hown170 (hw _ (List.mem_of_getElem? (i := 54) rfl)) (hw _ (List.mem_of_getElem? (i := 55) rfl)) (hw _ (List.mem_of_getElem? (i := 56) rfl)) rfl (g := (mkF m 90 #[iv p1, iv p2, iv p3, iv v3_64, rv b145, iv v5_148, rv b149, rv b168, rv b171, .unset, .unset, .unset, .unset] [])) rfl (hb hby at_90) (by decide) (by decide)
      obtain ⟨b173, g173⟩ : ∃ z, z = T172.heap.size := ⟨_, rfl⟩
      rw [← g173] at A173 D173 U173 st173
      refine own_by st173 ?_
      have ne_b145_b173 : b145 ≠ b173 := Nat.ne_of_lt (Nat.lt_of_lt_of_eq V_b145_172.lt g173.symm)
      have ne_b149_b173 : b149 ≠ b173 := Nat.ne_of_lt (Nat.lt_of_lt_of_eq V_b149_172.lt g173.symm)
      have ne_b168_b173 : b168 ≠ b173 := Nat.ne_of_lt (Nat.lt_of_lt_of_eq r170_0_172.lt g173.symm)
      have ne_b169_b173 : b169 ≠ b173 := Nat.ne_of_lt (Nat.lt_of_lt_of_eq V_b169_172.lt g173.symm)
      have ne_b171_b173 : b171 ≠ b173 := Nat.ne_of_lt (Nat.lt_of_lt_of_eq r172_0.lt g173.symm)
      have Od173 := Od172.ext E173
      have V_b145_173 := V_b145_172.ext E173
      have V_b149_173 := V_b149_172.ext E173
      have r170_0_173 := r170_0_172.ext E173
      have V_b169_173 := V_b169_172.ext E173
      have r172_0_173 := r172_0.ext E173
      have r172_1_173 := r172_1.ext E173
      have r172_2_173 := r172_2.ext E173
      have g_b173 : n0 ≤ b173 := Nat.le_trans Z172 (Nat.le_of_eq g173.symm)
      have Z173 : n0 ≤ h173.size := Nat.le_trans Z172 E173.1
      have hk173 : T170.heap.size ≤ h173.size := Nat.le_trans hk172 E173.1
      have E_b173 := A173
      have F_status_b173 : Fld Z h173 b173 "com/example/pryority/pryority/Response" "status" "I" (.int (0 : Int32)) := D173 (Or.inr (hw _ (List.mem_of_getElem? (i := 67) rfl))) (ty := .int) (by decide)
      have F_reason_b173 : Fld Z h173 b173 "com/example/pryority/pryority/Response" "reason" "Ljava/lang/String;" .null := D173 (Or.inr (hw _ (List.mem_of_getElem? (i := 69) rfl))) (ty := (.object "java/lang/String")) (by decide)
      have F_fields_b173 : Fld Z h173 b173 "com/example/pryority/pryority/Response" "fields" "Ljava/util/List;" .null := D173 (Or.inr (hw _ (List.mem_of_getElem? (i := 71) rfl))) (ty := (.object "java/util/List")) (by decide)
      have F_body_b173 : Fld Z h173 b173 "com/example/pryority/pryority/Response" "body" "[B" .null := D173 (Or.inr (hw _ (List.mem_of_getElem? (i := 73) rfl))) (ty := (.array .byte)) (by decide)
      have F_truncated_b173 : Fld Z h173 b173 "com/example/pryority/pryority/Response" "truncated" "Z" (.int (0 : Int32)) := D173 (Or.inr (hw _ (List.mem_of_getElem? (i := 75) rfl))) (ty := .boolean) (by decide)
      show own_Fin _ _ _ _ (T173.setTop (mkF m 93 #[iv p1, iv p2, iv p3, iv v3_64, rv b145, iv v5_148, rv b149, rv b168, rv b171, .unset, .unset, .unset, .unset] [(.ref b173)]))
      refine own_go (XS.dup X173.here hx rfl (hb hby at_93) rfl rfl (Steps.refl _)) ?_
      show own_Fin _ _ _ _ (T173.setTop (mkF m 94 #[iv p1, iv p2, iv p3, iv v3_64, rv b145, iv v5_148, rv b149, rv b168, rv b171, .unset, .unset, .unset, .unset] [(.ref b173), (.ref b173)]))
      refine own_go (XS.iload X173.here hx rfl (hb hby at_94) rfl (Steps.refl _)) ?_
      show own_Fin _ _ _ _ (T173.setTop (mkF m 96 #[iv p1, iv p2, iv p3, iv v3_64, rv b145, iv v5_148, rv b149, rv b168, rv b171, .unset, .unset, .unset, .unset] [(.int v5_148), (.ref b173), (.ref b173)]))
      refine own_go (XS.aload X173.here hx rfl (hb hby at_96) rfl rfl (Steps.refl _)) ?_
      show own_Fin _ _ _ _ (T173.setTop (mkF m 98 #[iv p1, iv p2, iv p3, iv v3_64, rv b145, iv v5_148, rv b149, rv b168, rv b171, .unset, .unset, .unset, .unset] [(.ref b168), (.int v5_148), (.ref b173), (.ref b173)]))
      refine own_go (XS.aload X173.here hx rfl (hb hby at_98) rfl rfl (Steps.refl _)) ?_
      show own_Fin _ _ _ _ (T173.setTop (mkF m 100 #[iv p1, iv p2, iv p3, iv v3_64, rv b145, iv v5_148, rv b149, rv b168, rv b171, .unset, .unset, .unset, .unset] [(.ref b171), (.ref b168), (.int v5_148), (.ref b173), (.ref b173)]))
      refine own_go (XS.aload X173.here hx rfl (hb hby at_100) rfl rfl (Steps.refl _)) ?_
      show own_Fin _ _ _ _ (T173.setTop (mkF m 102 #[iv p1, iv p2, iv p3, iv v3_64, rv b145, iv v5_148, rv b149, rv b168, rv b171, .unset, .unset, .unset, .unset] [(.ref b145), (.ref b171), (.ref b168), (.int v5_148), (.ref b173), (.ref b173)]))
      refine own_go (XS.iloadN X173.here hx rfl (hb hby at_102) rfl (Steps.refl _)) ?_
      show own_Fin _ _ _ _ (T173.setTop (mkF m 103 #[iv p1, iv p2, iv p3, iv v3_64, rv b145, iv v5_148, rv b149, rv b168, rv b171, .unset, .unset, .unset, .unset] [(.int v3_64), (.ref b145), (.ref b171), (.ref b168), (.int v5_148), (.ref b173), (.ref b173)]))
      obtain ⟨_, _, ⟨T174, L174, k174, n174⟩, -, X174, ⟨Lc174, hQ174, l174, y174, z174⟩, st174⟩ := X173.specialBack hx (y := (⟨"com/example/pryority/pryority/Response", "<init>", "(ILjava/lang/String;Ljava/util/List;[BZ)V"⟩ : MethodName)) rfl hown170 (mvT hZ170 (hw _ (List.mem_of_getElem? (i := 57) rfl))) (mvT hZ170 (hw _ (List.mem_of_getElem? (i := 58) rfl))) (mvT hZ170 (hw _ (List.mem_of_getElem? (i := 59) rfl))) (by decide) (backOf (W := 1) (rmr5 l Z a0 hw [] b173 v5_148 b168 b171 b145 v3_64 h173 n0 Z173 E_b173 F_status_b173 F_reason_b173 F_fields_b173 F_body_b173 F_truncated_b173 g_b173) hZ170 (hw _ (List.mem_of_getElem? (i := 59) rfl)) (hw _ (List.mem_of_getElem? (i := 56) rfl)) (by decide) (by decide)) (g := (mkF m 103 #[iv p1, iv p2, iv p3, iv v3_64, rv b145, iv v5_148, rv b149, rv b168, rv b171, .unset, .unset, .unset, .unset] [(.int v3_64), (.ref b145), (.ref b171), (.ref b168), (.int v5_148), (.ref b173), (.ref b173)])) rfl (by rw [hml]; rfl) (Steps.refl _) (a := b173) (argsL := [(.int v5_148), (.ref b168), (.ref b171), (.ref b145), (.int v3_64)]) (rest := [(.ref b173)]) (lenOf pd__28_ILjava_2f_lang_2f_String_3b_Ljava_2f_util_2f_List_3b__5b_BZ_29_V rfl) rfl (by show 2 * 0 + _ ≤ _; exact Nat.le_of_eq rfl) (hb hby at_103) (fun _ hv => ⟨rfl, e173, (by decide : 8 + 0 ≤ _), (by decide : 19 + 0 ≤ _)⟩)
      dsimp only [Pt.U, Pt.locs, Pt.cells, Pt.slots] at X174 l174 y174 z174 st174 hQ174
      subst l174 y174 z174
      refine own_go st174 ?_
      obtain ⟨rfl, Nq174, K174, r174_0, r174_1⟩ := hQ174
      have Od174 := Od173.keep K174 (allS g_b173 all0)
      have V_b145_174 := V_b145_173.keep K174 (ninS ne_b145_b173 nin0)
      have V_b149_174 := V_b149_173.keep K174 (ninS ne_b149_b173 nin0)
      have r170_0_174 := r170_0_173.keep K174
      have V_b169_174 := V_b169_173.keep K174 (ninS ne_b169_b173 nin0)
      have r172_0_174 := r172_0_173.keep K174
      have r172_1_174 := r172_1_173.keep K174 (ninS ne_b171_b173 nin0)
      have r172_2_174 := r172_2_173.keep K174 (ninS ne_b171_b173 nin0)
      have E_b173_174 := E_b173.keep K174
      have Z174 : n0 ≤ T174.heap.size := Nat.le_trans Z173 K174.1
      have hk174 : T170.heap.size ≤ T174.heap.size := Nat.le_trans hk173 K174.1
      have N174 := Fr.app N172 Nq174
      show own_Fin _ _ _ _ (T174.setTop (mkF m 106 #[iv p1, iv p2, iv p3, iv v3_64, rv b145, iv v5_148, rv b149, rv b168, rv b171, .unset, .unset, .unset, .unset] [(.ref b173)]))
      refine own_go (XS.astore X174.here hx rfl (hb hby at_106) rfl rfl rfl (Steps.refl _)) ?_
      show own_Fin _ _ _ _ (T174.setTop (mkF m 108 #[iv p1, iv p2, iv p3, iv v3_64, rv b145, iv v5_148, rv b149, rv b168, rv b171, rv b173, .unset, .unset, .unset] []))
      have di175 : Steps p.tables e below (T174.setTop (mkF m 108 #[iv p1, iv p2, iv p3, iv v3_64, rv b145, iv v5_148, rv b149, rv b168, rv b171, rv b173, .unset, .unset, .unset] [])) (T174.setTop (mkF m 123 #[iv p1, iv p2, iv p3, iv v3_64, rv b145, iv v5_148, rv b149, rv b168, rv b171, rv b173, .unset, .unset, .unset] [(.int (own_ex v5_148))])) := by
        refine XS.iload X174.here hx rfl (hb hby at_108) rfl ?_
        show Steps _ _ _ (T174.setTop (mkF m 110 #[iv p1, iv p2, iv p3, iv v3_64, rv b145, iv v5_148, rv b149, rv b168, rv b171, rv b173, .unset, .unset, .unset] [(.int v5_148)])) _
        by_cases c110_176 : v5_148 < (0 : Int32)
        · refine XS.ifYes X174.here hx rfl (pc0 := 110) (pc' := 118) rfl (hb hby at_110) rfl ((if0 _ _).trans (tlt c110_176).1) (by decide) (by decide) ?_
          show Steps _ _ _ (T174.setTop (mkF m 118 #[iv p1, iv p2, iv p3, iv v3_64, rv b145, iv v5_148, rv b149, rv b168, rv b171, rv b173, .unset, .unset, .unset] [])) _
          refine XS.iconst X174.here hx rfl (hb hby at_118) ?_
          show Steps _ _ _ (T174.setTop (mkF m 119 #[iv p1, iv p2, iv p3, iv v3_64, rv b145, iv v5_148, rv b149, rv b168, rv b171, rv b173, .unset, .unset, .unset] [(.int (1 : Int32))])) _
          refine XS.goto X174.here hx rfl (pc0 := 119) (pc' := 123) rfl (hb hby at_119) (by decide) (by decide) ?_
          show Steps _ _ _ (T174.setTop (mkF m 123 #[iv p1, iv p2, iv p3, iv v3_64, rv b145, iv v5_148, rv b149, rv b168, rv b171, rv b173, .unset, .unset, .unset] [(.int (1 : Int32))])) _
          rw [show (own_ex v5_148) = (1 : Int32) from by simp [own_ex, c110_176]]; exact Steps.refl _
        · refine XS.ifNo X174.here hx rfl (hb hby at_110) rfl ((if0 _ _).trans (flt c110_176).1) ?_
          show Steps _ _ _ (T174.setTop (mkF m 113 #[iv p1, iv p2, iv p3, iv v3_64, rv b145, iv v5_148, rv b149, rv b168, rv b171, rv b173, .unset, .unset, .unset] [])) _
          refine XS.iload X174.here hx rfl (hb hby at_113) rfl ?_
          show Steps _ _ _ (T174.setTop (mkF m 115 #[iv p1, iv p2, iv p3, iv v3_64, rv b145, iv v5_148, rv b149, rv b168, rv b171, rv b173, .unset, .unset, .unset] [(.int v5_148)])) _
          by_cases c115_177 : (0 : Int32) < v5_148
          · refine XS.ifNo X174.here hx rfl (hb hby at_115) rfl ((if0 _ _).trans (tlt c115_177).2.2.2) ?_
            show Steps _ _ _ (T174.setTop (mkF m 118 #[iv p1, iv p2, iv p3, iv v3_64, rv b145, iv v5_148, rv b149, rv b168, rv b171, rv b173, .unset, .unset, .unset] [])) _
            refine XS.iconst X174.here hx rfl (hb hby at_118) ?_
            show Steps _ _ _ (T174.setTop (mkF m 119 #[iv p1, iv p2, iv p3, iv v3_64, rv b145, iv v5_148, rv b149, rv b168, rv b171, rv b173, .unset, .unset, .unset] [(.int (1 : Int32))])) _
            refine XS.goto X174.here hx rfl (pc0 := 119) (pc' := 123) rfl (hb hby at_119) (by decide) (by decide) ?_
            show Steps _ _ _ (T174.setTop (mkF m 123 #[iv p1, iv p2, iv p3, iv v3_64, rv b145, iv v5_148, rv b149, rv b168, rv b171, rv b173, .unset, .unset, .unset] [(.int (1 : Int32))])) _
            rw [show (own_ex v5_148) = (1 : Int32) from by simp [own_ex, c110_176, c115_177]]; exact Steps.refl _
          · refine XS.ifYes X174.here hx rfl (pc0 := 115) (pc' := 122) rfl (hb hby at_115) rfl ((if0 _ _).trans (flt c115_177).2.2.2) (by decide) (by decide) ?_
            show Steps _ _ _ (T174.setTop (mkF m 122 #[iv p1, iv p2, iv p3, iv v3_64, rv b145, iv v5_148, rv b149, rv b168, rv b171, rv b173, .unset, .unset, .unset] [])) _
            refine XS.iconst X174.here hx rfl (hb hby at_122) ?_
            show Steps _ _ _ (T174.setTop (mkF m 123 #[iv p1, iv p2, iv p3, iv v3_64, rv b145, iv v5_148, rv b149, rv b168, rv b171, rv b173, .unset, .unset, .unset] [(.int (0 : Int32))])) _
            rw [show (own_ex v5_148) = (0 : Int32) from by simp [own_ex, c110_176, c115_177]]; exact Steps.refl _
      refine own_go di175 ?_
      show own_Fin _ _ _ _ (T174.setTop (mkF m 123 #[iv p1, iv p2, iv p3, iv v3_64, rv b145, iv v5_148, rv b149, rv b168, rv b171, rv b173, .unset, .unset, .unset] [(.int (own_ex v5_148))]))
      refine own_go (XS.istore X174.here hx rfl (hb hby at_123) rfl rfl (Steps.refl _)) ?_
      show own_Fin _ _ _ _ (T174.setTop (mkF m 125 #[iv p1, iv p2, iv p3, iv v3_64, rv b145, iv v5_148, rv b149, rv b168, rv b171, rv b173, iv (own_ex v5_148), .unset, .unset] []))
      generalize hz_v10_178 : (own_ex v5_148) = v10_178
      refine own_go (XS.aload X174.here hx rfl (hb hby at_125) rfl rfl (Steps.refl _)) ?_
      show own_Fin _ _ _ _ (T174.setTop (mkF m 127 #[iv p1, iv p2, iv p3, iv v3_64, rv b145, iv v5_148, rv b149, rv b168, rv b171, rv b173, iv v10_178, .unset, .unset] [(.ref b173)]))
      obtain ⟨cq179, kq179, q179a, q179b, q179c⟩ := isOf hZ170 rfl r174_0
      obtain ⟨_, _, ⟨T179, L179, k179, n179⟩, -, X179, ⟨Lc179, hQ179, l179, y179, z179⟩, st179⟩ := X174.virtualBack hx (y := (⟨"com/example/pryority/pryority/Response", "isAnswer", "()Z"⟩ : MethodName)) (z := (⟨"com/example/pryority/pryority/Response", "isAnswer", "()Z"⟩ : MethodName)) hown170 (mvT hZ170 (hw _ (List.mem_of_getElem? (i := 76) rfl))) (mvT hZ170 (hw _ (List.mem_of_getElem? (i := 77) rfl))) (notFace_of_selects (args := #[]) (mvT hZ170 (hw _ (List.mem_of_getElem? (i := 79) rfl)))) (mvT hZ170 (hw _ (List.mem_of_getElem? (i := 79) rfl))) (mvT hZ170 (hw _ (List.mem_of_getElem? (i := 78) rfl))) (by decide) (backOf (W := 0) (rmia l Z a0 hw [] b173 v5_148 T174.heap n0 Z174 r174_1) hZ170 (hw _ (List.mem_of_getElem? (i := 80) rfl)) (hw _ (List.mem_of_getElem? (i := 56) rfl)) (by decide) (by decide)) q179a q179c (g := (mkF m 127 #[iv p1, iv p2, iv p3, iv v3_64, rv b145, iv v5_148, rv b149, rv b168, rv b171, rv b173, iv v10_178, .unset, .unset] [(.ref b173)])) rfl (by rw [hml]; rfl) (Steps.refl _) (argsL := []) (rest := []) (lenOf pd__28__29_Z rfl) rfl (by show 2 * 0 + _ ≤ _; exact Nat.le_of_eq rfl) (hb hby at_127) (fun _ hv => ⟨rfl, rfl, (by decide : 8 + 0 ≤ _), (by decide : 19 + 0 ≤ _)⟩)
      dsimp only [Pt.U, Pt.locs, Pt.cells, Pt.slots] at X179 l179 y179 z179 st179 hQ179
      subst l179 y179 z179
      obtain ⟨rfl, Nq179, e179⟩ := hQ179
      refine own_go st179 ?_
      have N179 := Fr.app N174 Nq179
      show own_Fin _ _ _ _ (T179.setTop (mkF m 130 #[iv p1, iv p2, iv p3, iv v3_64, rv b145, iv v5_148, rv b149, rv b168, rv b171, rv b173, iv v10_178, .unset, .unset] [(.int (own_an v5_148))]))
      refine own_go (XS.istore X179.here hx rfl (hb hby at_130) rfl rfl (Steps.refl _)) ?_
      show own_Fin _ _ _ _ (T179.setTop (mkF m 132 #[iv p1, iv p2, iv p3, iv v3_64, rv b145, iv v5_148, rv b149, rv b168, rv b171, rv b173, iv v10_178, iv (own_an v5_148), .unset] []))
      generalize hz_v11_180 : (own_an v5_148) = v11_180
      obtain ⟨_, _, ⟨T181, L181, k181, n181⟩, -, X181, hs2181, hgr181, ⟨Lc181, hQ181, l181, y181, z181⟩, st181⟩ := callSS X179 hx (y := (⟨"com/example/pryority/pryority/Response", "noAnswer", "()Lcom/example/pryority/pryority/Response;"⟩ : MethodName)) hown170 (mvT hZ170 (hw _ (List.mem_of_getElem? (i := 81) rfl))) (mvT hZ170 (hw _ (List.mem_of_getElem? (i := 82) rfl))) (mvT hZ170 (hw _ (List.mem_of_getElem? (i := 56) rfl))) (mvT hZ170 (hw _ (List.mem_of_getElem? (i := 83) rfl))) (by decide) (backOfS (W := 0) (rmna l Z a0 hw [] el T174.heap n0 Z174 Od174 S_EMPTY_LIST) hZ170 (hw _ (List.mem_of_getElem? (i := 83) rfl)) (hw _ (List.mem_of_getElem? (i := 56) rfl)) (by decide) (by decide)) (g := (mkF m 132 #[iv p1, iv p2, iv p3, iv v3_64, rv b145, iv v5_148, rv b149, rv b168, rv b171, rv b173, iv v10_178, iv v11_180, .unset] [])) rfl (by rw [hml]; rfl) (argsL := []) (rest := []) (lenOf pd__28__29_Lcom_2f_example_2f_pryority_2f_pryority_2f_Response_3b_ rfl) rfl (by show 2 * 0 + _ ≤ _; exact Nat.le_of_eq rfl) (hb hby at_132) (fun _ hv => ⟨rfl, e179, (by decide : 8 + 4 ≤ _), (by decide : 19 + 9 ≤ _)⟩)
      dsimp only [Pt.U, Pt.locs, Pt.cells, Pt.slots] at X181 l181 y181 z181 st181 hQ181 hs2181 hgr181
      subst l181 y181 z181
      obtain ⟨Xr181, hS181, hZ181, hown181⟩ := rebS hS170 (show T170.heap.size ≤ T179.heap.size by rw [e179]; exact hk174) X181 hs2181 hgr181 hZ170 hown170
      refine own_go st181 ?_
      obtain ⟨r_181, rfl, Nq181, K181, g_r_181, sb_r_181, r181_0, r181_1⟩ := hQ181
      have ne_b145_r_181 : b145 ≠ r_181 := Nat.ne_of_lt (Nat.lt_of_lt_of_le V_b145_174.lt sb_r_181)
      have ne_b149_r_181 : b149 ≠ r_181 := Nat.ne_of_lt (Nat.lt_of_lt_of_le V_b149_174.lt sb_r_181)
      have ne_b168_r_181 : b168 ≠ r_181 := Nat.ne_of_lt (Nat.lt_of_lt_of_le r170_0_174.lt sb_r_181)
      have ne_b169_r_181 : b169 ≠ r_181 := Nat.ne_of_lt (Nat.lt_of_lt_of_le V_b169_174.lt sb_r_181)
      have ne_b171_r_181 : b171 ≠ r_181 := Nat.ne_of_lt (Nat.lt_of_lt_of_le r172_0_174.lt sb_r_181)
      have ne_b173_r_181 : b173 ≠ r_181 := Nat.ne_of_lt (Nat.lt_of_lt_of_le r174_0.lt sb_r_181)
      have Od181 := Od174.keep K181 all0
      have V_b145_181 := V_b145_174.keep K181 nin0
      have V_b149_181 := V_b149_174.keep K181 nin0
      have r170_0_181 := r170_0_174.keep K181
      have V_b169_181 := V_b169_174.keep K181 nin0
      have r172_0_181 := r172_0_174.keep K181
      have r172_1_181 := r172_1_174.keep K181 nin0
      have r172_2_181 := r172_2_174.keep K181 nin0
      have r174_0_181 := r174_0.keep K181
      have r174_1_181 := r174_1.keep K181 nin0
      have Z181 : n0 ≤ T181.heap.size := Nat.le_trans Z174 K181.1
      have hk181 : T170.heap.size ≤ T181.heap.size := Nat.le_trans hk174 K181.1
      have hkr181 : T181.heap.size ≤ T181.heap.size := Nat.le_refl _
      have N181 := Fr.app N179 Nq181
      show own_Fin _ _ _ _ (T181.setTop (mkF m 135 #[iv p1, iv p2, iv p3, iv v3_64, rv b145, iv v5_148, rv b149, rv b168, rv b171, rv b173, iv v10_178, iv v11_180, .unset] [(.ref r_181)]))
      refine own_go (XS.astore Xr181.here hx rfl (hb hby at_135) rfl rfl rfl (Steps.refl _)) ?_
      show own_Fin _ _ _ _ (T181.setTop (mkF m 137 #[iv p1, iv p2, iv p3, iv v3_64, rv b145, iv v5_148, rv b149, rv b168, rv b171, rv b173, iv v10_178, iv v11_180, rv r_181] []))
      refine own_go (XS.iload Xr181.here hx rfl (hb hby at_137) rfl (Steps.refl _)) ?_
      show own_Fin _ _ _ _ (T181.setTop (mkF m 139 #[iv p1, iv p2, iv p3, iv v3_64, rv b145, iv v5_148, rv b149, rv b168, rv b171, rv b173, iv v10_178, iv v11_180, rv r_181] [(.int v11_180)]))
      refine own_go (XS.iload Xr181.here hx rfl (hb hby at_139) rfl (Steps.refl _)) ?_
      show own_Fin _ _ _ _ (T181.setTop (mkF m 141 #[iv p1, iv p2, iv p3, iv v3_64, rv b145, iv v5_148, rv b149, rv b168, rv b171, rv b173, iv v10_178, iv v11_180, rv r_181] [(.int v10_178), (.int v11_180)]))
      refine own_go (XS.icmpNo Xr181.here hx rfl (hb hby at_141) rfl (teq (show v11_180 = v10_178 from (by rw [← hz_v11_180, ← hz_v10_178]; exact own_exan _))).2 (Steps.refl _)) ?_
      show own_Fin _ _ _ _ (T181.setTop (mkF m 144 #[iv p1, iv p2, iv p3, iv v3_64, rv b145, iv v5_148, rv b149, rv b168, rv b171, rv b173, iv v10_178, iv v11_180, rv r_181] []))
      refine own_go (XS.aload Xr181.here hx rfl (hb hby at_144) rfl rfl (Steps.refl _)) ?_
      show own_Fin _ _ _ _ (T181.setTop (mkF m 146 #[iv p1, iv p2, iv p3, iv v3_64, rv b145, iv v5_148, rv b149, rv b168, rv b171, rv b173, iv v10_178, iv v11_180, rv r_181] [(.ref r_181)]))
      obtain ⟨cq182, kq182, q182a, q182b, q182c⟩ := isOf hZ181 rfl r181_0
      obtain ⟨_, _, ⟨T182, L182, k182, n182⟩, -, X182, ⟨Lc182, hQ182, l182, y182, z182⟩, st182⟩ := Xr181.virtualBack hx (y := (⟨"com/example/pryority/pryority/Response", "isAnswer", "()Z"⟩ : MethodName)) (z := (⟨"com/example/pryority/pryority/Response", "isAnswer", "()Z"⟩ : MethodName)) hown181 (mvT hZ181 (hw _ (List.mem_of_getElem? (i := 76) rfl))) (mvT hZ181 (hw _ (List.mem_of_getElem? (i := 77) rfl))) (notFace_of_selects (args := #[]) (mvT hZ181 (hw _ (List.mem_of_getElem? (i := 79) rfl)))) (mvT hZ181 (hw _ (List.mem_of_getElem? (i := 79) rfl))) (mvT hZ181 (hw _ (List.mem_of_getElem? (i := 78) rfl))) (by decide) (backOf (W := 0) (rmia l Z a0 hw [] r_181 (0 : Int32) T181.heap n0 Z181 r181_1) hZ181 (hw _ (List.mem_of_getElem? (i := 80) rfl)) (hw _ (List.mem_of_getElem? (i := 56) rfl)) (by decide) (by decide)) q182a q182c (g := (mkF m 146 #[iv p1, iv p2, iv p3, iv v3_64, rv b145, iv v5_148, rv b149, rv b168, rv b171, rv b173, iv v10_178, iv v11_180, rv r_181] [(.ref r_181)])) rfl (by rw [hml]; rfl) (Steps.refl _) (argsL := []) (rest := []) (lenOf pd__28__29_Z rfl) rfl (by show 2 * 0 + _ ≤ _; exact Nat.le_of_eq rfl) (hb hby at_146) (fun _ hv => ⟨rfl, rfl, (by decide : 12 + 0 ≤ _), (by decide : 28 + 0 ≤ _)⟩)
      dsimp only [Pt.U, Pt.locs, Pt.cells, Pt.slots] at X182 l182 y182 z182 st182 hQ182
      subst l182 y182 z182
      obtain ⟨rfl, Nq182, e182⟩ := hQ182
      refine own_go st182 ?_
      have N182 := Fr.app N181 Nq182
      show own_Fin _ _ _ _ (T182.setTop (mkF m 149 #[iv p1, iv p2, iv p3, iv v3_64, rv b145, iv v5_148, rv b149, rv b168, rv b171, rv b173, iv v10_178, iv v11_180, rv r_181] [(.int (own_an (0 : Int32)))]))
      refine own_go (XS.ifNo X182.here hx rfl (hb hby at_149) rfl ((if0 _ _).trans (teq (show (own_an (0 : Int32)) = (0 : Int32) from rfl)).2) (Steps.refl _)) ?_
      show own_Fin _ _ _ _ (T182.setTop (mkF m 152 #[iv p1, iv p2, iv p3, iv v3_64, rv b145, iv v5_148, rv b149, rv b168, rv b171, rv b173, iv v10_178, iv v11_180, rv r_181] []))
      refine own_go (XS.iconst X182.here hx rfl (hb hby at_152) (Steps.refl _)) ?_
      show own_Fin _ _ _ _ (T182.setTop (mkF m 153 #[iv p1, iv p2, iv p3, iv v3_64, rv b145, iv v5_148, rv b149, rv b168, rv b171, rv b173, iv v10_178, iv v11_180, rv r_181] [(.int (1 : Int32))]))
      refine own_go (XS.goto X182.here hx rfl (pc0 := 153) (pc' := 157) rfl (hb hby at_153) (by decide) (by decide) (Steps.refl _)) ?_
      show own_Fin _ _ _ _ (T182.setTop (mkF m 157 #[iv p1, iv p2, iv p3, iv v3_64, rv b145, iv v5_148, rv b149, rv b168, rv b171, rv b173, iv v10_178, iv v11_180, rv r_181] [(.int (1 : Int32))]))
      obtain ⟨fs183, hr183, hrun183, hended183, hRW183⟩ := X182.leaveW (s := s) hS181 (n := T181.heap.size) (by rw [e182]; exact hkr181) (v := some (.int (1 : Int32))) (fun h => by rw [Bd.returns] at h; cases h)
      refine own_done (retN X182 hx (t := .boolean) Bd.returns (by simp) (hb hby at_157) hr183) hrun183 hended183 ⟨_, _, rfl, ?_, hRW183.1, hRW183.2.1, hRW183.2.2.1, hRW183.2.2.2.mono (by decide) (by decide)⟩
      show Q0 Z p1 p2 p3 cs dd el h0 n0 _ T182.heap _
      rw [e182]
      exact ⟨rfl, N182⟩
  · show own_Fin _ _ _ _ (s₁.setTop (mkF m 17 #[iv p1, iv p2, iv p3, iv v3_64, .unset, .unset, .unset, .unset, .unset, .unset, .unset, .unset, .unset] [(.int (3 : Int32))]))
    obtain ⟨T184, h184, k184, X184, e184, E184, A184, st184⟩ := newP X0w hx hZ (hw _ (List.mem_of_getElem? (i := 0) rfl)) e0 (g := (mkF m 17 #[iv p1, iv p2, iv p3, iv v3_64, .unset, .unset, .unset, .unset, .unset, .unset, .unset, .unset, .unset] [(.int (3 : Int32))])) rfl (hb hby at_17) rfl (by decide) (cap := 3) (by decide) (by decide) (by decide) (by decide)
    obtain ⟨b184, g184⟩ : ∃ z, z = h0.size := ⟨_, rfl⟩
    rw [← g184] at A184 st184
    refine own_by st184 ?_
    have Od184 := O0.ext E184
    have g_b184 : n0 ≤ b184 := Nat.le_trans Z0 (Nat.le_of_eq g184.symm)
    have Z184 : n0 ≤ h184.size := Nat.le_trans Z0 E184.1
    have hk184 : 0 ≤ h184.size := Nat.le_trans hk0 E184.1
    have V_b184 : Arv Z h184 b184 k184 .byte (3 : Int32) [(.int (0 : Int32)), (.int (0 : Int32)), (.int (0 : Int32))] (.int (0 : Int32)) := (Arv.new A184 (by decide)).pad (pad_rep [] (.int (0 : Int32)) 3)
    show own_Fin _ _ _ _ (T184.setTop (mkF m 19 #[iv p1, iv p2, iv p3, iv v3_64, .unset, .unset, .unset, .unset, .unset, .unset, .unset, .unset, .unset] [(.ref b184)]))
    refine own_go (XS.astore X184.here hx rfl (hb hby at_19) rfl rfl rfl (Steps.refl _)) ?_
    show own_Fin _ _ _ _ (T184.setTop (mkF m 21 #[iv p1, iv p2, iv p3, iv v3_64, rv b184, .unset, .unset, .unset, .unset, .unset, .unset, .unset, .unset] []))
    refine own_go (XS.iloadN X184.here hx rfl (hb hby at_21) rfl (Steps.refl _)) ?_
    show own_Fin _ _ _ _ (T184.setTop (mkF m 22 #[iv p1, iv p2, iv p3, iv v3_64, rv b184, .unset, .unset, .unset, .unset, .unset, .unset, .unset, .unset] [(.int p2)]))
    refine own_go (XS.bipush X184.here hx rfl (hb hby at_22) (Steps.refl _)) ?_
    show own_Fin _ _ _ _ (T184.setTop (mkF m 24 #[iv p1, iv p2, iv p3, iv v3_64, rv b184, .unset, .unset, .unset, .unset, .unset, .unset, .unset, .unset] [(.int (8 : Int32)), (.int p2)]))
    refine own_go (XS.iand X184.here hx rfl (hb hby at_24) rfl (Steps.refl _)) ?_
    show own_Fin _ _ _ _ (T184.setTop (mkF m 25 #[iv p1, iv p2, iv p3, iv v3_64, rv b184, .unset, .unset, .unset, .unset, .unset, .unset, .unset, .unset] [(.int (p2 &&& (8 : Int32)))]))
    have di185 : Steps p.tables e below (T184.setTop (mkF m 25 #[iv p1, iv p2, iv p3, iv v3_64, rv b184, .unset, .unset, .unset, .unset, .unset, .unset, .unset, .unset] [(.int (p2 &&& (8 : Int32)))])) (T184.setTop (mkF m 33 #[iv p1, iv p2, iv p3, iv v3_64, rv b184, .unset, .unset, .unset, .unset, .unset, .unset, .unset, .unset] [(.int (own_st (p2 &&& (8 : Int32)) p1))])) := by
      by_cases c25_186 : (p2 &&& (8 : Int32)) = (0 : Int32)
      · refine XS.ifYes X184.here hx rfl (pc0 := 25) (pc' := 32) rfl (hb hby at_25) rfl ((if0 _ _).trans (teq c25_186).1) (by decide) (by decide) ?_
        show Steps _ _ _ (T184.setTop (mkF m 32 #[iv p1, iv p2, iv p3, iv v3_64, rv b184, .unset, .unset, .unset, .unset, .unset, .unset, .unset, .unset] [])) _
        refine XS.iloadN X184.here hx rfl (hb hby at_32) rfl ?_
        show Steps _ _ _ (T184.setTop (mkF m 33 #[iv p1, iv p2, iv p3, iv v3_64, rv b184, .unset, .unset, .unset, .unset, .unset, .unset, .unset, .unset] [(.int p1)])) _
        rw [show (own_st (p2 &&& (8 : Int32)) p1) = p1 from by simp [own_st, c25_186]]; exact Steps.refl _
      · refine XS.ifNo X184.here hx rfl (hb hby at_25) rfl ((if0 _ _).trans (feq c25_186).1) ?_
        show Steps _ _ _ (T184.setTop (mkF m 28 #[iv p1, iv p2, iv p3, iv v3_64, rv b184, .unset, .unset, .unset, .unset, .unset, .unset, .unset, .unset] [])) _
        refine XS.iconst X184.here hx rfl (hb hby at_28) ?_
        show Steps _ _ _ (T184.setTop (mkF m 29 #[iv p1, iv p2, iv p3, iv v3_64, rv b184, .unset, .unset, .unset, .unset, .unset, .unset, .unset, .unset] [(.int (0 : Int32))])) _
        refine XS.goto X184.here hx rfl (pc0 := 29) (pc' := 33) rfl (hb hby at_29) (by decide) (by decide) ?_
        show Steps _ _ _ (T184.setTop (mkF m 33 #[iv p1, iv p2, iv p3, iv v3_64, rv b184, .unset, .unset, .unset, .unset, .unset, .unset, .unset, .unset] [(.int (0 : Int32))])) _
        rw [show (own_st (p2 &&& (8 : Int32)) p1) = (0 : Int32) from by simp [own_st, c25_186]]; exact Steps.refl _
    refine own_go di185 ?_
    show own_Fin _ _ _ _ (T184.setTop (mkF m 33 #[iv p1, iv p2, iv p3, iv v3_64, rv b184, .unset, .unset, .unset, .unset, .unset, .unset, .unset, .unset] [(.int (own_st (p2 &&& (8 : Int32)) p1))]))
    refine own_go (XS.istore X184.here hx rfl (hb hby at_33) rfl rfl (Steps.refl _)) ?_
    show own_Fin _ _ _ _ (T184.setTop (mkF m 35 #[iv p1, iv p2, iv p3, iv v3_64, rv b184, iv (own_st (p2 &&& (8 : Int32)) p1), .unset, .unset, .unset, .unset, .unset, .unset, .unset] []))
    generalize hz_v5_187 : (own_st (p2 &&& (8 : Int32)) p1) = v5_187
    refine own_go (XS.iconst X184.here hx rfl (hb hby at_35) (Steps.refl _)) ?_
    show own_Fin _ _ _ _ (T184.setTop (mkF m 36 #[iv p1, iv p2, iv p3, iv v3_64, rv b184, iv v5_187, .unset, .unset, .unset, .unset, .unset, .unset, .unset] [(.int (1 : Int32))]))
    obtain ⟨T188, h188, k188, X188, e188, E188, A188, st188⟩ := newP X184 hx hZ (hw _ (List.mem_of_getElem? (i := 1) rfl)) e184 (g := (mkF m 36 #[iv p1, iv p2, iv p3, iv v3_64, rv b184, iv v5_187, .unset, .unset, .unset, .unset, .unset, .unset, .unset] [(.int (1 : Int32))])) rfl (hb hby at_36) rfl (by decide) (cap := 1) (by decide) (by decide) (by decide) (by decide)
    obtain ⟨b188, g188⟩ : ∃ z, z = h184.size := ⟨_, rfl⟩
    rw [← g188] at A188 st188
    refine own_by st188 ?_
    have ne_b184_b188 : b184 ≠ b188 := Nat.ne_of_lt (Nat.lt_of_lt_of_eq V_b184.lt g188.symm)
    have Od188 := Od184.ext E188
    have V_b184_188 := V_b184.ext E188
    have g_b188 : n0 ≤ b188 := Nat.le_trans Z184 (Nat.le_of_eq g188.symm)
    have Z188 : n0 ≤ h188.size := Nat.le_trans Z184 E188.1
    have hk188 : 0 ≤ h188.size := Nat.le_trans hk184 E188.1
    have V_b188 : Arv Z h188 b188 k188 .char (1 : Int32) [(.int (0 : Int32))] (.int (0 : Int32)) := (Arv.new A188 (by decide)).pad (pad_rep [] (.int (0 : Int32)) 1)
    show own_Fin _ _ _ _ (T188.setTop (mkF m 38 #[iv p1, iv p2, iv p3, iv v3_64, rv b184, iv v5_187, .unset, .unset, .unset, .unset, .unset, .unset, .unset] [(.ref b188)]))
    refine own_go (XS.astore X188.here hx rfl (hb hby at_38) rfl rfl rfl (Steps.refl _)) ?_
    show own_Fin _ _ _ _ (T188.setTop (mkF m 40 #[iv p1, iv p2, iv p3, iv v3_64, rv b184, iv v5_187, rv b188, .unset, .unset, .unset, .unset, .unset, .unset] []))
    refine own_go (XS.aload X188.here hx rfl (hb hby at_40) rfl rfl (Steps.refl _)) ?_
    show own_Fin _ _ _ _ (T188.setTop (mkF m 42 #[iv p1, iv p2, iv p3, iv v3_64, rv b184, iv v5_187, rv b188, .unset, .unset, .unset, .unset, .unset, .unset] [(.ref b188)]))
    refine own_go (XS.iconst X188.here hx rfl (hb hby at_42) (Steps.refl _)) ?_
    show own_Fin _ _ _ _ (T188.setTop (mkF m 43 #[iv p1, iv p2, iv p3, iv v3_64, rv b184, iv v5_187, rv b188, .unset, .unset, .unset, .unset, .unset, .unset] [(.int (0 : Int32)), (.ref b188)]))
    refine own_go (XS.iloadN X188.here hx rfl (hb hby at_43) rfl (Steps.refl _)) ?_
    show own_Fin _ _ _ _ (T188.setTop (mkF m 44 #[iv p1, iv p2, iv p3, iv v3_64, rv b184, iv v5_187, rv b188, .unset, .unset, .unset, .unset, .unset, .unset] [(.int p3), (.int (0 : Int32)), (.ref b188)]))
    refine own_go (XS.sipush X188.here hx rfl (hb hby at_44) (Steps.refl _)) ?_
    show own_Fin _ _ _ _ (T188.setTop (mkF m 47 #[iv p1, iv p2, iv p3, iv v3_64, rv b184, iv v5_187, rv b188, .unset, .unset, .unset, .unset, .unset, .unset] [(.int (255 : Int32)), (.int p3), (.int (0 : Int32)), (.ref b188)]))
    refine own_go (XS.iand X188.here hx rfl (hb hby at_47) rfl (Steps.refl _)) ?_
    show own_Fin _ _ _ _ (T188.setTop (mkF m 48 #[iv p1, iv p2, iv p3, iv v3_64, rv b184, iv v5_187, rv b188, .unset, .unset, .unset, .unset, .unset, .unset] [(.int (p3 &&& (255 : Int32))), (.int (0 : Int32)), (.ref b188)]))
    refine own_go (XS.i2c X188.here hx rfl (hb hby at_48) rfl (Steps.refl _)) ?_
    show own_Fin _ _ _ _ (T188.setTop (mkF m 49 #[iv p1, iv p2, iv p3, iv v3_64, rv b184, iv v5_187, rv b188, .unset, .unset, .unset, .unset, .unset, .unset] [(.int ((p3 &&& (255 : Int32)).toUInt32.toUInt16.toUInt32.toInt32)), (.int (0 : Int32)), (.ref b188)]))
    obtain ⟨cl189, Ar189, qa189, Sa189, Na189, Ha189, Ga189⟩ := id V_b188
    have hin189 : ¬ ((0 : Int32) < 0 ∨ cl189.slots.size ≤ ((0 : Int32)).toNatClampNeg) := inb_of Sa189 ⟨by decide, by decide⟩
    obtain ⟨T190, h190, X190, e190, W190, st190⟩ := stC X188 hx hZ e188 Ar189 (j := (0 : Int32)) hin189 (g := (mkF m 49 #[iv p1, iv p2, iv p3, iv v3_64, rv b184, iv v5_187, rv b188, .unset, .unset, .unset, .unset, .unset, .unset] [(.int ((p3 &&& (255 : Int32)).toUInt32.toUInt16.toUInt32.toInt32)), (.int (0 : Int32)), (.ref b188)])) rfl rfl (hb hby at_49)
    refine own_by st190 ?_
    have hnr190 : nar .char ((p3 &&& (255 : Int32)).toUInt32.toUInt16.toUInt32.toInt32) = (p3 &&& (255 : Int32)) := own_nc _
    rw [hnr190] at W190
    have V_b188_190 : Arv Z h190 b188 k188 .char (1 : Int32) [(.int (p3 &&& (255 : Int32)))] (.int (0 : Int32)) := Arv.set Ar189 qa189 Sa189 Na189 Ha189 Ga189 (hnr190 ▸ fits_nar_char ((p3 &&& (255 : Int32)).toUInt32.toUInt16.toUInt32.toInt32)) W190 0 rfl (Nat.le_of_ble_eq_true rfl)
    have Od190 := Od188.wr W190 g_b188
    have V_b184_190 := V_b184_188.other W190 ne_b184_b188
    have N190 := Fr.snoc X190 N0 g_b188
    have Z190 : n0 ≤ h190.size := Nat.le_trans Z188 (Keep.of_wr W190).1
    have hk190 : 0 ≤ h190.size := Nat.le_trans hk188 (Keep.of_wr W190).1
    show own_Fin _ _ _ _ (T190.setTop (mkF m 50 #[iv p1, iv p2, iv p3, iv v3_64, rv b184, iv v5_187, rv b188, .unset, .unset, .unset, .unset, .unset, .unset] []))
    refine own_go (XS.iloadN X190.here hx rfl (hb hby at_50) rfl (Steps.refl _)) ?_
    show own_Fin _ _ _ _ (T190.setTop (mkF m 51 #[iv p1, iv p2, iv p3, iv v3_64, rv b184, iv v5_187, rv b188, .unset, .unset, .unset, .unset, .unset, .unset] [(.int p2)]))
    refine own_go (XS.bipush X190.here hx rfl (hb hby at_51) (Steps.refl _)) ?_
    show own_Fin _ _ _ _ (T190.setTop (mkF m 53 #[iv p1, iv p2, iv p3, iv v3_64, rv b184, iv v5_187, rv b188, .unset, .unset, .unset, .unset, .unset, .unset] [(.int (16 : Int32)), (.int p2)]))
    refine own_go (XS.iand X190.here hx rfl (hb hby at_53) rfl (Steps.refl _)) ?_
    show own_Fin _ _ _ _ (T190.setTop (mkF m 54 #[iv p1, iv p2, iv p3, iv v3_64, rv b184, iv v5_187, rv b188, .unset, .unset, .unset, .unset, .unset, .unset] [(.int (p2 &&& (16 : Int32)))]))
    by_cases c54_191 : (p2 &&& (16 : Int32)) = (0 : Int32)
    · refine own_go (XS.ifYes X190.here hx rfl (pc0 := 54) (pc' := 70) rfl (hb hby at_54) rfl ((if0 _ _).trans (teq c54_191).1) (by decide) (by decide) (Steps.refl _)) ?_
      show own_Fin _ _ _ _ (T190.setTop (mkF m 70 #[iv p1, iv p2, iv p3, iv v3_64, rv b184, iv v5_187, rv b188, .unset, .unset, .unset, .unset, .unset, .unset] []))
      obtain ⟨T192, h192, X192, e192, E192, A192, D192, U192, st192⟩ := newO X190 hx hZ hown (hw _ (List.mem_of_getElem? (i := 2) rfl)) (hw _ (List.mem_of_getElem? (i := 3) rfl)) (hw _ (List.mem_of_getElem? (i := 4) rfl)) e190 (g := (mkF m 70 #[iv p1, iv p2, iv p3, iv v3_64, rv b184, iv v5_187, rv b188, .unset, .unset, .unset, .unset, .unset, .unset] [])) rfl (hb hby at_70) (by decide) (by decide)
      obtain ⟨b192, g192⟩ : ∃ z, z = h190.size := ⟨_, rfl⟩
      rw [← g192] at A192 D192 U192 st192
      refine own_by st192 ?_
      have ne_b184_b192 : b184 ≠ b192 := Nat.ne_of_lt (Nat.lt_of_lt_of_eq V_b184_190.lt g192.symm)
      have ne_b188_b192 : b188 ≠ b192 := Nat.ne_of_lt (Nat.lt_of_lt_of_eq V_b188_190.lt g192.symm)
      have Od192 := Od190.ext E192
      have V_b184_192 := V_b184_190.ext E192
      have V_b188_192 := V_b188_190.ext E192
      have g_b192 : n0 ≤ b192 := Nat.le_trans Z190 (Nat.le_of_eq g192.symm)
      have Z192 : n0 ≤ h192.size := Nat.le_trans Z190 E192.1
      have hk192 : 0 ≤ h192.size := Nat.le_trans hk190 E192.1
      have E_b192 := A192
      have F_coder_b192 : Fld Z h192 b192 "java/lang/String" "coder" "B" (.int (0 : Int32)) := D192 (Or.inr (hw _ (List.mem_of_getElem? (i := 27) rfl))) (ty := .byte) (by decide)
      have F_value_b192 : Fld Z h192 b192 "java/lang/String" "value" "[B" .null := D192 (Or.inr (hw _ (List.mem_of_getElem? (i := 29) rfl))) (ty := (.array .byte)) (by decide)
      show own_Fin _ _ _ _ (T192.setTop (mkF m 73 #[iv p1, iv p2, iv p3, iv v3_64, rv b184, iv v5_187, rv b188, .unset, .unset, .unset, .unset, .unset, .unset] [(.ref b192)]))
      refine own_go (XS.dup X192.here hx rfl (hb hby at_73) rfl rfl (Steps.refl _)) ?_
      show own_Fin _ _ _ _ (T192.setTop (mkF m 74 #[iv p1, iv p2, iv p3, iv v3_64, rv b184, iv v5_187, rv b188, .unset, .unset, .unset, .unset, .unset, .unset] [(.ref b192), (.ref b192)]))
      refine own_go (XS.aload X192.here hx rfl (hb hby at_74) rfl rfl (Steps.refl _)) ?_
      show own_Fin _ _ _ _ (T192.setTop (mkF m 76 #[iv p1, iv p2, iv p3, iv v3_64, rv b184, iv v5_187, rv b188, .unset, .unset, .unset, .unset, .unset, .unset] [(.ref b188), (.ref b192), (.ref b192)]))
      obtain ⟨_, _, ⟨T193, L193, k193, n193⟩, -, X193, ⟨Lc193, hQ193, l193, y193, z193⟩, st193⟩ := X192.specialBack hx (y := (⟨"java/lang/String", "<init>", "([C)V"⟩ : MethodName)) rfl hown (mvT hZ (hw _ (List.mem_of_getElem? (i := 5) rfl))) (mvT hZ (hw _ (List.mem_of_getElem? (i := 6) rfl))) (mvT hZ (hw _ (List.mem_of_getElem? (i := 7) rfl))) (by decide) (backOf (W := 1) (rmstr_1 l Z a0 hw [] b192 b188 k188 cs (p3 &&& (255 : Int32)) h192 n0 Z192 E_b192 F_value_b192 F_coder_b192 g_b192 Od192 S_COMPACT_STRINGS hcs V_b188_192 (own_lt p3)) hZ (hw _ (List.mem_of_getElem? (i := 7) rfl)) (hw _ (List.mem_of_getElem? (i := 4) rfl)) (by decide) (by decide)) (g := (mkF m 76 #[iv p1, iv p2, iv p3, iv v3_64, rv b184, iv v5_187, rv b188, .unset, .unset, .unset, .unset, .unset, .unset] [(.ref b188), (.ref b192), (.ref b192)])) rfl (by rw [hml]; rfl) (Steps.refl _) (a := b192) (argsL := [(.ref b188)]) (rest := [(.ref b192)]) (lenOf pd__28__5b_C_29_V rfl) rfl (by show 2 * 0 + _ ≤ _; exact Nat.le_of_eq rfl) (hb hby at_76) (fun _ hv => ⟨rfl, e192, (by decide : 3 + 1 ≤ _), (by decide : 8 + 1 ≤ _)⟩)
      dsimp only [Pt.U, Pt.locs, Pt.cells, Pt.slots] at X193 l193 y193 z193 st193 hQ193
      subst l193 y193 z193
      refine own_go st193 ?_
      obtain ⟨b_193, kb_193, rfl, Nq193, K193, g_b_193, sb_b_193, r193_0, r193_1, r193_2, r193_3⟩ := hQ193
      have ne_b184_b_193 : b184 ≠ b_193 := Nat.ne_of_lt (Nat.lt_of_lt_of_le V_b184_192.lt sb_b_193)
      have ne_b188_b_193 : b188 ≠ b_193 := Nat.ne_of_lt (Nat.lt_of_lt_of_le V_b188_192.lt sb_b_193)
      have ne_b192_b_193 : b192 ≠ b_193 := Nat.ne_of_lt (Nat.lt_of_lt_of_le E_b192.lt sb_b_193)
      have Od193 := Od192.keep K193 (allS g_b192 all0)
      have V_b184_193 := V_b184_192.keep K193 (ninS ne_b184_b192 nin0)
      have V_b188_193 := V_b188_192.keep K193 (ninS ne_b188_b192 nin0)
      have E_b192_193 := E_b192.keep K193
      have Z193 : n0 ≤ T193.heap.size := Nat.le_trans Z192 K193.1
      have hk193 : 0 ≤ T193.heap.size := Nat.le_trans hk192 K193.1
      have N193 := Fr.app N190 Nq193
      show own_Fin _ _ _ _ (T193.setTop (mkF m 79 #[iv p1, iv p2, iv p3, iv v3_64, rv b184, iv v5_187, rv b188, .unset, .unset, .unset, .unset, .unset, .unset] [(.ref b192)]))
      refine own_go (XS.astore X193.here hx rfl (hb hby at_79) rfl rfl rfl (Steps.refl _)) ?_
      show own_Fin _ _ _ _ (T193.setTop (mkF m 81 #[iv p1, iv p2, iv p3, iv v3_64, rv b184, iv v5_187, rv b188, rv b192, .unset, .unset, .unset, .unset, .unset] []))
      obtain ⟨T194, h194, X194, e194, E194, A194, D194, U194, st194⟩ := newO X193 hx hZ hown (hw _ (List.mem_of_getElem? (i := 30) rfl)) (hw _ (List.mem_of_getElem? (i := 31) rfl)) (hw _ (List.mem_of_getElem? (i := 32) rfl)) rfl (g := (mkF m 81 #[iv p1, iv p2, iv p3, iv v3_64, rv b184, iv v5_187, rv b188, rv b192, .unset, .unset, .unset, .unset, .unset] [])) rfl (hb hby at_81) (by decide) (by decide)
      obtain ⟨b194, g194⟩ : ∃ z, z = T193.heap.size := ⟨_, rfl⟩
      rw [← g194] at A194 D194 U194 st194
      refine own_by st194 ?_
      have ne_b184_b194 : b184 ≠ b194 := Nat.ne_of_lt (Nat.lt_of_lt_of_eq V_b184_193.lt g194.symm)
      have ne_b188_b194 : b188 ≠ b194 := Nat.ne_of_lt (Nat.lt_of_lt_of_eq V_b188_193.lt g194.symm)
      have ne_b192_b194 : b192 ≠ b194 := Nat.ne_of_lt (Nat.lt_of_lt_of_eq r193_0.lt g194.symm)
      have ne_b_193_b194 : b_193 ≠ b194 := Nat.ne_of_lt (Nat.lt_of_lt_of_eq r193_3.lt g194.symm)
      have Od194 := Od193.ext E194
      have V_b184_194 := V_b184_193.ext E194
      have V_b188_194 := V_b188_193.ext E194
      have r193_0_194 := r193_0.ext E194
      have r193_1_194 := r193_1.ext E194
      have r193_2_194 := r193_2.ext E194
      have r193_3_194 := r193_3.ext E194
      have g_b194 : n0 ≤ b194 := Nat.le_trans Z193 (Nat.le_of_eq g194.symm)
      have Z194 : n0 ≤ h194.size := Nat.le_trans Z193 E194.1
      have hk194 : 0 ≤ h194.size := Nat.le_trans hk193 E194.1
      have E_b194 := A194
      have F_modCount_b194 : Fld Z h194 b194 "java/util/AbstractList" "modCount" "I" (.int (0 : Int32)) := D194 (Or.inl (hw _ (List.mem_of_getElem? (i := 50) rfl))) (ty := .int) (by decide)
      have F_elementData_b194 : Fld Z h194 b194 "java/util/ArrayList" "elementData" "[Ljava/lang/Object;" .null := D194 (Or.inl (hw _ (List.mem_of_getElem? (i := 53) rfl))) (ty := (.array (.object "java/lang/Object"))) (by decide)
      show own_Fin _ _ _ _ (T194.setTop (mkF m 84 #[iv p1, iv p2, iv p3, iv v3_64, rv b184, iv v5_187, rv b188, rv b192, .unset, .unset, .unset, .unset, .unset] [(.ref b194)]))
      refine own_go (XS.dup X194.here hx rfl (hb hby at_84) rfl rfl (Steps.refl _)) ?_
      show own_Fin _ _ _ _ (T194.setTop (mkF m 85 #[iv p1, iv p2, iv p3, iv v3_64, rv b184, iv v5_187, rv b188, rv b192, .unset, .unset, .unset, .unset, .unset] [(.ref b194), (.ref b194)]))
      obtain ⟨_, _, ⟨T195, L195, k195, n195⟩, -, X195, ⟨Lc195, hQ195, l195, y195, z195⟩, st195⟩ := X194.specialBack hx (y := (⟨"java/util/ArrayList", "<init>", "()V"⟩ : MethodName)) rfl hown (mvT hZ (hw _ (List.mem_of_getElem? (i := 33) rfl))) (mvT hZ (hw _ (List.mem_of_getElem? (i := 34) rfl))) (mvT hZ (hw _ (List.mem_of_getElem? (i := 35) rfl))) (by decide) (backOf (W := 1) (rmali l Z a0 hw [] b194 dd h194 n0 Z194 E_b194 F_modCount_b194 F_elementData_b194 g_b194 Od194 S_DEFAULTCAPACITY_EMPTY_ELEMENTDATA) hZ (hw _ (List.mem_of_getElem? (i := 35) rfl)) (hw _ (List.mem_of_getElem? (i := 32) rfl)) (by decide) (by decide)) (g := (mkF m 85 #[iv p1, iv p2, iv p3, iv v3_64, rv b184, iv v5_187, rv b188, rv b192, .unset, .unset, .unset, .unset, .unset] [(.ref b194), (.ref b194)])) rfl (by rw [hml]; rfl) (Steps.refl _) (a := b194) (argsL := []) (rest := [(.ref b194)]) (lenOf pd__28__29_V rfl) rfl (by show 2 * 0 + _ ≤ _; exact Nat.le_of_eq rfl) (hb hby at_85) (fun _ hv => ⟨rfl, e194, (by decide : 5 + 0 ≤ _), (by decide : 12 + 0 ≤ _)⟩)
      dsimp only [Pt.U, Pt.locs, Pt.cells, Pt.slots] at X195 l195 y195 z195 st195 hQ195
      subst l195 y195 z195
      refine own_go st195 ?_
      obtain ⟨rfl, Nq195, K195, r195_0, r195_1, r195_2⟩ := hQ195
      have Od195 := Od194.keep K195 (allS g_b194 all0)
      have V_b184_195 := V_b184_194.keep K195 (ninS ne_b184_b194 nin0)
      have V_b188_195 := V_b188_194.keep K195 (ninS ne_b188_b194 nin0)
      have r193_0_195 := r193_0_194.keep K195
      have r193_1_195 := r193_1_194.keep K195 (ninS ne_b192_b194 nin0)
      have r193_2_195 := r193_2_194.keep K195 (ninS ne_b192_b194 nin0)
      have r193_3_195 := r193_3_194.keep K195 (ninS ne_b_193_b194 nin0)
      have E_b194_195 := E_b194.keep K195
      have Z195 : n0 ≤ T195.heap.size := Nat.le_trans Z194 K195.1
      have hk195 : 0 ≤ T195.heap.size := Nat.le_trans hk194 K195.1
      have N195 := Fr.app N193 Nq195
      show own_Fin _ _ _ _ (T195.setTop (mkF m 88 #[iv p1, iv p2, iv p3, iv v3_64, rv b184, iv v5_187, rv b188, rv b192, .unset, .unset, .unset, .unset, .unset] [(.ref b194)]))
      refine own_go (XS.astore X195.here hx rfl (hb hby at_88) rfl rfl rfl (Steps.refl _)) ?_
      show own_Fin _ _ _ _ (T195.setTop (mkF m 90 #[iv p1, iv p2, iv p3, iv v3_64, rv b184, iv v5_187, rv b188, rv b192, rv b194, .unset, .unset, .unset, .unset] []))
      obtain ⟨T196, h196, X196, e196, E196, A196, D196, U196, st196⟩ := newO X195 hx hZ hown (hw _ (List.mem_of_getElem? (i := 54) rfl)) (hw _ (List.mem_of_getElem? (i := 55) rfl)) (hw _ (List.mem_of_getElem? (i := 56) rfl)) rfl (g := (mkF m 90 #[iv p1, iv p2, iv p3, iv v3_64, rv b184, iv v5_187, rv b188, rv b192, rv b194, .unset, .unset, .unset, .unset] [])) rfl (hb hby at_90) (by decide) (by decide)
      obtain ⟨b196, g196⟩ : ∃ z, z = T195.heap.size := ⟨_, rfl⟩
      rw [← g196] at A196 D196 U196 st196
      refine own_by st196 ?_
      have ne_b184_b196 : b184 ≠ b196 := Nat.ne_of_lt (Nat.lt_of_lt_of_eq V_b184_195.lt g196.symm)
      have ne_b188_b196 : b188 ≠ b196 := Nat.ne_of_lt (Nat.lt_of_lt_of_eq V_b188_195.lt g196.symm)
      have ne_b192_b196 : b192 ≠ b196 := Nat.ne_of_lt (Nat.lt_of_lt_of_eq r193_0_195.lt g196.symm)
      have ne_b_193_b196 : b_193 ≠ b196 := Nat.ne_of_lt (Nat.lt_of_lt_of_eq r193_3_195.lt g196.symm)
      have ne_b194_b196 : b194 ≠ b196 := Nat.ne_of_lt (Nat.lt_of_lt_of_eq r195_0.lt g196.symm)
      have Od196 := Od195.ext E196
      have V_b184_196 := V_b184_195.ext E196
      have V_b188_196 := V_b188_195.ext E196
      have r193_0_196 := r193_0_195.ext E196
      have r193_1_196 := r193_1_195.ext E196
      have r193_2_196 := r193_2_195.ext E196
      have r193_3_196 := r193_3_195.ext E196
      have r195_0_196 := r195_0.ext E196
      have r195_1_196 := r195_1.ext E196
      have r195_2_196 := r195_2.ext E196
      have g_b196 : n0 ≤ b196 := Nat.le_trans Z195 (Nat.le_of_eq g196.symm)
      have Z196 : n0 ≤ h196.size := Nat.le_trans Z195 E196.1
      have hk196 : 0 ≤ h196.size := Nat.le_trans hk195 E196.1
      have E_b196 := A196
      have F_status_b196 : Fld Z h196 b196 "com/example/pryority/pryority/Response" "status" "I" (.int (0 : Int32)) := D196 (Or.inr (hw _ (List.mem_of_getElem? (i := 67) rfl))) (ty := .int) (by decide)
      have F_reason_b196 : Fld Z h196 b196 "com/example/pryority/pryority/Response" "reason" "Ljava/lang/String;" .null := D196 (Or.inr (hw _ (List.mem_of_getElem? (i := 69) rfl))) (ty := (.object "java/lang/String")) (by decide)
      have F_fields_b196 : Fld Z h196 b196 "com/example/pryority/pryority/Response" "fields" "Ljava/util/List;" .null := D196 (Or.inr (hw _ (List.mem_of_getElem? (i := 71) rfl))) (ty := (.object "java/util/List")) (by decide)
      have F_body_b196 : Fld Z h196 b196 "com/example/pryority/pryority/Response" "body" "[B" .null := D196 (Or.inr (hw _ (List.mem_of_getElem? (i := 73) rfl))) (ty := (.array .byte)) (by decide)
      have F_truncated_b196 : Fld Z h196 b196 "com/example/pryority/pryority/Response" "truncated" "Z" (.int (0 : Int32)) := D196 (Or.inr (hw _ (List.mem_of_getElem? (i := 75) rfl))) (ty := .boolean) (by decide)
      show own_Fin _ _ _ _ (T196.setTop (mkF m 93 #[iv p1, iv p2, iv p3, iv v3_64, rv b184, iv v5_187, rv b188, rv b192, rv b194, .unset, .unset, .unset, .unset] [(.ref b196)]))
      refine own_go (XS.dup X196.here hx rfl (hb hby at_93) rfl rfl (Steps.refl _)) ?_
      show own_Fin _ _ _ _ (T196.setTop (mkF m 94 #[iv p1, iv p2, iv p3, iv v3_64, rv b184, iv v5_187, rv b188, rv b192, rv b194, .unset, .unset, .unset, .unset] [(.ref b196), (.ref b196)]))
      refine own_go (XS.iload X196.here hx rfl (hb hby at_94) rfl (Steps.refl _)) ?_
      show own_Fin _ _ _ _ (T196.setTop (mkF m 96 #[iv p1, iv p2, iv p3, iv v3_64, rv b184, iv v5_187, rv b188, rv b192, rv b194, .unset, .unset, .unset, .unset] [(.int v5_187), (.ref b196), (.ref b196)]))
      refine own_go (XS.aload X196.here hx rfl (hb hby at_96) rfl rfl (Steps.refl _)) ?_
      show own_Fin _ _ _ _ (T196.setTop (mkF m 98 #[iv p1, iv p2, iv p3, iv v3_64, rv b184, iv v5_187, rv b188, rv b192, rv b194, .unset, .unset, .unset, .unset] [(.ref b192), (.int v5_187), (.ref b196), (.ref b196)]))
      refine own_go (XS.aload X196.here hx rfl (hb hby at_98) rfl rfl (Steps.refl _)) ?_
      show own_Fin _ _ _ _ (T196.setTop (mkF m 100 #[iv p1, iv p2, iv p3, iv v3_64, rv b184, iv v5_187, rv b188, rv b192, rv b194, .unset, .unset, .unset, .unset] [(.ref b194), (.ref b192), (.int v5_187), (.ref b196), (.ref b196)]))
      refine own_go (XS.aload X196.here hx rfl (hb hby at_100) rfl rfl (Steps.refl _)) ?_
      show own_Fin _ _ _ _ (T196.setTop (mkF m 102 #[iv p1, iv p2, iv p3, iv v3_64, rv b184, iv v5_187, rv b188, rv b192, rv b194, .unset, .unset, .unset, .unset] [(.ref b184), (.ref b194), (.ref b192), (.int v5_187), (.ref b196), (.ref b196)]))
      refine own_go (XS.iloadN X196.here hx rfl (hb hby at_102) rfl (Steps.refl _)) ?_
      show own_Fin _ _ _ _ (T196.setTop (mkF m 103 #[iv p1, iv p2, iv p3, iv v3_64, rv b184, iv v5_187, rv b188, rv b192, rv b194, .unset, .unset, .unset, .unset] [(.int v3_64), (.ref b184), (.ref b194), (.ref b192), (.int v5_187), (.ref b196), (.ref b196)]))
      obtain ⟨_, _, ⟨T197, L197, k197, n197⟩, -, X197, ⟨Lc197, hQ197, l197, y197, z197⟩, st197⟩ := X196.specialBack hx (y := (⟨"com/example/pryority/pryority/Response", "<init>", "(ILjava/lang/String;Ljava/util/List;[BZ)V"⟩ : MethodName)) rfl hown (mvT hZ (hw _ (List.mem_of_getElem? (i := 57) rfl))) (mvT hZ (hw _ (List.mem_of_getElem? (i := 58) rfl))) (mvT hZ (hw _ (List.mem_of_getElem? (i := 59) rfl))) (by decide) (backOf (W := 1) (rmr5 l Z a0 hw [] b196 v5_187 b192 b194 b184 v3_64 h196 n0 Z196 E_b196 F_status_b196 F_reason_b196 F_fields_b196 F_body_b196 F_truncated_b196 g_b196) hZ (hw _ (List.mem_of_getElem? (i := 59) rfl)) (hw _ (List.mem_of_getElem? (i := 56) rfl)) (by decide) (by decide)) (g := (mkF m 103 #[iv p1, iv p2, iv p3, iv v3_64, rv b184, iv v5_187, rv b188, rv b192, rv b194, .unset, .unset, .unset, .unset] [(.int v3_64), (.ref b184), (.ref b194), (.ref b192), (.int v5_187), (.ref b196), (.ref b196)])) rfl (by rw [hml]; rfl) (Steps.refl _) (a := b196) (argsL := [(.int v5_187), (.ref b192), (.ref b194), (.ref b184), (.int v3_64)]) (rest := [(.ref b196)]) (lenOf pd__28_ILjava_2f_lang_2f_String_3b_Ljava_2f_util_2f_List_3b__5b_BZ_29_V rfl) rfl (by show 2 * 0 + _ ≤ _; exact Nat.le_of_eq rfl) (hb hby at_103) (fun _ hv => ⟨rfl, e196, (by decide : 6 + 0 ≤ _), (by decide : 17 + 0 ≤ _)⟩)
      dsimp only [Pt.U, Pt.locs, Pt.cells, Pt.slots] at X197 l197 y197 z197 st197 hQ197
      subst l197 y197 z197
      refine own_go st197 ?_
      obtain ⟨rfl, Nq197, K197, r197_0, r197_1⟩ := hQ197
      have Od197 := Od196.keep K197 (allS g_b196 all0)
      have V_b184_197 := V_b184_196.keep K197 (ninS ne_b184_b196 nin0)
      have V_b188_197 := V_b188_196.keep K197 (ninS ne_b188_b196 nin0)
      have r193_0_197 := r193_0_196.keep K197
      have r193_1_197 := r193_1_196.keep K197 (ninS ne_b192_b196 nin0)
      have r193_2_197 := r193_2_196.keep K197 (ninS ne_b192_b196 nin0)
      have r193_3_197 := r193_3_196.keep K197 (ninS ne_b_193_b196 nin0)
      have r195_0_197 := r195_0_196.keep K197
      have r195_1_197 := r195_1_196.keep K197 (ninS ne_b194_b196 nin0)
      have r195_2_197 := r195_2_196.keep K197 (ninS ne_b194_b196 nin0)
      have E_b196_197 := E_b196.keep K197
      have Z197 : n0 ≤ T197.heap.size := Nat.le_trans Z196 K197.1
      have hk197 : 0 ≤ T197.heap.size := Nat.le_trans hk196 K197.1
      have N197 := Fr.app N195 Nq197
      show own_Fin _ _ _ _ (T197.setTop (mkF m 106 #[iv p1, iv p2, iv p3, iv v3_64, rv b184, iv v5_187, rv b188, rv b192, rv b194, .unset, .unset, .unset, .unset] [(.ref b196)]))
      refine own_go (XS.astore X197.here hx rfl (hb hby at_106) rfl rfl rfl (Steps.refl _)) ?_
      show own_Fin _ _ _ _ (T197.setTop (mkF m 108 #[iv p1, iv p2, iv p3, iv v3_64, rv b184, iv v5_187, rv b188, rv b192, rv b194, rv b196, .unset, .unset, .unset] []))
      have di198 : Steps p.tables e below (T197.setTop (mkF m 108 #[iv p1, iv p2, iv p3, iv v3_64, rv b184, iv v5_187, rv b188, rv b192, rv b194, rv b196, .unset, .unset, .unset] [])) (T197.setTop (mkF m 123 #[iv p1, iv p2, iv p3, iv v3_64, rv b184, iv v5_187, rv b188, rv b192, rv b194, rv b196, .unset, .unset, .unset] [(.int (own_ex v5_187))])) := by
        refine XS.iload X197.here hx rfl (hb hby at_108) rfl ?_
        show Steps _ _ _ (T197.setTop (mkF m 110 #[iv p1, iv p2, iv p3, iv v3_64, rv b184, iv v5_187, rv b188, rv b192, rv b194, rv b196, .unset, .unset, .unset] [(.int v5_187)])) _
        by_cases c110_199 : v5_187 < (0 : Int32)
        · refine XS.ifYes X197.here hx rfl (pc0 := 110) (pc' := 118) rfl (hb hby at_110) rfl ((if0 _ _).trans (tlt c110_199).1) (by decide) (by decide) ?_
          show Steps _ _ _ (T197.setTop (mkF m 118 #[iv p1, iv p2, iv p3, iv v3_64, rv b184, iv v5_187, rv b188, rv b192, rv b194, rv b196, .unset, .unset, .unset] [])) _
          refine XS.iconst X197.here hx rfl (hb hby at_118) ?_
          show Steps _ _ _ (T197.setTop (mkF m 119 #[iv p1, iv p2, iv p3, iv v3_64, rv b184, iv v5_187, rv b188, rv b192, rv b194, rv b196, .unset, .unset, .unset] [(.int (1 : Int32))])) _
          refine XS.goto X197.here hx rfl (pc0 := 119) (pc' := 123) rfl (hb hby at_119) (by decide) (by decide) ?_
          show Steps _ _ _ (T197.setTop (mkF m 123 #[iv p1, iv p2, iv p3, iv v3_64, rv b184, iv v5_187, rv b188, rv b192, rv b194, rv b196, .unset, .unset, .unset] [(.int (1 : Int32))])) _
          rw [show (own_ex v5_187) = (1 : Int32) from by simp [own_ex, c110_199]]; exact Steps.refl _
        · refine XS.ifNo X197.here hx rfl (hb hby at_110) rfl ((if0 _ _).trans (flt c110_199).1) ?_
          show Steps _ _ _ (T197.setTop (mkF m 113 #[iv p1, iv p2, iv p3, iv v3_64, rv b184, iv v5_187, rv b188, rv b192, rv b194, rv b196, .unset, .unset, .unset] [])) _
          refine XS.iload X197.here hx rfl (hb hby at_113) rfl ?_
          show Steps _ _ _ (T197.setTop (mkF m 115 #[iv p1, iv p2, iv p3, iv v3_64, rv b184, iv v5_187, rv b188, rv b192, rv b194, rv b196, .unset, .unset, .unset] [(.int v5_187)])) _
          by_cases c115_200 : (0 : Int32) < v5_187
          · refine XS.ifNo X197.here hx rfl (hb hby at_115) rfl ((if0 _ _).trans (tlt c115_200).2.2.2) ?_
            show Steps _ _ _ (T197.setTop (mkF m 118 #[iv p1, iv p2, iv p3, iv v3_64, rv b184, iv v5_187, rv b188, rv b192, rv b194, rv b196, .unset, .unset, .unset] [])) _
            refine XS.iconst X197.here hx rfl (hb hby at_118) ?_
            show Steps _ _ _ (T197.setTop (mkF m 119 #[iv p1, iv p2, iv p3, iv v3_64, rv b184, iv v5_187, rv b188, rv b192, rv b194, rv b196, .unset, .unset, .unset] [(.int (1 : Int32))])) _
            refine XS.goto X197.here hx rfl (pc0 := 119) (pc' := 123) rfl (hb hby at_119) (by decide) (by decide) ?_
            show Steps _ _ _ (T197.setTop (mkF m 123 #[iv p1, iv p2, iv p3, iv v3_64, rv b184, iv v5_187, rv b188, rv b192, rv b194, rv b196, .unset, .unset, .unset] [(.int (1 : Int32))])) _
            rw [show (own_ex v5_187) = (1 : Int32) from by simp [own_ex, c110_199, c115_200]]; exact Steps.refl _
          · refine XS.ifYes X197.here hx rfl (pc0 := 115) (pc' := 122) rfl (hb hby at_115) rfl ((if0 _ _).trans (flt c115_200).2.2.2) (by decide) (by decide) ?_
            show Steps _ _ _ (T197.setTop (mkF m 122 #[iv p1, iv p2, iv p3, iv v3_64, rv b184, iv v5_187, rv b188, rv b192, rv b194, rv b196, .unset, .unset, .unset] [])) _
            refine XS.iconst X197.here hx rfl (hb hby at_122) ?_
            show Steps _ _ _ (T197.setTop (mkF m 123 #[iv p1, iv p2, iv p3, iv v3_64, rv b184, iv v5_187, rv b188, rv b192, rv b194, rv b196, .unset, .unset, .unset] [(.int (0 : Int32))])) _
            rw [show (own_ex v5_187) = (0 : Int32) from by simp [own_ex, c110_199, c115_200]]; exact Steps.refl _
      refine own_go di198 ?_
      show own_Fin _ _ _ _ (T197.setTop (mkF m 123 #[iv p1, iv p2, iv p3, iv v3_64, rv b184, iv v5_187, rv b188, rv b192, rv b194, rv b196, .unset, .unset, .unset] [(.int (own_ex v5_187))]))
      refine own_go (XS.istore X197.here hx rfl (hb hby at_123) rfl rfl (Steps.refl _)) ?_
      show own_Fin _ _ _ _ (T197.setTop (mkF m 125 #[iv p1, iv p2, iv p3, iv v3_64, rv b184, iv v5_187, rv b188, rv b192, rv b194, rv b196, iv (own_ex v5_187), .unset, .unset] []))
      generalize hz_v10_201 : (own_ex v5_187) = v10_201
      refine own_go (XS.aload X197.here hx rfl (hb hby at_125) rfl rfl (Steps.refl _)) ?_
      show own_Fin _ _ _ _ (T197.setTop (mkF m 127 #[iv p1, iv p2, iv p3, iv v3_64, rv b184, iv v5_187, rv b188, rv b192, rv b194, rv b196, iv v10_201, .unset, .unset] [(.ref b196)]))
      obtain ⟨cq202, kq202, q202a, q202b, q202c⟩ := isOf hZ rfl r197_0
      obtain ⟨_, _, ⟨T202, L202, k202, n202⟩, -, X202, ⟨Lc202, hQ202, l202, y202, z202⟩, st202⟩ := X197.virtualBack hx (y := (⟨"com/example/pryority/pryority/Response", "isAnswer", "()Z"⟩ : MethodName)) (z := (⟨"com/example/pryority/pryority/Response", "isAnswer", "()Z"⟩ : MethodName)) hown (mvT hZ (hw _ (List.mem_of_getElem? (i := 76) rfl))) (mvT hZ (hw _ (List.mem_of_getElem? (i := 77) rfl))) (notFace_of_selects (args := #[]) (mvT hZ (hw _ (List.mem_of_getElem? (i := 79) rfl)))) (mvT hZ (hw _ (List.mem_of_getElem? (i := 79) rfl))) (mvT hZ (hw _ (List.mem_of_getElem? (i := 78) rfl))) (by decide) (backOf (W := 0) (rmia l Z a0 hw [] b196 v5_187 T197.heap n0 Z197 r197_1) hZ (hw _ (List.mem_of_getElem? (i := 80) rfl)) (hw _ (List.mem_of_getElem? (i := 56) rfl)) (by decide) (by decide)) q202a q202c (g := (mkF m 127 #[iv p1, iv p2, iv p3, iv v3_64, rv b184, iv v5_187, rv b188, rv b192, rv b194, rv b196, iv v10_201, .unset, .unset] [(.ref b196)])) rfl (by rw [hml]; rfl) (Steps.refl _) (argsL := []) (rest := []) (lenOf pd__28__29_Z rfl) rfl (by show 2 * 0 + _ ≤ _; exact Nat.le_of_eq rfl) (hb hby at_127) (fun _ hv => ⟨rfl, rfl, (by decide : 6 + 0 ≤ _), (by decide : 17 + 0 ≤ _)⟩)
      dsimp only [Pt.U, Pt.locs, Pt.cells, Pt.slots] at X202 l202 y202 z202 st202 hQ202
      subst l202 y202 z202
      obtain ⟨rfl, Nq202, e202⟩ := hQ202
      refine own_go st202 ?_
      have N202 := Fr.app N197 Nq202
      show own_Fin _ _ _ _ (T202.setTop (mkF m 130 #[iv p1, iv p2, iv p3, iv v3_64, rv b184, iv v5_187, rv b188, rv b192, rv b194, rv b196, iv v10_201, .unset, .unset] [(.int (own_an v5_187))]))
      refine own_go (XS.istore X202.here hx rfl (hb hby at_130) rfl rfl (Steps.refl _)) ?_
      show own_Fin _ _ _ _ (T202.setTop (mkF m 132 #[iv p1, iv p2, iv p3, iv v3_64, rv b184, iv v5_187, rv b188, rv b192, rv b194, rv b196, iv v10_201, iv (own_an v5_187), .unset] []))
      generalize hz_v11_203 : (own_an v5_187) = v11_203
      obtain ⟨_, _, ⟨T204, L204, k204, n204⟩, -, X204, hs2204, hgr204, ⟨Lc204, hQ204, l204, y204, z204⟩, st204⟩ := callSS X202 hx (y := (⟨"com/example/pryority/pryority/Response", "noAnswer", "()Lcom/example/pryority/pryority/Response;"⟩ : MethodName)) hown (mvT hZ (hw _ (List.mem_of_getElem? (i := 81) rfl))) (mvT hZ (hw _ (List.mem_of_getElem? (i := 82) rfl))) (mvT hZ (hw _ (List.mem_of_getElem? (i := 56) rfl))) (mvT hZ (hw _ (List.mem_of_getElem? (i := 83) rfl))) (by decide) (backOfS (W := 0) (rmna l Z a0 hw [] el T197.heap n0 Z197 Od197 S_EMPTY_LIST) hZ (hw _ (List.mem_of_getElem? (i := 83) rfl)) (hw _ (List.mem_of_getElem? (i := 56) rfl)) (by decide) (by decide)) (g := (mkF m 132 #[iv p1, iv p2, iv p3, iv v3_64, rv b184, iv v5_187, rv b188, rv b192, rv b194, rv b196, iv v10_201, iv v11_203, .unset] [])) rfl (by rw [hml]; rfl) (argsL := []) (rest := []) (lenOf pd__28__29_Lcom_2f_example_2f_pryority_2f_pryority_2f_Response_3b_ rfl) rfl (by show 2 * 0 + _ ≤ _; exact Nat.le_of_eq rfl) (hb hby at_132) (fun _ hv => ⟨rfl, e202, (by decide : 6 + 4 ≤ _), (by decide : 17 + 9 ≤ _)⟩)
      dsimp only [Pt.U, Pt.locs, Pt.cells, Pt.slots] at X204 l204 y204 z204 st204 hQ204 hs2204 hgr204
      subst l204 y204 z204
      obtain ⟨Xr204, hS204, hZ204, hown204⟩ := rebS hS0 (show 0 ≤ T202.heap.size by rw [e202]; exact hk197) X204 hs2204 hgr204 hZ hown
      refine own_go st204 ?_
      obtain ⟨r_204, rfl, Nq204, K204, g_r_204, sb_r_204, r204_0, r204_1⟩ := hQ204
      have ne_b184_r_204 : b184 ≠ r_204 := Nat.ne_of_lt (Nat.lt_of_lt_of_le V_b184_197.lt sb_r_204)
      have ne_b188_r_204 : b188 ≠ r_204 := Nat.ne_of_lt (Nat.lt_of_lt_of_le V_b188_197.lt sb_r_204)
      have ne_b192_r_204 : b192 ≠ r_204 := Nat.ne_of_lt (Nat.lt_of_lt_of_le r193_0_197.lt sb_r_204)
      have ne_b_193_r_204 : b_193 ≠ r_204 := Nat.ne_of_lt (Nat.lt_of_lt_of_le r193_3_197.lt sb_r_204)
      have ne_b194_r_204 : b194 ≠ r_204 := Nat.ne_of_lt (Nat.lt_of_lt_of_le r195_0_197.lt sb_r_204)
      have ne_b196_r_204 : b196 ≠ r_204 := Nat.ne_of_lt (Nat.lt_of_lt_of_le r197_0.lt sb_r_204)
      have Od204 := Od197.keep K204 all0
      have V_b184_204 := V_b184_197.keep K204 nin0
      have V_b188_204 := V_b188_197.keep K204 nin0
      have r193_0_204 := r193_0_197.keep K204
      have r193_1_204 := r193_1_197.keep K204 nin0
      have r193_2_204 := r193_2_197.keep K204 nin0
      have r193_3_204 := r193_3_197.keep K204 nin0
      have r195_0_204 := r195_0_197.keep K204
      have r195_1_204 := r195_1_197.keep K204 nin0
      have r195_2_204 := r195_2_197.keep K204 nin0
      have r197_0_204 := r197_0.keep K204
      have r197_1_204 := r197_1.keep K204 nin0
      have Z204 : n0 ≤ T204.heap.size := Nat.le_trans Z197 K204.1
      have hk204 : 0 ≤ T204.heap.size := Nat.le_trans hk197 K204.1
      have hkr204 : T204.heap.size ≤ T204.heap.size := Nat.le_refl _
      have N204 := Fr.app N202 Nq204
      show own_Fin _ _ _ _ (T204.setTop (mkF m 135 #[iv p1, iv p2, iv p3, iv v3_64, rv b184, iv v5_187, rv b188, rv b192, rv b194, rv b196, iv v10_201, iv v11_203, .unset] [(.ref r_204)]))
      refine own_go (XS.astore Xr204.here hx rfl (hb hby at_135) rfl rfl rfl (Steps.refl _)) ?_
      show own_Fin _ _ _ _ (T204.setTop (mkF m 137 #[iv p1, iv p2, iv p3, iv v3_64, rv b184, iv v5_187, rv b188, rv b192, rv b194, rv b196, iv v10_201, iv v11_203, rv r_204] []))
      refine own_go (XS.iload Xr204.here hx rfl (hb hby at_137) rfl (Steps.refl _)) ?_
      show own_Fin _ _ _ _ (T204.setTop (mkF m 139 #[iv p1, iv p2, iv p3, iv v3_64, rv b184, iv v5_187, rv b188, rv b192, rv b194, rv b196, iv v10_201, iv v11_203, rv r_204] [(.int v11_203)]))
      refine own_go (XS.iload Xr204.here hx rfl (hb hby at_139) rfl (Steps.refl _)) ?_
      show own_Fin _ _ _ _ (T204.setTop (mkF m 141 #[iv p1, iv p2, iv p3, iv v3_64, rv b184, iv v5_187, rv b188, rv b192, rv b194, rv b196, iv v10_201, iv v11_203, rv r_204] [(.int v10_201), (.int v11_203)]))
      refine own_go (XS.icmpNo Xr204.here hx rfl (hb hby at_141) rfl (teq (show v11_203 = v10_201 from (by rw [← hz_v11_203, ← hz_v10_201]; exact own_exan _))).2 (Steps.refl _)) ?_
      show own_Fin _ _ _ _ (T204.setTop (mkF m 144 #[iv p1, iv p2, iv p3, iv v3_64, rv b184, iv v5_187, rv b188, rv b192, rv b194, rv b196, iv v10_201, iv v11_203, rv r_204] []))
      refine own_go (XS.aload Xr204.here hx rfl (hb hby at_144) rfl rfl (Steps.refl _)) ?_
      show own_Fin _ _ _ _ (T204.setTop (mkF m 146 #[iv p1, iv p2, iv p3, iv v3_64, rv b184, iv v5_187, rv b188, rv b192, rv b194, rv b196, iv v10_201, iv v11_203, rv r_204] [(.ref r_204)]))
      obtain ⟨cq205, kq205, q205a, q205b, q205c⟩ := isOf hZ204 rfl r204_0
      obtain ⟨_, _, ⟨T205, L205, k205, n205⟩, -, X205, ⟨Lc205, hQ205, l205, y205, z205⟩, st205⟩ := Xr204.virtualBack hx (y := (⟨"com/example/pryority/pryority/Response", "isAnswer", "()Z"⟩ : MethodName)) (z := (⟨"com/example/pryority/pryority/Response", "isAnswer", "()Z"⟩ : MethodName)) hown204 (mvT hZ204 (hw _ (List.mem_of_getElem? (i := 76) rfl))) (mvT hZ204 (hw _ (List.mem_of_getElem? (i := 77) rfl))) (notFace_of_selects (args := #[]) (mvT hZ204 (hw _ (List.mem_of_getElem? (i := 79) rfl)))) (mvT hZ204 (hw _ (List.mem_of_getElem? (i := 79) rfl))) (mvT hZ204 (hw _ (List.mem_of_getElem? (i := 78) rfl))) (by decide) (backOf (W := 0) (rmia l Z a0 hw [] r_204 (0 : Int32) T204.heap n0 Z204 r204_1) hZ204 (hw _ (List.mem_of_getElem? (i := 80) rfl)) (hw _ (List.mem_of_getElem? (i := 56) rfl)) (by decide) (by decide)) q205a q205c (g := (mkF m 146 #[iv p1, iv p2, iv p3, iv v3_64, rv b184, iv v5_187, rv b188, rv b192, rv b194, rv b196, iv v10_201, iv v11_203, rv r_204] [(.ref r_204)])) rfl (by rw [hml]; rfl) (Steps.refl _) (argsL := []) (rest := []) (lenOf pd__28__29_Z rfl) rfl (by show 2 * 0 + _ ≤ _; exact Nat.le_of_eq rfl) (hb hby at_146) (fun _ hv => ⟨rfl, rfl, (by decide : 10 + 0 ≤ _), (by decide : 26 + 0 ≤ _)⟩)
      dsimp only [Pt.U, Pt.locs, Pt.cells, Pt.slots] at X205 l205 y205 z205 st205 hQ205
      subst l205 y205 z205
      obtain ⟨rfl, Nq205, e205⟩ := hQ205
      refine own_go st205 ?_
      have N205 := Fr.app N204 Nq205
      show own_Fin _ _ _ _ (T205.setTop (mkF m 149 #[iv p1, iv p2, iv p3, iv v3_64, rv b184, iv v5_187, rv b188, rv b192, rv b194, rv b196, iv v10_201, iv v11_203, rv r_204] [(.int (own_an (0 : Int32)))]))
      refine own_go (XS.ifNo X205.here hx rfl (hb hby at_149) rfl ((if0 _ _).trans (teq (show (own_an (0 : Int32)) = (0 : Int32) from rfl)).2) (Steps.refl _)) ?_
      show own_Fin _ _ _ _ (T205.setTop (mkF m 152 #[iv p1, iv p2, iv p3, iv v3_64, rv b184, iv v5_187, rv b188, rv b192, rv b194, rv b196, iv v10_201, iv v11_203, rv r_204] []))
      refine own_go (XS.iconst X205.here hx rfl (hb hby at_152) (Steps.refl _)) ?_
      show own_Fin _ _ _ _ (T205.setTop (mkF m 153 #[iv p1, iv p2, iv p3, iv v3_64, rv b184, iv v5_187, rv b188, rv b192, rv b194, rv b196, iv v10_201, iv v11_203, rv r_204] [(.int (1 : Int32))]))
      refine own_go (XS.goto X205.here hx rfl (pc0 := 153) (pc' := 157) rfl (hb hby at_153) (by decide) (by decide) (Steps.refl _)) ?_
      show own_Fin _ _ _ _ (T205.setTop (mkF m 157 #[iv p1, iv p2, iv p3, iv v3_64, rv b184, iv v5_187, rv b188, rv b192, rv b194, rv b196, iv v10_201, iv v11_203, rv r_204] [(.int (1 : Int32))]))
      obtain ⟨fs206, hr206, hrun206, hended206, hRW206⟩ := X205.leaveW (s := s) hS204 (n := T204.heap.size) (by rw [e205]; exact hkr204) (v := some (.int (1 : Int32))) (fun h => by rw [Bd.returns] at h; cases h)
      refine own_done (retN X205 hx (t := .boolean) Bd.returns (by simp) (hb hby at_157) hr206) hrun206 hended206 ⟨_, _, rfl, ?_, hRW206.1, hRW206.2.1, hRW206.2.2.1, hRW206.2.2.2.mono (by decide) (by decide)⟩
      show Q0 Z p1 p2 p3 cs dd el h0 n0 _ T205.heap _
      rw [e205]
      exact ⟨rfl, N205⟩
    · refine own_go (XS.ifNo X190.here hx rfl (hb hby at_54) rfl ((if0 _ _).trans (feq c54_191).1) (Steps.refl _)) ?_
      show own_Fin _ _ _ _ (T190.setTop (mkF m 57 #[iv p1, iv p2, iv p3, iv v3_64, rv b184, iv v5_187, rv b188, .unset, .unset, .unset, .unset, .unset, .unset] []))
      obtain ⟨T207, h207, X207, e207, E207, A207, D207, U207, st207⟩ := newO X190 hx hZ hown (hw _ (List.mem_of_getElem? (i := 2) rfl)) (hw _ (List.mem_of_getElem? (i := 3) rfl)) (hw _ (List.mem_of_getElem? (i := 4) rfl)) e190 (g := (mkF m 57 #[iv p1, iv p2, iv p3, iv v3_64, rv b184, iv v5_187, rv b188, .unset, .unset, .unset, .unset, .unset, .unset] [])) rfl (hb hby at_57) (by decide) (by decide)
      obtain ⟨b207, g207⟩ : ∃ z, z = h190.size := ⟨_, rfl⟩
      rw [← g207] at A207 D207 U207 st207
      refine own_by st207 ?_
      have ne_b184_b207 : b184 ≠ b207 := Nat.ne_of_lt (Nat.lt_of_lt_of_eq V_b184_190.lt g207.symm)
      have ne_b188_b207 : b188 ≠ b207 := Nat.ne_of_lt (Nat.lt_of_lt_of_eq V_b188_190.lt g207.symm)
      have Od207 := Od190.ext E207
      have V_b184_207 := V_b184_190.ext E207
      have V_b188_207 := V_b188_190.ext E207
      have g_b207 : n0 ≤ b207 := Nat.le_trans Z190 (Nat.le_of_eq g207.symm)
      have Z207 : n0 ≤ h207.size := Nat.le_trans Z190 E207.1
      have hk207 : 0 ≤ h207.size := Nat.le_trans hk190 E207.1
      have E_b207 := A207
      have F_coder_b207 : Fld Z h207 b207 "java/lang/String" "coder" "B" (.int (0 : Int32)) := D207 (Or.inr (hw _ (List.mem_of_getElem? (i := 27) rfl))) (ty := .byte) (by decide)
      have F_value_b207 : Fld Z h207 b207 "java/lang/String" "value" "[B" .null := D207 (Or.inr (hw _ (List.mem_of_getElem? (i := 29) rfl))) (ty := (.array .byte)) (by decide)
      show own_Fin _ _ _ _ (T207.setTop (mkF m 60 #[iv p1, iv p2, iv p3, iv v3_64, rv b184, iv v5_187, rv b188, .unset, .unset, .unset, .unset, .unset, .unset] [(.ref b207)]))
      refine own_go (XS.dup X207.here hx rfl (hb hby at_60) rfl rfl (Steps.refl _)) ?_
      show own_Fin _ _ _ _ (T207.setTop (mkF m 61 #[iv p1, iv p2, iv p3, iv v3_64, rv b184, iv v5_187, rv b188, .unset, .unset, .unset, .unset, .unset, .unset] [(.ref b207), (.ref b207)]))
      refine own_go (XS.iconst X207.here hx rfl (hb hby at_61) (Steps.refl _)) ?_
      show own_Fin _ _ _ _ (T207.setTop (mkF m 62 #[iv p1, iv p2, iv p3, iv v3_64, rv b184, iv v5_187, rv b188, .unset, .unset, .unset, .unset, .unset, .unset] [(.int (0 : Int32)), (.ref b207), (.ref b207)]))
      obtain ⟨T208, h208, k208, X208, e208, E208, A208, st208⟩ := newP X207 hx hZ (hw _ (List.mem_of_getElem? (i := 1) rfl)) e207 (g := (mkF m 62 #[iv p1, iv p2, iv p3, iv v3_64, rv b184, iv v5_187, rv b188, .unset, .unset, .unset, .unset, .unset, .unset] [(.int (0 : Int32)), (.ref b207), (.ref b207)])) rfl (hb hby at_62) rfl (by decide) (cap := 0) (by decide) (by decide) (by decide) (by decide)
      obtain ⟨b208, g208⟩ : ∃ z, z = h207.size := ⟨_, rfl⟩
      rw [← g208] at A208 st208
      refine own_by st208 ?_
      have ne_b184_b208 : b184 ≠ b208 := Nat.ne_of_lt (Nat.lt_of_lt_of_eq V_b184_207.lt g208.symm)
      have ne_b188_b208 : b188 ≠ b208 := Nat.ne_of_lt (Nat.lt_of_lt_of_eq V_b188_207.lt g208.symm)
      have ne_b207_b208 : b207 ≠ b208 := Nat.ne_of_lt (Nat.lt_of_lt_of_eq E_b207.lt g208.symm)
      have Od208 := Od207.ext E208
      have V_b184_208 := V_b184_207.ext E208
      have V_b188_208 := V_b188_207.ext E208
      have E_b207_208 := E_b207.ext E208
      have F_coder_b207_208 := F_coder_b207.ext E208
      have F_value_b207_208 := F_value_b207.ext E208
      have g_b208 : n0 ≤ b208 := Nat.le_trans Z207 (Nat.le_of_eq g208.symm)
      have Z208 : n0 ≤ h208.size := Nat.le_trans Z207 E208.1
      have hk208 : 0 ≤ h208.size := Nat.le_trans hk207 E208.1
      have V_b208 : Arv Z h208 b208 k208 .char (0 : Int32) [] (.int (0 : Int32)) := (Arv.new A208 (by decide)).pad (pad_rep [] (.int (0 : Int32)) 0)
      show own_Fin _ _ _ _ (T208.setTop (mkF m 64 #[iv p1, iv p2, iv p3, iv v3_64, rv b184, iv v5_187, rv b188, .unset, .unset, .unset, .unset, .unset, .unset] [(.ref b208), (.ref b207), (.ref b207)]))
      obtain ⟨_, _, ⟨T209, L209, k209, n209⟩, -, X209, hs2209, hgr209, ⟨Lc209, ⟨hQ209, hK209⟩, l209, y209, z209⟩, st209⟩ := X208.specialBackS hx (y := (⟨"java/lang/String", "<init>", "([C)V"⟩ : MethodName)) rfl hown (mvT hZ (hw _ (List.mem_of_getElem? (i := 5) rfl))) (mvT hZ (hw _ (List.mem_of_getElem? (i := 6) rfl))) (mvT hZ (hw _ (List.mem_of_getElem? (i := 7) rfl))) (by decide) (own_backK (W := 1) (rmstr_0 l Z a0 hw [] b207 b208 k208 h208 n0 Z208 E_b207_208 F_value_b207_208 F_coder_b207_208 g_b207 Od208 V_b208 hh7 hcw) hZ (hw _ (List.mem_of_getElem? (i := 7) rfl)) (hw _ (List.mem_of_getElem? (i := 4) rfl)) (by decide) (by decide)) (g := (mkF m 64 #[iv p1, iv p2, iv p3, iv v3_64, rv b184, iv v5_187, rv b188, .unset, .unset, .unset, .unset, .unset, .unset] [(.ref b208), (.ref b207), (.ref b207)])) rfl (by rw [hml]; rfl) (Steps.refl _) (a := b207) (argsL := [(.ref b208)]) (rest := [(.ref b207)]) (lenOf pd__28__5b_C_29_V rfl) rfl (by show 2 * 0 + _ ≤ _; exact Nat.le_of_eq rfl) (hb hby at_64) (fun _ hv => ⟨rfl, e208, (by decide : 4 + 2 ≤ _), (by decide : 8 + 4 ≤ _), own_K.warm (Or.inl IB0) hv⟩)
      dsimp only [Pt.U, Pt.locs, Pt.cells, Pt.slots] at X209 l209 y209 z209 st209 hQ209 hs2209 hgr209 hK209
      subst l209 y209 z209
      obtain ⟨Xr209, hS209, hZ209, hown209⟩ := rebS hS0 (show 0 ≤ T208.heap.size by rw [e208]; exact hk208) X209 hs2209 hgr209 hZ hown
      refine own_go st209 ?_
      obtain ⟨rfl, Nq209, K209, r209_0⟩ := hQ209
      have Od209 := Od208.keep K209 (allS g_b207 all0)
      have V_b184_209 := V_b184_208.keep K209 (ninS ne_b184_b207 nin0)
      have V_b188_209 := V_b188_208.keep K209 (ninS ne_b188_b207 nin0)
      have E_b207_209 := E_b207_208.keep K209
      have V_b208_209 := V_b208.keep K209 (ninS (Ne.symm ne_b207_b208) nin0)
      have Z209 : n0 ≤ T209.heap.size := Nat.le_trans Z208 K209.1
      have hk209 : 0 ≤ T209.heap.size := Nat.le_trans hk208 K209.1
      have hkr209 : T209.heap.size ≤ T209.heap.size := Nat.le_refl _
      have N209 := Fr.app N190 Nq209
      show own_Fin _ _ _ _ (T209.setTop (mkF m 67 #[iv p1, iv p2, iv p3, iv v3_64, rv b184, iv v5_187, rv b188, .unset, .unset, .unset, .unset, .unset, .unset] [(.ref b207)]))
      refine own_go (XS.goto Xr209.here hx rfl (pc0 := 67) (pc' := 79) rfl (hb hby at_67) (by decide) (by decide) (Steps.refl _)) ?_
      show own_Fin _ _ _ _ (T209.setTop (mkF m 79 #[iv p1, iv p2, iv p3, iv v3_64, rv b184, iv v5_187, rv b188, .unset, .unset, .unset, .unset, .unset, .unset] [(.ref b207)]))
      refine own_go (XS.astore Xr209.here hx rfl (hb hby at_79) rfl rfl rfl (Steps.refl _)) ?_
      show own_Fin _ _ _ _ (T209.setTop (mkF m 81 #[iv p1, iv p2, iv p3, iv v3_64, rv b184, iv v5_187, rv b188, rv b207, .unset, .unset, .unset, .unset, .unset] []))
      obtain ⟨T210, h210, X210, e210, E210, A210, D210, U210, st210⟩ := newO Xr209 hx hZ209 hown209 (hw _ (List.mem_of_getElem? (i := 30) rfl)) (hw _ (List.mem_of_getElem? (i := 31) rfl)) (hw _ (List.mem_of_getElem? (i := 32) rfl)) rfl (g := (mkF m 81 #[iv p1, iv p2, iv p3, iv v3_64, rv b184, iv v5_187, rv b188, rv b207, .unset, .unset, .unset, .unset, .unset] [])) rfl (hb hby at_81) (by decide) (by decide)
      obtain ⟨b210, g210⟩ : ∃ z, z = T209.heap.size := ⟨_, rfl⟩
      rw [← g210] at A210 D210 U210 st210
      refine own_by st210 ?_
      have ne_b184_b210 : b184 ≠ b210 := Nat.ne_of_lt (Nat.lt_of_lt_of_eq V_b184_209.lt g210.symm)
      have ne_b188_b210 : b188 ≠ b210 := Nat.ne_of_lt (Nat.lt_of_lt_of_eq V_b188_209.lt g210.symm)
      have ne_b207_b210 : b207 ≠ b210 := Nat.ne_of_lt (Nat.lt_of_lt_of_eq r209_0.lt g210.symm)
      have ne_b208_b210 : b208 ≠ b210 := Nat.ne_of_lt (Nat.lt_of_lt_of_eq V_b208_209.lt g210.symm)
      have Od210 := Od209.ext E210
      have V_b184_210 := V_b184_209.ext E210
      have V_b188_210 := V_b188_209.ext E210
      have r209_0_210 := r209_0.ext E210
      have V_b208_210 := V_b208_209.ext E210
      have g_b210 : n0 ≤ b210 := Nat.le_trans Z209 (Nat.le_of_eq g210.symm)
      have Z210 : n0 ≤ h210.size := Nat.le_trans Z209 E210.1
      have hk210 : T209.heap.size ≤ h210.size := Nat.le_trans hkr209 E210.1
      have E_b210 := A210
      have F_modCount_b210 : Fld Z h210 b210 "java/util/AbstractList" "modCount" "I" (.int (0 : Int32)) := D210 (Or.inl (hw _ (List.mem_of_getElem? (i := 50) rfl))) (ty := .int) (by decide)
      have F_elementData_b210 : Fld Z h210 b210 "java/util/ArrayList" "elementData" "[Ljava/lang/Object;" .null := D210 (Or.inl (hw _ (List.mem_of_getElem? (i := 53) rfl))) (ty := (.array (.object "java/lang/Object"))) (by decide)
      show own_Fin _ _ _ _ (T210.setTop (mkF m 84 #[iv p1, iv p2, iv p3, iv v3_64, rv b184, iv v5_187, rv b188, rv b207, .unset, .unset, .unset, .unset, .unset] [(.ref b210)]))
      refine own_go (XS.dup X210.here hx rfl (hb hby at_84) rfl rfl (Steps.refl _)) ?_
      show own_Fin _ _ _ _ (T210.setTop (mkF m 85 #[iv p1, iv p2, iv p3, iv v3_64, rv b184, iv v5_187, rv b188, rv b207, .unset, .unset, .unset, .unset, .unset] [(.ref b210), (.ref b210)]))
      obtain ⟨_, _, ⟨T211, L211, k211, n211⟩, -, X211, ⟨Lc211, hQ211, l211, y211, z211⟩, st211⟩ := X210.specialBack hx (y := (⟨"java/util/ArrayList", "<init>", "()V"⟩ : MethodName)) rfl hown209 (mvT hZ209 (hw _ (List.mem_of_getElem? (i := 33) rfl))) (mvT hZ209 (hw _ (List.mem_of_getElem? (i := 34) rfl))) (mvT hZ209 (hw _ (List.mem_of_getElem? (i := 35) rfl))) (by decide) (backOf (W := 1) (rmali l Z a0 hw [] b210 dd h210 n0 Z210 E_b210 F_modCount_b210 F_elementData_b210 g_b210 Od210 S_DEFAULTCAPACITY_EMPTY_ELEMENTDATA) hZ209 (hw _ (List.mem_of_getElem? (i := 35) rfl)) (hw _ (List.mem_of_getElem? (i := 32) rfl)) (by decide) (by decide)) (g := (mkF m 85 #[iv p1, iv p2, iv p3, iv v3_64, rv b184, iv v5_187, rv b188, rv b207, .unset, .unset, .unset, .unset, .unset] [(.ref b210), (.ref b210)])) rfl (by rw [hml]; rfl) (Steps.refl _) (a := b210) (argsL := []) (rest := [(.ref b210)]) (lenOf pd__28__29_V rfl) rfl (by show 2 * 0 + _ ≤ _; exact Nat.le_of_eq rfl) (hb hby at_85) (fun _ hv => ⟨rfl, e210, (by decide : 7 + 0 ≤ _), (by decide : 15 + 0 ≤ _)⟩)
      dsimp only [Pt.U, Pt.locs, Pt.cells, Pt.slots] at X211 l211 y211 z211 st211 hQ211
      subst l211 y211 z211
      refine own_go st211 ?_
      obtain ⟨rfl, Nq211, K211, r211_0, r211_1, r211_2⟩ := hQ211
      have Od211 := Od210.keep K211 (allS g_b210 all0)
      have V_b184_211 := V_b184_210.keep K211 (ninS ne_b184_b210 nin0)
      have V_b188_211 := V_b188_210.keep K211 (ninS ne_b188_b210 nin0)
      have r209_0_211 := r209_0_210.keep K211
      have V_b208_211 := V_b208_210.keep K211 (ninS ne_b208_b210 nin0)
      have E_b210_211 := E_b210.keep K211
      have Z211 : n0 ≤ T211.heap.size := Nat.le_trans Z210 K211.1
      have hk211 : T209.heap.size ≤ T211.heap.size := Nat.le_trans hk210 K211.1
      have N211 := Fr.app N209 Nq211
      show own_Fin _ _ _ _ (T211.setTop (mkF m 88 #[iv p1, iv p2, iv p3, iv v3_64, rv b184, iv v5_187, rv b188, rv b207, .unset, .unset, .unset, .unset, .unset] [(.ref b210)]))
      refine own_go (XS.astore X211.here hx rfl (hb hby at_88) rfl rfl rfl (Steps.refl _)) ?_
      show own_Fin _ _ _ _ (T211.setTop (mkF m 90 #[iv p1, iv p2, iv p3, iv v3_64, rv b184, iv v5_187, rv b188, rv b207, rv b210, .unset, .unset, .unset, .unset] []))
      obtain ⟨T212, h212, X212, e212, E212, A212, D212, U212, st212⟩ := newO X211 hx hZ209 hown209 (hw _ (List.mem_of_getElem? (i := 54) rfl)) (hw _ (List.mem_of_getElem? (i := 55) rfl)) (hw _ (List.mem_of_getElem? (i := 56) rfl)) rfl (g := (mkF m 90 #[iv p1, iv p2, iv p3, iv v3_64, rv b184, iv v5_187, rv b188, rv b207, rv b210, .unset, .unset, .unset, .unset] [])) rfl (hb hby at_90) (by decide) (by decide)
      obtain ⟨b212, g212⟩ : ∃ z, z = T211.heap.size := ⟨_, rfl⟩
      rw [← g212] at A212 D212 U212 st212
      refine own_by st212 ?_
      have ne_b184_b212 : b184 ≠ b212 := Nat.ne_of_lt (Nat.lt_of_lt_of_eq V_b184_211.lt g212.symm)
      have ne_b188_b212 : b188 ≠ b212 := Nat.ne_of_lt (Nat.lt_of_lt_of_eq V_b188_211.lt g212.symm)
      have ne_b207_b212 : b207 ≠ b212 := Nat.ne_of_lt (Nat.lt_of_lt_of_eq r209_0_211.lt g212.symm)
      have ne_b208_b212 : b208 ≠ b212 := Nat.ne_of_lt (Nat.lt_of_lt_of_eq V_b208_211.lt g212.symm)
      have ne_b210_b212 : b210 ≠ b212 := Nat.ne_of_lt (Nat.lt_of_lt_of_eq r211_0.lt g212.symm)
      have Od212 := Od211.ext E212
      have V_b184_212 := V_b184_211.ext E212
      have V_b188_212 := V_b188_211.ext E212
      have r209_0_212 := r209_0_211.ext E212
      have V_b208_212 := V_b208_211.ext E212
      have r211_0_212 := r211_0.ext E212
      have r211_1_212 := r211_1.ext E212
      have r211_2_212 := r211_2.ext E212
      have g_b212 : n0 ≤ b212 := Nat.le_trans Z211 (Nat.le_of_eq g212.symm)
      have Z212 : n0 ≤ h212.size := Nat.le_trans Z211 E212.1
      have hk212 : T209.heap.size ≤ h212.size := Nat.le_trans hk211 E212.1
      have E_b212 := A212
      have F_status_b212 : Fld Z h212 b212 "com/example/pryority/pryority/Response" "status" "I" (.int (0 : Int32)) := D212 (Or.inr (hw _ (List.mem_of_getElem? (i := 67) rfl))) (ty := .int) (by decide)
      have F_reason_b212 : Fld Z h212 b212 "com/example/pryority/pryority/Response" "reason" "Ljava/lang/String;" .null := D212 (Or.inr (hw _ (List.mem_of_getElem? (i := 69) rfl))) (ty := (.object "java/lang/String")) (by decide)
      have F_fields_b212 : Fld Z h212 b212 "com/example/pryority/pryority/Response" "fields" "Ljava/util/List;" .null := D212 (Or.inr (hw _ (List.mem_of_getElem? (i := 71) rfl))) (ty := (.object "java/util/List")) (by decide)
      have F_body_b212 : Fld Z h212 b212 "com/example/pryority/pryority/Response" "body" "[B" .null := D212 (Or.inr (hw _ (List.mem_of_getElem? (i := 73) rfl))) (ty := (.array .byte)) (by decide)
      have F_truncated_b212 : Fld Z h212 b212 "com/example/pryority/pryority/Response" "truncated" "Z" (.int (0 : Int32)) := D212 (Or.inr (hw _ (List.mem_of_getElem? (i := 75) rfl))) (ty := .boolean) (by decide)
      show own_Fin _ _ _ _ (T212.setTop (mkF m 93 #[iv p1, iv p2, iv p3, iv v3_64, rv b184, iv v5_187, rv b188, rv b207, rv b210, .unset, .unset, .unset, .unset] [(.ref b212)]))
      refine own_go (XS.dup X212.here hx rfl (hb hby at_93) rfl rfl (Steps.refl _)) ?_
      show own_Fin _ _ _ _ (T212.setTop (mkF m 94 #[iv p1, iv p2, iv p3, iv v3_64, rv b184, iv v5_187, rv b188, rv b207, rv b210, .unset, .unset, .unset, .unset] [(.ref b212), (.ref b212)]))
      refine own_go (XS.iload X212.here hx rfl (hb hby at_94) rfl (Steps.refl _)) ?_
      show own_Fin _ _ _ _ (T212.setTop (mkF m 96 #[iv p1, iv p2, iv p3, iv v3_64, rv b184, iv v5_187, rv b188, rv b207, rv b210, .unset, .unset, .unset, .unset] [(.int v5_187), (.ref b212), (.ref b212)]))
      refine own_go (XS.aload X212.here hx rfl (hb hby at_96) rfl rfl (Steps.refl _)) ?_
      show own_Fin _ _ _ _ (T212.setTop (mkF m 98 #[iv p1, iv p2, iv p3, iv v3_64, rv b184, iv v5_187, rv b188, rv b207, rv b210, .unset, .unset, .unset, .unset] [(.ref b207), (.int v5_187), (.ref b212), (.ref b212)]))
      refine own_go (XS.aload X212.here hx rfl (hb hby at_98) rfl rfl (Steps.refl _)) ?_
      show own_Fin _ _ _ _ (T212.setTop (mkF m 100 #[iv p1, iv p2, iv p3, iv v3_64, rv b184, iv v5_187, rv b188, rv b207, rv b210, .unset, .unset, .unset, .unset] [(.ref b210), (.ref b207), (.int v5_187), (.ref b212), (.ref b212)]))
      refine own_go (XS.aload X212.here hx rfl (hb hby at_100) rfl rfl (Steps.refl _)) ?_
      show own_Fin _ _ _ _ (T212.setTop (mkF m 102 #[iv p1, iv p2, iv p3, iv v3_64, rv b184, iv v5_187, rv b188, rv b207, rv b210, .unset, .unset, .unset, .unset] [(.ref b184), (.ref b210), (.ref b207), (.int v5_187), (.ref b212), (.ref b212)]))
      refine own_go (XS.iloadN X212.here hx rfl (hb hby at_102) rfl (Steps.refl _)) ?_
      show own_Fin _ _ _ _ (T212.setTop (mkF m 103 #[iv p1, iv p2, iv p3, iv v3_64, rv b184, iv v5_187, rv b188, rv b207, rv b210, .unset, .unset, .unset, .unset] [(.int v3_64), (.ref b184), (.ref b210), (.ref b207), (.int v5_187), (.ref b212), (.ref b212)]))
      obtain ⟨_, _, ⟨T213, L213, k213, n213⟩, -, X213, ⟨Lc213, hQ213, l213, y213, z213⟩, st213⟩ := X212.specialBack hx (y := (⟨"com/example/pryority/pryority/Response", "<init>", "(ILjava/lang/String;Ljava/util/List;[BZ)V"⟩ : MethodName)) rfl hown209 (mvT hZ209 (hw _ (List.mem_of_getElem? (i := 57) rfl))) (mvT hZ209 (hw _ (List.mem_of_getElem? (i := 58) rfl))) (mvT hZ209 (hw _ (List.mem_of_getElem? (i := 59) rfl))) (by decide) (backOf (W := 1) (rmr5 l Z a0 hw [] b212 v5_187 b207 b210 b184 v3_64 h212 n0 Z212 E_b212 F_status_b212 F_reason_b212 F_fields_b212 F_body_b212 F_truncated_b212 g_b212) hZ209 (hw _ (List.mem_of_getElem? (i := 59) rfl)) (hw _ (List.mem_of_getElem? (i := 56) rfl)) (by decide) (by decide)) (g := (mkF m 103 #[iv p1, iv p2, iv p3, iv v3_64, rv b184, iv v5_187, rv b188, rv b207, rv b210, .unset, .unset, .unset, .unset] [(.int v3_64), (.ref b184), (.ref b210), (.ref b207), (.int v5_187), (.ref b212), (.ref b212)])) rfl (by rw [hml]; rfl) (Steps.refl _) (a := b212) (argsL := [(.int v5_187), (.ref b207), (.ref b210), (.ref b184), (.int v3_64)]) (rest := [(.ref b212)]) (lenOf pd__28_ILjava_2f_lang_2f_String_3b_Ljava_2f_util_2f_List_3b__5b_BZ_29_V rfl) rfl (by show 2 * 0 + _ ≤ _; exact Nat.le_of_eq rfl) (hb hby at_103) (fun _ hv => ⟨rfl, e212, (by decide : 8 + 0 ≤ _), (by decide : 20 + 0 ≤ _)⟩)
      dsimp only [Pt.U, Pt.locs, Pt.cells, Pt.slots] at X213 l213 y213 z213 st213 hQ213
      subst l213 y213 z213
      refine own_go st213 ?_
      obtain ⟨rfl, Nq213, K213, r213_0, r213_1⟩ := hQ213
      have Od213 := Od212.keep K213 (allS g_b212 all0)
      have V_b184_213 := V_b184_212.keep K213 (ninS ne_b184_b212 nin0)
      have V_b188_213 := V_b188_212.keep K213 (ninS ne_b188_b212 nin0)
      have r209_0_213 := r209_0_212.keep K213
      have V_b208_213 := V_b208_212.keep K213 (ninS ne_b208_b212 nin0)
      have r211_0_213 := r211_0_212.keep K213
      have r211_1_213 := r211_1_212.keep K213 (ninS ne_b210_b212 nin0)
      have r211_2_213 := r211_2_212.keep K213 (ninS ne_b210_b212 nin0)
      have E_b212_213 := E_b212.keep K213
      have Z213 : n0 ≤ T213.heap.size := Nat.le_trans Z212 K213.1
      have hk213 : T209.heap.size ≤ T213.heap.size := Nat.le_trans hk212 K213.1
      have N213 := Fr.app N211 Nq213
      show own_Fin _ _ _ _ (T213.setTop (mkF m 106 #[iv p1, iv p2, iv p3, iv v3_64, rv b184, iv v5_187, rv b188, rv b207, rv b210, .unset, .unset, .unset, .unset] [(.ref b212)]))
      refine own_go (XS.astore X213.here hx rfl (hb hby at_106) rfl rfl rfl (Steps.refl _)) ?_
      show own_Fin _ _ _ _ (T213.setTop (mkF m 108 #[iv p1, iv p2, iv p3, iv v3_64, rv b184, iv v5_187, rv b188, rv b207, rv b210, rv b212, .unset, .unset, .unset] []))
      have di214 : Steps p.tables e below (T213.setTop (mkF m 108 #[iv p1, iv p2, iv p3, iv v3_64, rv b184, iv v5_187, rv b188, rv b207, rv b210, rv b212, .unset, .unset, .unset] [])) (T213.setTop (mkF m 123 #[iv p1, iv p2, iv p3, iv v3_64, rv b184, iv v5_187, rv b188, rv b207, rv b210, rv b212, .unset, .unset, .unset] [(.int (own_ex v5_187))])) := by
        refine XS.iload X213.here hx rfl (hb hby at_108) rfl ?_
        show Steps _ _ _ (T213.setTop (mkF m 110 #[iv p1, iv p2, iv p3, iv v3_64, rv b184, iv v5_187, rv b188, rv b207, rv b210, rv b212, .unset, .unset, .unset] [(.int v5_187)])) _
        by_cases c110_215 : v5_187 < (0 : Int32)
        · refine XS.ifYes X213.here hx rfl (pc0 := 110) (pc' := 118) rfl (hb hby at_110) rfl ((if0 _ _).trans (tlt c110_215).1) (by decide) (by decide) ?_
          show Steps _ _ _ (T213.setTop (mkF m 118 #[iv p1, iv p2, iv p3, iv v3_64, rv b184, iv v5_187, rv b188, rv b207, rv b210, rv b212, .unset, .unset, .unset] [])) _
          refine XS.iconst X213.here hx rfl (hb hby at_118) ?_
          show Steps _ _ _ (T213.setTop (mkF m 119 #[iv p1, iv p2, iv p3, iv v3_64, rv b184, iv v5_187, rv b188, rv b207, rv b210, rv b212, .unset, .unset, .unset] [(.int (1 : Int32))])) _
          refine XS.goto X213.here hx rfl (pc0 := 119) (pc' := 123) rfl (hb hby at_119) (by decide) (by decide) ?_
          show Steps _ _ _ (T213.setTop (mkF m 123 #[iv p1, iv p2, iv p3, iv v3_64, rv b184, iv v5_187, rv b188, rv b207, rv b210, rv b212, .unset, .unset, .unset] [(.int (1 : Int32))])) _
          rw [show (own_ex v5_187) = (1 : Int32) from by simp [own_ex, c110_215]]; exact Steps.refl _
        · refine XS.ifNo X213.here hx rfl (hb hby at_110) rfl ((if0 _ _).trans (flt c110_215).1) ?_
          show Steps _ _ _ (T213.setTop (mkF m 113 #[iv p1, iv p2, iv p3, iv v3_64, rv b184, iv v5_187, rv b188, rv b207, rv b210, rv b212, .unset, .unset, .unset] [])) _
          refine XS.iload X213.here hx rfl (hb hby at_113) rfl ?_
          show Steps _ _ _ (T213.setTop (mkF m 115 #[iv p1, iv p2, iv p3, iv v3_64, rv b184, iv v5_187, rv b188, rv b207, rv b210, rv b212, .unset, .unset, .unset] [(.int v5_187)])) _
          by_cases c115_216 : (0 : Int32) < v5_187
          · refine XS.ifNo X213.here hx rfl (hb hby at_115) rfl ((if0 _ _).trans (tlt c115_216).2.2.2) ?_
            show Steps _ _ _ (T213.setTop (mkF m 118 #[iv p1, iv p2, iv p3, iv v3_64, rv b184, iv v5_187, rv b188, rv b207, rv b210, rv b212, .unset, .unset, .unset] [])) _
            refine XS.iconst X213.here hx rfl (hb hby at_118) ?_
            show Steps _ _ _ (T213.setTop (mkF m 119 #[iv p1, iv p2, iv p3, iv v3_64, rv b184, iv v5_187, rv b188, rv b207, rv b210, rv b212, .unset, .unset, .unset] [(.int (1 : Int32))])) _
            refine XS.goto X213.here hx rfl (pc0 := 119) (pc' := 123) rfl (hb hby at_119) (by decide) (by decide) ?_
            show Steps _ _ _ (T213.setTop (mkF m 123 #[iv p1, iv p2, iv p3, iv v3_64, rv b184, iv v5_187, rv b188, rv b207, rv b210, rv b212, .unset, .unset, .unset] [(.int (1 : Int32))])) _
            rw [show (own_ex v5_187) = (1 : Int32) from by simp [own_ex, c110_215, c115_216]]; exact Steps.refl _
          · refine XS.ifYes X213.here hx rfl (pc0 := 115) (pc' := 122) rfl (hb hby at_115) rfl ((if0 _ _).trans (flt c115_216).2.2.2) (by decide) (by decide) ?_
            show Steps _ _ _ (T213.setTop (mkF m 122 #[iv p1, iv p2, iv p3, iv v3_64, rv b184, iv v5_187, rv b188, rv b207, rv b210, rv b212, .unset, .unset, .unset] [])) _
            refine XS.iconst X213.here hx rfl (hb hby at_122) ?_
            show Steps _ _ _ (T213.setTop (mkF m 123 #[iv p1, iv p2, iv p3, iv v3_64, rv b184, iv v5_187, rv b188, rv b207, rv b210, rv b212, .unset, .unset, .unset] [(.int (0 : Int32))])) _
            rw [show (own_ex v5_187) = (0 : Int32) from by simp [own_ex, c110_215, c115_216]]; exact Steps.refl _
      refine own_go di214 ?_
      show own_Fin _ _ _ _ (T213.setTop (mkF m 123 #[iv p1, iv p2, iv p3, iv v3_64, rv b184, iv v5_187, rv b188, rv b207, rv b210, rv b212, .unset, .unset, .unset] [(.int (own_ex v5_187))]))
      refine own_go (XS.istore X213.here hx rfl (hb hby at_123) rfl rfl (Steps.refl _)) ?_
      show own_Fin _ _ _ _ (T213.setTop (mkF m 125 #[iv p1, iv p2, iv p3, iv v3_64, rv b184, iv v5_187, rv b188, rv b207, rv b210, rv b212, iv (own_ex v5_187), .unset, .unset] []))
      generalize hz_v10_217 : (own_ex v5_187) = v10_217
      refine own_go (XS.aload X213.here hx rfl (hb hby at_125) rfl rfl (Steps.refl _)) ?_
      show own_Fin _ _ _ _ (T213.setTop (mkF m 127 #[iv p1, iv p2, iv p3, iv v3_64, rv b184, iv v5_187, rv b188, rv b207, rv b210, rv b212, iv v10_217, .unset, .unset] [(.ref b212)]))
      obtain ⟨cq218, kq218, q218a, q218b, q218c⟩ := isOf hZ209 rfl r213_0
      obtain ⟨_, _, ⟨T218, L218, k218, n218⟩, -, X218, ⟨Lc218, hQ218, l218, y218, z218⟩, st218⟩ := X213.virtualBack hx (y := (⟨"com/example/pryority/pryority/Response", "isAnswer", "()Z"⟩ : MethodName)) (z := (⟨"com/example/pryority/pryority/Response", "isAnswer", "()Z"⟩ : MethodName)) hown209 (mvT hZ209 (hw _ (List.mem_of_getElem? (i := 76) rfl))) (mvT hZ209 (hw _ (List.mem_of_getElem? (i := 77) rfl))) (notFace_of_selects (args := #[]) (mvT hZ209 (hw _ (List.mem_of_getElem? (i := 79) rfl)))) (mvT hZ209 (hw _ (List.mem_of_getElem? (i := 79) rfl))) (mvT hZ209 (hw _ (List.mem_of_getElem? (i := 78) rfl))) (by decide) (backOf (W := 0) (rmia l Z a0 hw [] b212 v5_187 T213.heap n0 Z213 r213_1) hZ209 (hw _ (List.mem_of_getElem? (i := 80) rfl)) (hw _ (List.mem_of_getElem? (i := 56) rfl)) (by decide) (by decide)) q218a q218c (g := (mkF m 127 #[iv p1, iv p2, iv p3, iv v3_64, rv b184, iv v5_187, rv b188, rv b207, rv b210, rv b212, iv v10_217, .unset, .unset] [(.ref b212)])) rfl (by rw [hml]; rfl) (Steps.refl _) (argsL := []) (rest := []) (lenOf pd__28__29_Z rfl) rfl (by show 2 * 0 + _ ≤ _; exact Nat.le_of_eq rfl) (hb hby at_127) (fun _ hv => ⟨rfl, rfl, (by decide : 8 + 0 ≤ _), (by decide : 20 + 0 ≤ _)⟩)
      dsimp only [Pt.U, Pt.locs, Pt.cells, Pt.slots] at X218 l218 y218 z218 st218 hQ218
      subst l218 y218 z218
      obtain ⟨rfl, Nq218, e218⟩ := hQ218
      refine own_go st218 ?_
      have N218 := Fr.app N213 Nq218
      show own_Fin _ _ _ _ (T218.setTop (mkF m 130 #[iv p1, iv p2, iv p3, iv v3_64, rv b184, iv v5_187, rv b188, rv b207, rv b210, rv b212, iv v10_217, .unset, .unset] [(.int (own_an v5_187))]))
      refine own_go (XS.istore X218.here hx rfl (hb hby at_130) rfl rfl (Steps.refl _)) ?_
      show own_Fin _ _ _ _ (T218.setTop (mkF m 132 #[iv p1, iv p2, iv p3, iv v3_64, rv b184, iv v5_187, rv b188, rv b207, rv b210, rv b212, iv v10_217, iv (own_an v5_187), .unset] []))
      generalize hz_v11_219 : (own_an v5_187) = v11_219
      obtain ⟨_, _, ⟨T220, L220, k220, n220⟩, -, X220, hs2220, hgr220, ⟨Lc220, hQ220, l220, y220, z220⟩, st220⟩ := callSS X218 hx (y := (⟨"com/example/pryority/pryority/Response", "noAnswer", "()Lcom/example/pryority/pryority/Response;"⟩ : MethodName)) hown209 (mvT hZ209 (hw _ (List.mem_of_getElem? (i := 81) rfl))) (mvT hZ209 (hw _ (List.mem_of_getElem? (i := 82) rfl))) (mvT hZ209 (hw _ (List.mem_of_getElem? (i := 56) rfl))) (mvT hZ209 (hw _ (List.mem_of_getElem? (i := 83) rfl))) (by decide) (backOfS (W := 0) (rmna l Z a0 hw [] el T213.heap n0 Z213 Od213 S_EMPTY_LIST) hZ209 (hw _ (List.mem_of_getElem? (i := 83) rfl)) (hw _ (List.mem_of_getElem? (i := 56) rfl)) (by decide) (by decide)) (g := (mkF m 132 #[iv p1, iv p2, iv p3, iv v3_64, rv b184, iv v5_187, rv b188, rv b207, rv b210, rv b212, iv v10_217, iv v11_219, .unset] [])) rfl (by rw [hml]; rfl) (argsL := []) (rest := []) (lenOf pd__28__29_Lcom_2f_example_2f_pryority_2f_pryority_2f_Response_3b_ rfl) rfl (by show 2 * 0 + _ ≤ _; exact Nat.le_of_eq rfl) (hb hby at_132) (fun _ hv => ⟨rfl, e218, (by decide : 8 + 4 ≤ _), (by decide : 20 + 9 ≤ _)⟩)
      dsimp only [Pt.U, Pt.locs, Pt.cells, Pt.slots] at X220 l220 y220 z220 st220 hQ220 hs2220 hgr220
      subst l220 y220 z220
      obtain ⟨Xr220, hS220, hZ220, hown220⟩ := rebS hS209 (show T209.heap.size ≤ T218.heap.size by rw [e218]; exact hk213) X220 hs2220 hgr220 hZ209 hown209
      refine own_go st220 ?_
      obtain ⟨r_220, rfl, Nq220, K220, g_r_220, sb_r_220, r220_0, r220_1⟩ := hQ220
      have ne_b184_r_220 : b184 ≠ r_220 := Nat.ne_of_lt (Nat.lt_of_lt_of_le V_b184_213.lt sb_r_220)
      have ne_b188_r_220 : b188 ≠ r_220 := Nat.ne_of_lt (Nat.lt_of_lt_of_le V_b188_213.lt sb_r_220)
      have ne_b207_r_220 : b207 ≠ r_220 := Nat.ne_of_lt (Nat.lt_of_lt_of_le r209_0_213.lt sb_r_220)
      have ne_b208_r_220 : b208 ≠ r_220 := Nat.ne_of_lt (Nat.lt_of_lt_of_le V_b208_213.lt sb_r_220)
      have ne_b210_r_220 : b210 ≠ r_220 := Nat.ne_of_lt (Nat.lt_of_lt_of_le r211_0_213.lt sb_r_220)
      have ne_b212_r_220 : b212 ≠ r_220 := Nat.ne_of_lt (Nat.lt_of_lt_of_le r213_0.lt sb_r_220)
      have Od220 := Od213.keep K220 all0
      have V_b184_220 := V_b184_213.keep K220 nin0
      have V_b188_220 := V_b188_213.keep K220 nin0
      have r209_0_220 := r209_0_213.keep K220
      have V_b208_220 := V_b208_213.keep K220 nin0
      have r211_0_220 := r211_0_213.keep K220
      have r211_1_220 := r211_1_213.keep K220 nin0
      have r211_2_220 := r211_2_213.keep K220 nin0
      have r213_0_220 := r213_0.keep K220
      have r213_1_220 := r213_1.keep K220 nin0
      have Z220 : n0 ≤ T220.heap.size := Nat.le_trans Z213 K220.1
      have hk220 : T209.heap.size ≤ T220.heap.size := Nat.le_trans hk213 K220.1
      have hkr220 : T220.heap.size ≤ T220.heap.size := Nat.le_refl _
      have N220 := Fr.app N218 Nq220
      show own_Fin _ _ _ _ (T220.setTop (mkF m 135 #[iv p1, iv p2, iv p3, iv v3_64, rv b184, iv v5_187, rv b188, rv b207, rv b210, rv b212, iv v10_217, iv v11_219, .unset] [(.ref r_220)]))
      refine own_go (XS.astore Xr220.here hx rfl (hb hby at_135) rfl rfl rfl (Steps.refl _)) ?_
      show own_Fin _ _ _ _ (T220.setTop (mkF m 137 #[iv p1, iv p2, iv p3, iv v3_64, rv b184, iv v5_187, rv b188, rv b207, rv b210, rv b212, iv v10_217, iv v11_219, rv r_220] []))
      refine own_go (XS.iload Xr220.here hx rfl (hb hby at_137) rfl (Steps.refl _)) ?_
      show own_Fin _ _ _ _ (T220.setTop (mkF m 139 #[iv p1, iv p2, iv p3, iv v3_64, rv b184, iv v5_187, rv b188, rv b207, rv b210, rv b212, iv v10_217, iv v11_219, rv r_220] [(.int v11_219)]))
      refine own_go (XS.iload Xr220.here hx rfl (hb hby at_139) rfl (Steps.refl _)) ?_
      show own_Fin _ _ _ _ (T220.setTop (mkF m 141 #[iv p1, iv p2, iv p3, iv v3_64, rv b184, iv v5_187, rv b188, rv b207, rv b210, rv b212, iv v10_217, iv v11_219, rv r_220] [(.int v10_217), (.int v11_219)]))
      refine own_go (XS.icmpNo Xr220.here hx rfl (hb hby at_141) rfl (teq (show v11_219 = v10_217 from (by rw [← hz_v11_219, ← hz_v10_217]; exact own_exan _))).2 (Steps.refl _)) ?_
      show own_Fin _ _ _ _ (T220.setTop (mkF m 144 #[iv p1, iv p2, iv p3, iv v3_64, rv b184, iv v5_187, rv b188, rv b207, rv b210, rv b212, iv v10_217, iv v11_219, rv r_220] []))
      refine own_go (XS.aload Xr220.here hx rfl (hb hby at_144) rfl rfl (Steps.refl _)) ?_
      show own_Fin _ _ _ _ (T220.setTop (mkF m 146 #[iv p1, iv p2, iv p3, iv v3_64, rv b184, iv v5_187, rv b188, rv b207, rv b210, rv b212, iv v10_217, iv v11_219, rv r_220] [(.ref r_220)]))
      obtain ⟨cq221, kq221, q221a, q221b, q221c⟩ := isOf hZ220 rfl r220_0
      obtain ⟨_, _, ⟨T221, L221, k221, n221⟩, -, X221, ⟨Lc221, hQ221, l221, y221, z221⟩, st221⟩ := Xr220.virtualBack hx (y := (⟨"com/example/pryority/pryority/Response", "isAnswer", "()Z"⟩ : MethodName)) (z := (⟨"com/example/pryority/pryority/Response", "isAnswer", "()Z"⟩ : MethodName)) hown220 (mvT hZ220 (hw _ (List.mem_of_getElem? (i := 76) rfl))) (mvT hZ220 (hw _ (List.mem_of_getElem? (i := 77) rfl))) (notFace_of_selects (args := #[]) (mvT hZ220 (hw _ (List.mem_of_getElem? (i := 79) rfl)))) (mvT hZ220 (hw _ (List.mem_of_getElem? (i := 79) rfl))) (mvT hZ220 (hw _ (List.mem_of_getElem? (i := 78) rfl))) (by decide) (backOf (W := 0) (rmia l Z a0 hw [] r_220 (0 : Int32) T220.heap n0 Z220 r220_1) hZ220 (hw _ (List.mem_of_getElem? (i := 80) rfl)) (hw _ (List.mem_of_getElem? (i := 56) rfl)) (by decide) (by decide)) q221a q221c (g := (mkF m 146 #[iv p1, iv p2, iv p3, iv v3_64, rv b184, iv v5_187, rv b188, rv b207, rv b210, rv b212, iv v10_217, iv v11_219, rv r_220] [(.ref r_220)])) rfl (by rw [hml]; rfl) (Steps.refl _) (argsL := []) (rest := []) (lenOf pd__28__29_Z rfl) rfl (by show 2 * 0 + _ ≤ _; exact Nat.le_of_eq rfl) (hb hby at_146) (fun _ hv => ⟨rfl, rfl, (by decide : 12 + 0 ≤ _), (by decide : 29 + 0 ≤ _)⟩)
      dsimp only [Pt.U, Pt.locs, Pt.cells, Pt.slots] at X221 l221 y221 z221 st221 hQ221
      subst l221 y221 z221
      obtain ⟨rfl, Nq221, e221⟩ := hQ221
      refine own_go st221 ?_
      have N221 := Fr.app N220 Nq221
      show own_Fin _ _ _ _ (T221.setTop (mkF m 149 #[iv p1, iv p2, iv p3, iv v3_64, rv b184, iv v5_187, rv b188, rv b207, rv b210, rv b212, iv v10_217, iv v11_219, rv r_220] [(.int (own_an (0 : Int32)))]))
      refine own_go (XS.ifNo X221.here hx rfl (hb hby at_149) rfl ((if0 _ _).trans (teq (show (own_an (0 : Int32)) = (0 : Int32) from rfl)).2) (Steps.refl _)) ?_
      show own_Fin _ _ _ _ (T221.setTop (mkF m 152 #[iv p1, iv p2, iv p3, iv v3_64, rv b184, iv v5_187, rv b188, rv b207, rv b210, rv b212, iv v10_217, iv v11_219, rv r_220] []))
      refine own_go (XS.iconst X221.here hx rfl (hb hby at_152) (Steps.refl _)) ?_
      show own_Fin _ _ _ _ (T221.setTop (mkF m 153 #[iv p1, iv p2, iv p3, iv v3_64, rv b184, iv v5_187, rv b188, rv b207, rv b210, rv b212, iv v10_217, iv v11_219, rv r_220] [(.int (1 : Int32))]))
      refine own_go (XS.goto X221.here hx rfl (pc0 := 153) (pc' := 157) rfl (hb hby at_153) (by decide) (by decide) (Steps.refl _)) ?_
      show own_Fin _ _ _ _ (T221.setTop (mkF m 157 #[iv p1, iv p2, iv p3, iv v3_64, rv b184, iv v5_187, rv b188, rv b207, rv b210, rv b212, iv v10_217, iv v11_219, rv r_220] [(.int (1 : Int32))]))
      obtain ⟨fs222, hr222, hrun222, hended222, hRW222⟩ := X221.leaveW (s := s) hS220 (n := T220.heap.size) (by rw [e221]; exact hkr220) (v := some (.int (1 : Int32))) (fun h => by rw [Bd.returns] at h; cases h)
      refine own_done (retN X221 hx (t := .boolean) Bd.returns (by simp) (hb hby at_157) hr222) hrun222 hended222 ⟨_, _, rfl, ?_, hRW222.1, hRW222.2.1, hRW222.2.2.1, hRW222.2.2.2.mono (by decide) (by decide)⟩
      show Q0 Z p1 p2 p3 cs dd el h0 n0 _ T221.heap _
      rw [e221]
      exact ⟨rfl, N221⟩
set_option maxRecDepth 65536 in
set_option maxHeartbeats 40000000 in
theorem comes_1 {Post : Tables → Env → Array Value → State → Outcome → State → Prop} (hpost : ∀ tb e args s v u, (limb_1_1.after args s (.returned v) u = true ∧ limb_1_2.after args s (.returned v) u = true ∧ True) → ReturnedEndW s (.returned v) u (Jvm.fieldLocs frame_1_writes args s ++ Jvm.arrayLocs frame_1_arrays args s ++ Jvm.staticLocs frame_1_statics s) 32 2176 → Post tb e args s (.returned v) u) :
    ArmFor flags0 classFile x code maxLocals ret World_1 tables_1 room_1 Calls_1 rest_1 Pre_1 Post := by
  intro l hfl _ _ p e ha hc hk s m args below hf hA hF happ hP
  obtain ⟨hcalls, hrest, hpre⟩ := hP
  obtain ⟨-, -, -, hnamed, -, -, -, hat⟩ := (Spec.applies_iff hf).mp happ
  obtain ⟨hg, hn⟩ := and_e (Cond.before_iff.mp (show (Jvm.Cond.and given_1 narrow_1).before args s = true from hpre))
  obtain ⟨gg1, gg2⟩ := and_e hg
  obtain ⟨gg3, gg4⟩ := and_e gg2
  obtain ⟨gg5, gg6⟩ := and_e gg4
  obtain ⟨w0, w1, w2, rfl⟩ : ∃ w0 w1 w2 : Value, args = #[w0, w1, w2] := by
    have hs : args.size = 3 := by simpa [Cond.value, given_1] using gg1
    obtain ⟨L⟩ := args
    match L, hs with
    | [w0, w1, w2], _ => exact ⟨w0, w1, w2, rfl⟩
  have hw := fun d (hd : d ∈ tables_1) => atoms_spec (ws := Jvm.Cond.code x code maxLocals ret :: tables_1) hat d (List.mem_cons_of_mem _ hd)
  obtain ⟨i0, ei0⟩ := is_v gg3
  obtain rfl : w0 = (.int i0) := Option.some.inj ei0
  obtain ⟨i1, ei1⟩ := is_v gg5
  obtain rfl : w1 = (.int i1) := Option.some.inj ei1
  obtain ⟨i2, ei2⟩ := is_v gg6
  obtain rfl : w2 = (.int i2) := Option.some.inj ei2
  have hfit : Fit s := fun {y c} hc i hi => by
    obtain ⟨ha, rfl⟩ := Array.getElem?_eq_some_iff.mp hc
    have q := List.all_eq_true.mp ((Array.all_eq_true_iff_forall_mem.mp hF) _ (Array.getElem_mem ha)) i (List.mem_range.mpr hi)
    simpa [Array.getElem?_eq_getElem hi] using q
  obtain ⟨hsets, hown0⟩ := atoms_of _ (rest_1_c_eq ▸ (show rest_1_c.before _ s = true from hrest))
  obtain ⟨cs, ecs⟩ := is_v (Cond.before_iff.mp (hsets _ (List.mem_of_getElem? (i := 1) rfl)))
  have S_CS := Sta.start ecs (Or.inl (hsets _ (List.mem_of_getElem? (i := 0) rfl)))
  have hcs : ¬ cs = (0 : Int32) := by
    intro q
    subst q
    have h := not_v (Cond.before_iff.mp (hsets _ (List.mem_of_getElem? (i := 2) rfl)))
    have h' := (eq_i ecs (Term.int_eval (0 : Int32)) rfl).symm.trans h
    cases h'
  obtain ⟨dd, edd⟩ := exa_v (Cond.before_iff.mp (hsets _ (List.mem_of_getElem? (i := 16) rfl)))
  have S_D := Sta.start edd (Or.inr ⟨(hw _ (List.mem_of_getElem? (i := 32) rfl)), (hsets _ (List.mem_of_getElem? (i := 11) rfl))⟩)
  obtain ⟨el, eel⟩ := exa_v (Cond.before_iff.mp (hsets _ (List.mem_of_getElem? (i := 20) rfl)))
  have S_E := Sta.start eel (Or.inl (hsets _ (List.mem_of_getElem? (i := 19) rfl)))
  obtain ⟨n, o, h1, h2, h3, _, L, rfl, ⟨rfl, N⟩, hq⟩ := rm0 l s _ hw tables_1 i0 i1 i2 cs dd el s.heap s.heap.size (Nat.le_refl _) (Old.start s) S_CS S_D S_E hcs rfl (hcalls.1 _ (List.mem_of_getElem? (i := 1) rfl)) (hsets _ (List.mem_of_getElem? (i := 2) rfl)) p e ha hc hk s m _ below hf ((Spec.applies_iff_loose hf).mp happ).1 ⟨rfl, ⟨State.Warmed39.refl s, rfl⟩, rfl⟩ trivial
  refine ⟨n, _, h1, h2, h3, hpost _ _ _ _ _ _ ⟨Cond.after_iff.mpr rfl, Cond.after_iff.mpr (eq_i res_at (Term.int_eval (1)) rfl), trivial⟩ ⟨hq.1, hq.2.1, hq.2.2.1, (hq.2.2.2.sift fun y hy => Or.inr (N y hy)).mono (by decide) (by decide)⟩⟩
theorem main_1_1 : Claimed_1_1 := comes_1 fun _ _ _ _ _ _ h hF => ⟨h.1, hF⟩
theorem main_1_2 : Claimed_1_2 := comes_1 fun _ _ _ _ _ _ h hF => ⟨h.2.1, hF⟩
end Jvm.Pilot.@@N@@
namespace Jvm.Pilot.@@N@@
open Jvm Jvm.ClassFile Sem Op Lib Jvm.Free Jvm.Stand Jvm.Pilot.@@N@@.Jvm.D
/-! MADE BY PROGRAM (witnessworld.py) out of the Statement's table words and the real class files: 34 classes; the members and pool entries that the words name. The judged class is class 1, her method 1. -/
namespace start1
open Jvm.ClassFile
def u (s : String) : CpInfo := .utf8 (stringToUtf16 s)
/-- a pool by its gaps: so many unusable entries, then the entry; so many at the end -/
def gap : Nat → List CpInfo → List CpInfo
  | 0, r => r
  | n + 1, r => .unusable :: gap n r
def poolList (es : List (Nat × CpInfo)) (last : Nat) : List CpInfo := es.foldr (fun e r => gap e.1 (e.2 :: r)) (gap last [])
def pool (es : List (Nat × CpInfo)) (last : Nat) : Array CpInfo := ⟨poolList es last⟩
def fileOf (pool : Array CpInfo) (this : Nat) (attrs : Array Attribute := #[]) (ms : Array MethodInfo := #[]) (fl : Nat := 33) (sup : Nat := 0) (ifs : Array Nat := #[]) (fds : Array FieldInfo := #[]) : ClassFile where
  minorVersion := 0
  majorVersion := 65
  constantPool := pool
  accessFlags := fl
  thisClass := this
  superClass := sup
  interfaces := ifs
  fields := fds
  methods := ms
  attributes := attrs
def plain (name : String) (sup : Option ClassId) : Class where
  name := name
  kind := .ordinary
  loader := none
  accessFlags := 33
  super := sup
  interfaces := #[]
  cf := none
  fields := #[]
  methods := #[]
  instanceTypes := #[]
  staticTypes := #[]
  resolved := #[]
  callSites := []
  init := .initialized
  statics := none
  mirror := none

def pool0 : Array CpInfo := pool [(5, u "<init>"), (0, u "()V"), (1, .class_ 10), (1, u "java/lang/Object")] 113

def k0c0 : Code := { maxStack := 0, maxLocals := 1, code := object_method_1_code, exceptionTable := #[], attributes := #[] }
def k0m0 : Method := { name := "<init>", desc := "()V", sig := { parameters := [], returnType := none }, accessFlags := 1, code := some k0c0 }
/-- java/lang/Object -/
def k0 : Class := { plain "java/lang/Object" none with
  accessFlags := 33
  interfaces := #[]
  cf := some (fileOf pool0 8 #[] #[{ accessFlags := 1, nameIndex := 5, descriptorIndex := 6, attributes := #[] }] 33 0 #[] #[])
  fields := #[]
  methods := #[k0m0]
  instanceTypes := #[]
  staticTypes := #[]
  resolved := Array.replicate 124 none
  statics := none }

def pool1 : Array CpInfo := pool [(2, .class_ 4), (0, .nameAndType 5 6), (0, u "java/lang/Object"), (0, u "<init>"), (0, u "()V"), (0, .class_ 8), (0, u "java/lang/String"), (0, .methodref 7 10), (0, .nameAndType 5 11), (0, u "([C)V"), (0, .class_ 13), (0, u "java/util/ArrayList"), (0, .methodref 12 3), (0, .class_ 16), (0, u "com/example/pryority/pryority/Response"), (0, .methodref 15 18), (0, .nameAndType 5 19), (0, u "(ILjava/lang/String;Ljava/util/List;[BZ)V"), (0, .methodref 15 21), (0, .nameAndType 22 23), (0, u "isAnswer"), (0, u "()Z"), (0, .methodref 15 25), (0, .nameAndType 26 27), (0, u "noAnswer"), (0, u "()Lcom/example/pryority/pryority/Response;"), (0, .class_ 29), (0, u "com/example/pryority/pryority/ResponseIsAnswerPinLaw"), (2, u "law"), (0, u "(III)Z")] 7

def k1m0 : Method := { name := "<init>", desc := "()V", sig := { parameters := [], returnType := none }, accessFlags := 2, code := none }
def k1c1 : Code := { maxStack := 7, maxLocals := 13, code := code, exceptionTable := #[], attributes := #[] }
def k1m1 : Method := { name := "law", desc := "(III)Z", sig := { parameters := [.int, .int, .int], returnType := some .boolean }, accessFlags := 9, code := some k1c1 }
/-- com/example/pryority/pryority/ResponseIsAnswerPinLaw -/
def k1 : Class := { plain "com/example/pryority/pryority/ResponseIsAnswerPinLaw" (some 0) with
  accessFlags := 49
  interfaces := #[]
  cf := some (fileOf pool1 28 #[] #[{ accessFlags := 2, nameIndex := 5, descriptorIndex := 6, attributes := #[] }, { accessFlags := 9, nameIndex := 32, descriptorIndex := 33, attributes := #[] }] 49 2 #[] #[])
  fields := #[]
  methods := #[k1m0, k1m1]
  instanceTypes := #[]
  staticTypes := #[]
  resolved := Array.replicate 41 none
  statics := none }

def pool2 : Array CpInfo := pool [(1, .class_ 2), (0, u "java/io/Serializable"), (0, .class_ 4), (0, u "java/lang/Object")] 2

/-- java/io/Serializable -/
def k2 : Class := { plain "java/io/Serializable" (some 0) with
  accessFlags := 1537
  interfaces := #[]
  cf := some (fileOf pool2 1 #[] #[] 1537 3 #[] #[])
  fields := #[]
  methods := #[]
  instanceTypes := #[]
  staticTypes := #[]
  resolved := Array.replicate 7 none
  statics := none }

def pool3 : Array CpInfo := pool [(1, .class_ 2), (0, u "java/lang/Comparable"), (0, .class_ 4), (0, u "java/lang/Object")] 7

/-- java/lang/Comparable -/
def k3 : Class := { plain "java/lang/Comparable" (some 0) with
  accessFlags := 1537
  interfaces := #[]
  cf := some (fileOf pool3 1 #[] #[] 1537 3 #[] #[])
  fields := #[]
  methods := #[]
  instanceTypes := #[]
  staticTypes := #[]
  resolved := Array.replicate 12 none
  statics := none }

def pool4 : Array CpInfo := pool [(2, .class_ 4), (1, u "java/lang/CharSequence"), (42, .class_ 48), (0, u "java/lang/CharSequence$1CodePointIterator"), (10, .class_ 60), (0, u "java/lang/CharSequence$1CharIterator"), (5, .class_ 67), (0, u "java/lang/Object")] 63

/-- java/lang/CharSequence -/
def k4 : Class := { plain "java/lang/CharSequence" (some 0) with
  accessFlags := 1537
  interfaces := #[]
  cf := some (fileOf pool4 2 #[.nestMembers #[47, 59]] #[] 1537 66 #[] #[])
  fields := #[]
  methods := #[]
  instanceTypes := #[]
  staticTypes := #[]
  resolved := Array.replicate 131 none
  statics := none }

def pool5 : Array CpInfo := pool [(1, .class_ 2), (0, u "java/lang/constant/Constable"), (0, .class_ 4), (0, u "java/lang/Object")] 6

/-- java/lang/constant/Constable -/
def k5 : Class := { plain "java/lang/constant/Constable" (some 0) with
  accessFlags := 1537
  interfaces := #[]
  cf := some (fileOf pool5 1 #[] #[] 1537 3 #[] #[])
  fields := #[]
  methods := #[]
  instanceTypes := #[]
  staticTypes := #[]
  resolved := Array.replicate 11 none
  statics := none }

def pool6 : Array CpInfo := pool [(1, .class_ 2), (0, u "java/lang/constant/ConstantDesc"), (0, .class_ 4), (0, u "java/lang/Object")] 32

/-- java/lang/constant/ConstantDesc -/
def k6 : Class := { plain "java/lang/constant/ConstantDesc" (some 0) with
  accessFlags := 1537
  interfaces := #[]
  cf := some (fileOf pool6 1 #[] #[] 1537 3 #[] #[])
  fields := #[]
  methods := #[]
  instanceTypes := #[]
  staticTypes := #[]
  resolved := Array.replicate 37 none
  statics := none }

def pool7 : Array CpInfo := pool [(1, .methodref 2 3), (0, .class_ 4), (0, .nameAndType 5 6), (0, u "java/lang/Object"), (0, u "<init>"), (0, u "()V"), (0, .string 8), (0, u ""), (0, .fieldref 10 11), (0, .class_ 12), (0, .nameAndType 13 14), (0, u "java/lang/String"), (0, u "value"), (0, u "[B"), (0, .fieldref 10 16), (0, .nameAndType 17 18), (0, u "coder"), (0, u "B"), (2, u "hash"), (0, u "I"), (2, u "hashIsZero"), (0, u "Z"), (0, .methodref 10 28), (0, .nameAndType 5 29), (0, u "([CIILjava/lang/Void;)V"), (8, .fieldref 10 39), (0, .nameAndType 40 26), (0, u "COMPACT_STRINGS"), (1, .class_ 44), (1, u "java/lang/StringUTF16"), (0, u "compress"), (1, .methodref 42 48), (0, .nameAndType 49 50), (0, u "coderFromArrayLen"), (0, u "([BI)B"), (126, .methodref 42 178), (0, .nameAndType 45 179), (0, u "([CII)[B"), (395, .class_ 576), (0, u "java/lang/CharSequence"), (22, u "CASE_INSENSITIVE_ORDER"), (0, u "Ljava/util/Comparator;"), (409, u "([C)V"), (90, u "serialPersistentFields"), (0, u "[Ljava/io/ObjectStreamField;"), (0, .class_ 1104), (0, u "java/lang/String$CaseInsensitiveComparator"), (1, .class_ 1107), (0, u "java/io/Serializable"), (0, .class_ 1109), (0, u "java/lang/Comparable"), (0, .class_ 1111), (0, u "java/lang/constant/Constable"), (0, .class_ 1113), (0, u "java/lang/constant/ConstantDesc"), (2, u "serialVersionUID"), (0, u "J"), (3, u "REPL"), (0, u "C"), (2, u "LATIN1"), (1, u "UTF16")] 323

def k7m0 : Method := { name := "<init>", desc := "()V", sig := { parameters := [], returnType := none }, accessFlags := 1, code := none }
def k7c1 : Code := { maxStack := 5, maxLocals := 2, code := jdk_42_method_3_code, exceptionTable := #[], attributes := #[] }
def k7m1 : Method := { name := "<init>", desc := "([C)V", sig := { parameters := [(.array .char)], returnType := none }, accessFlags := 1, code := some k7c1 }
def k7c2 : Code := { maxStack := 4, maxLocals := 6, code := jdk_42_method_149_code, exceptionTable := #[], attributes := #[] }
def k7m2 : Method := { name := "<init>", desc := "([CIILjava/lang/Void;)V", sig := { parameters := [(.array .char), .int, .int, (.object "java/lang/Void")], returnType := none }, accessFlags := 2, code := some k7c2 }
/-- java/lang/String -/
def k7 : Class := { plain "java/lang/String" (some 0) with
  accessFlags := 49
  interfaces := #[2, 3, 4, 5, 6]
  cf := some (fileOf pool7 10 #[.nestMembers #[1103]] #[{ accessFlags := 1, nameIndex := 5, descriptorIndex := 6, attributes := #[] }, { accessFlags := 1, nameIndex := 5, descriptorIndex := 1010, attributes := #[] }, { accessFlags := 2, nameIndex := 5, descriptorIndex := 29, attributes := #[] }] 49 2 #[1106, 1108, 575, 1110, 1112] #[{ accessFlags := 18, nameIndex := 13, descriptorIndex := 14, attributes := #[] }, { accessFlags := 18, nameIndex := 17, descriptorIndex := 18, attributes := #[] }, { accessFlags := 2, nameIndex := 21, descriptorIndex := 22, attributes := #[] }, { accessFlags := 2, nameIndex := 25, descriptorIndex := 26, attributes := #[] }, { accessFlags := 26, nameIndex := 1116, descriptorIndex := 1117, attributes := #[] }, { accessFlags := 24, nameIndex := 40, descriptorIndex := 26, attributes := #[] }, { accessFlags := 26, nameIndex := 1101, descriptorIndex := 1102, attributes := #[] }, { accessFlags := 26, nameIndex := 1121, descriptorIndex := 1122, attributes := #[] }, { accessFlags := 25, nameIndex := 599, descriptorIndex := 600, attributes := #[] }, { accessFlags := 24, nameIndex := 1125, descriptorIndex := 18, attributes := #[] }, { accessFlags := 24, nameIndex := 1127, descriptorIndex := 18, attributes := #[] }])
  fields := #[{ name := "value", type := (.array .byte), accessFlags := 18, slot := 0, constantValue := 0 }, { name := "coder", type := .byte, accessFlags := 18, slot := 1, constantValue := 0 }, { name := "hash", type := .int, accessFlags := 2, slot := 2, constantValue := 0 }, { name := "hashIsZero", type := .boolean, accessFlags := 2, slot := 3, constantValue := 0 }, { name := "serialVersionUID", type := .long, accessFlags := 26, slot := 0, constantValue := 0 }, { name := "COMPACT_STRINGS", type := .boolean, accessFlags := 24, slot := 1, constantValue := 0 }, { name := "serialPersistentFields", type := (.array (.object "java/io/ObjectStreamField")), accessFlags := 26, slot := 2, constantValue := 0 }, { name := "REPL", type := .char, accessFlags := 26, slot := 3, constantValue := 0 }, { name := "CASE_INSENSITIVE_ORDER", type := (.object "java/util/Comparator"), accessFlags := 25, slot := 4, constantValue := 0 }, { name := "LATIN1", type := .byte, accessFlags := 24, slot := 5, constantValue := 0 }, { name := "UTF16", type := .byte, accessFlags := 24, slot := 6, constantValue := 0 }]
  methods := #[k7m0, k7m1, k7m2]
  instanceTypes := #[(.array .byte), .byte, .int, .boolean]
  staticTypes := #[.long, .boolean, (.array (.object "java/io/ObjectStreamField")), .char, (.object "java/util/Comparator"), .byte, .byte]
  resolved := Array.replicate 1451 none
  statics := some 0 }

def pool8 : Array CpInfo := pool [(6, .class_ 8), (1, u "java/lang/Object"), (0, u "<init>"), (0, u "()V"), (1, .class_ 14), (1, u "java/lang/StringUTF16"), (31, u "$assertionsDisabled"), (0, u "Z"), (13, u "HI_BYTE_SHIFT"), (0, u "I"), (2, u "LO_BYTE_SHIFT"), (49, .methodref 12 116), (0, .nameAndType 117 118), (0, u "compress"), (0, u "([CI[BII)I"), (3, u "([CII)[B"), (138, u "coderFromArrayLen"), (0, u "([BI)B"), (106, .class_ 371), (1, u "java/lang/StringUTF16$LinesSpliterator"), (58, u "MAX_LENGTH"), (196, .class_ 628), (0, u "java/lang/StringUTF16$CodePointsSpliterator"), (0, .class_ 630), (0, u "java/lang/StringUTF16$CharsSpliterator")] 4

def k8m0 : Method := { name := "<init>", desc := "()V", sig := { parameters := [], returnType := none }, accessFlags := 0, code := none }
def k8c1 : Code := { maxStack := 2, maxLocals := 2, code := jdk_52_method_15_code, exceptionTable := #[], attributes := #[] }
def k8m1 : Method := { name := "coderFromArrayLen", desc := "([BI)B", sig := { parameters := [(.array .byte), .int], returnType := some .byte }, accessFlags := 8, code := some k8c1 }
def k8c2 : Code := { maxStack := 5, maxLocals := 6, code := jdk_52_method_16_code, exceptionTable := #[], attributes := #[] }
def k8m2 : Method := { name := "compress", desc := "([CII)[B", sig := { parameters := [(.array .char), .int, .int], returnType := some (.array .byte) }, accessFlags := 9, code := some k8c2 }
def k8c3 : Code := { maxStack := 3, maxLocals := 7, code := jdk_52_method_21_code, exceptionTable := #[], attributes := #[] }
def k8m3 : Method := { name := "compress", desc := "([CI[BII)I", sig := { parameters := [(.array .char), .int, (.array .byte), .int, .int], returnType := some .int }, accessFlags := 9, code := some k8c3 }
/-- java/lang/StringUTF16 -/
def k8 : Class := { plain "java/lang/StringUTF16" (some 0) with
  accessFlags := 48
  interfaces := #[]
  cf := some (fileOf pool8 12 #[.nestMembers #[627, 629, 369]] #[{ accessFlags := 0, nameIndex := 9, descriptorIndex := 10, attributes := #[] }, { accessFlags := 8, nameIndex := 261, descriptorIndex := 262, attributes := #[] }, { accessFlags := 9, nameIndex := 117, descriptorIndex := 122, attributes := #[] }, { accessFlags := 9, nameIndex := 117, descriptorIndex := 118, attributes := #[] }] 48 6 #[] #[{ accessFlags := 26, nameIndex := 61, descriptorIndex := 62, attributes := #[] }, { accessFlags := 26, nameIndex := 65, descriptorIndex := 62, attributes := #[] }, { accessFlags := 24, nameIndex := 430, descriptorIndex := 62, attributes := #[] }, { accessFlags := 4120, nameIndex := 46, descriptorIndex := 47, attributes := #[] }])
  fields := #[{ name := "HI_BYTE_SHIFT", type := .int, accessFlags := 26, slot := 0, constantValue := 0 }, { name := "LO_BYTE_SHIFT", type := .int, accessFlags := 26, slot := 1, constantValue := 0 }, { name := "MAX_LENGTH", type := .int, accessFlags := 24, slot := 2, constantValue := 0 }, { name := "$assertionsDisabled", type := .boolean, accessFlags := 4120, slot := 3, constantValue := 0 }]
  methods := #[k8m0, k8m1, k8m2, k8m3]
  instanceTypes := #[]
  staticTypes := #[.int, .int, .int, .boolean]
  resolved := Array.replicate 635 none
  statics := none }

def pool9 : Array CpInfo := pool [(8, .class_ 10), (1, u "java/lang/Iterable"), (24, .class_ 36), (0, u "java/lang/Object")] 25

/-- java/lang/Iterable -/
def k9 : Class := { plain "java/lang/Iterable" (some 0) with
  accessFlags := 1537
  interfaces := #[]
  cf := some (fileOf pool9 8 #[] #[] 1537 35 #[] #[])
  fields := #[]
  methods := #[]
  instanceTypes := #[]
  staticTypes := #[]
  resolved := Array.replicate 62 none
  statics := none }

def pool10 : Array CpInfo := pool [(10, .class_ 12), (1, u "java/util/Collection"), (47, .class_ 61), (0, u "java/lang/Object"), (0, .class_ 63), (0, u "java/lang/Iterable")] 51

/-- java/util/Collection -/
def k10 : Class := { plain "java/util/Collection" (some 0) with
  accessFlags := 1537
  interfaces := #[9]
  cf := some (fileOf pool10 10 #[] #[] 1537 60 #[62] #[])
  fields := #[]
  methods := #[]
  instanceTypes := #[]
  staticTypes := #[]
  resolved := Array.replicate 115 none
  statics := none }

def pool11 : Array CpInfo := pool [(1, .methodref 2 3), (0, .class_ 4), (0, .nameAndType 5 6), (0, u "java/lang/Object"), (0, u "<init>"), (0, u "()V"), (1, .class_ 10), (1, u "java/util/AbstractCollection"), (66, .class_ 78), (0, u "java/util/Collection")] 81

def k11c0 : Code := { maxStack := 1, maxLocals := 1, code := jdk_22_method_1_code, exceptionTable := #[], attributes := #[] }
def k11m0 : Method := { name := "<init>", desc := "()V", sig := { parameters := [], returnType := none }, accessFlags := 4, code := some k11c0 }
/-- java/util/AbstractCollection -/
def k11 : Class := { plain "java/util/AbstractCollection" (some 0) with
  accessFlags := 1057
  interfaces := #[10]
  cf := some (fileOf pool11 8 #[] #[{ accessFlags := 4, nameIndex := 5, descriptorIndex := 6, attributes := #[] }] 1057 2 #[77] #[])
  fields := #[]
  methods := #[k11m0]
  instanceTypes := #[]
  staticTypes := #[]
  resolved := Array.replicate 160 none
  statics := none }

def pool12 : Array CpInfo := pool [(8, .class_ 10), (1, u "java/util/SequencedCollection"), (15, .class_ 27), (0, u "java/lang/Object"), (0, .class_ 29), (0, u "java/util/Collection")] 27

/-- java/util/SequencedCollection -/
def k12 : Class := { plain "java/util/SequencedCollection" (some 0) with
  accessFlags := 1537
  interfaces := #[10]
  cf := some (fileOf pool12 8 #[] #[] 1537 26 #[28] #[])
  fields := #[]
  methods := #[]
  instanceTypes := #[]
  staticTypes := #[]
  resolved := Array.replicate 57 none
  statics := none }

def pool13 : Array CpInfo := pool [(8, .class_ 10), (1, u "java/util/List"), (77, u "of"), (1, .fieldref 91 92), (0, .class_ 93), (0, .nameAndType 94 95), (0, u "java/util/ImmutableCollections"), (0, u "EMPTY_LIST"), (0, u "Ljava/util/ImmutableCollections$ListN;"), (7, .class_ 104), (0, u "java/lang/Object"), (14, u "()Ljava/util/List;"), (0, .class_ 121), (0, u "java/util/SequencedCollection")] 129

def k13c0 : Code := { maxStack := 1, maxLocals := 0, code := jdk_40_method_36_code, exceptionTable := #[], attributes := #[] }
def k13m0 : Method := { name := "of", desc := "()Ljava/util/List;", sig := { parameters := [], returnType := some (.object "java/util/List") }, accessFlags := 9, code := some k13c0 }
/-- java/util/List -/
def k13 : Class := { plain "java/util/List" (some 0) with
  accessFlags := 1537
  interfaces := #[12]
  cf := some (fileOf pool13 8 #[] #[{ accessFlags := 9, nameIndex := 88, descriptorIndex := 119, attributes := #[] }] 1537 103 #[120] #[])
  fields := #[]
  methods := #[k13m0]
  instanceTypes := #[]
  staticTypes := #[]
  resolved := Array.replicate 251 none
  statics := none }

def pool14 : Array CpInfo := pool [(1, .methodref 2 3), (0, .class_ 4), (0, .nameAndType 5 6), (0, u "java/util/AbstractCollection"), (0, u "<init>"), (0, u "()V"), (0, .fieldref 8 9), (0, .class_ 10), (0, .nameAndType 11 12), (0, u "java/util/AbstractList"), (0, u "modCount"), (0, u "I"), (64, .class_ 78), (0, u "java/util/AbstractList$Itr"), (3, .class_ 83), (0, u "java/util/AbstractList$ListItr"), (9, .class_ 94), (0, u "java/util/AbstractList$RandomAccessSubList"), (3, .class_ 99), (0, u "java/util/AbstractList$SubList"), (33, .class_ 134), (0, u "java/util/List"), (73, .class_ 209), (0, u "java/util/AbstractList$SubList$1"), (0, .class_ 211), (0, u "java/util/AbstractList$RandomAccessSpliterator")] 6

def k14c0 : Code := { maxStack := 2, maxLocals := 1, code := jdk_39_method_1_code, exceptionTable := #[], attributes := #[] }
def k14m0 : Method := { name := "<init>", desc := "()V", sig := { parameters := [], returnType := none }, accessFlags := 4, code := some k14c0 }
/-- java/util/AbstractList -/
def k14 : Class := { plain "java/util/AbstractList" (some 11) with
  accessFlags := 1057
  interfaces := #[13]
  cf := some (fileOf pool14 8 #[.nestMembers #[93, 98, 208, 210, 82, 77]] #[{ accessFlags := 4, nameIndex := 5, descriptorIndex := 6, attributes := #[] }] 1057 2 #[133] #[{ accessFlags := 132, nameIndex := 11, descriptorIndex := 12, attributes := #[] }])
  fields := #[{ name := "modCount", type := .int, accessFlags := 132, slot := 0, constantValue := 0 }]
  methods := #[k14m0]
  instanceTypes := #[.int]
  staticTypes := #[]
  resolved := Array.replicate 218 none
  statics := none }

def pool15 : Array CpInfo := pool [(1, .class_ 2), (0, u "java/util/RandomAccess"), (0, .class_ 4), (0, u "java/lang/Object")] 2

/-- java/util/RandomAccess -/
def k15 : Class := { plain "java/util/RandomAccess" (some 0) with
  accessFlags := 1537
  interfaces := #[]
  cf := some (fileOf pool15 1 #[] #[] 1537 3 #[] #[])
  fields := #[]
  methods := #[]
  instanceTypes := #[]
  staticTypes := #[]
  resolved := Array.replicate 7 none
  statics := none }

def pool16 : Array CpInfo := pool [(1, .class_ 2), (0, u "java/lang/Cloneable"), (0, .class_ 4), (0, u "java/lang/Object")] 2

/-- java/lang/Cloneable -/
def k16 : Class := { plain "java/lang/Cloneable" (some 0) with
  accessFlags := 1537
  interfaces := #[]
  cf := some (fileOf pool16 1 #[] #[] 1537 3 #[] #[])
  fields := #[]
  methods := #[]
  instanceTypes := #[]
  staticTypes := #[]
  resolved := Array.replicate 7 none
  statics := none }

def pool17 : Array CpInfo := pool [(1, .methodref 2 3), (0, .class_ 4), (0, .nameAndType 5 6), (0, u "java/util/AbstractList"), (0, u "<init>"), (0, u "()V"), (2, .fieldref 10 11), (0, .class_ 12), (0, .nameAndType 13 14), (0, u "java/util/ArrayList"), (0, u "elementData"), (0, u "[Ljava/lang/Object;"), (2, u "EMPTY_ELEMENTDATA"), (21, .fieldref 10 40), (0, .nameAndType 41 14), (0, u "DEFAULTCAPACITY_EMPTY_ELEMENTDATA"), (8, u "size"), (0, u "I"), (96, .class_ 149), (0, u "java/util/List"), (112, .class_ 263), (0, u "java/util/ArrayList$ListItr"), (3, .class_ 268), (0, u "java/util/ArrayList$Itr"), (7, .class_ 277), (0, u "java/util/ArrayList$SubList"), (12, .class_ 291), (0, u "java/util/ArrayList$ArrayListSpliterator"), (37, .class_ 330), (0, u "java/util/RandomAccess"), (0, .class_ 332), (0, u "java/lang/Cloneable"), (0, .class_ 334), (0, u "java/io/Serializable"), (0, u "serialVersionUID"), (0, u "J"), (3, u "DEFAULT_CAPACITY"), (159, .class_ 501), (0, u "java/util/ArrayList$SubList$2"), (0, .class_ 503), (0, u "java/util/ArrayList$SubList$1")] 5

def k17c0 : Code := { maxStack := 2, maxLocals := 1, code := jdk_38_method_2_code, exceptionTable := #[], attributes := #[] }
def k17m0 : Method := { name := "<init>", desc := "()V", sig := { parameters := [], returnType := none }, accessFlags := 1, code := some k17c0 }
/-- java/util/ArrayList -/
def k17 : Class := { plain "java/util/ArrayList" (some 14) with
  accessFlags := 33
  interfaces := #[13, 15, 16, 2]
  cf := some (fileOf pool17 10 #[.nestMembers #[290, 276, 500, 502, 262, 267]] #[{ accessFlags := 1, nameIndex := 5, descriptorIndex := 6, attributes := #[] }] 33 2 #[148, 329, 331, 333] #[{ accessFlags := 26, nameIndex := 335, descriptorIndex := 336, attributes := #[] }, { accessFlags := 26, nameIndex := 340, descriptorIndex := 51, attributes := #[] }, { accessFlags := 26, nameIndex := 17, descriptorIndex := 14, attributes := #[] }, { accessFlags := 26, nameIndex := 41, descriptorIndex := 14, attributes := #[] }, { accessFlags := 128, nameIndex := 13, descriptorIndex := 14, attributes := #[] }, { accessFlags := 2, nameIndex := 50, descriptorIndex := 51, attributes := #[] }])
  fields := #[{ name := "serialVersionUID", type := .long, accessFlags := 26, slot := 0, constantValue := 0 }, { name := "DEFAULT_CAPACITY", type := .int, accessFlags := 26, slot := 1, constantValue := 0 }, { name := "EMPTY_ELEMENTDATA", type := (.array (.object "java/lang/Object")), accessFlags := 26, slot := 2, constantValue := 0 }, { name := "DEFAULTCAPACITY_EMPTY_ELEMENTDATA", type := (.array (.object "java/lang/Object")), accessFlags := 26, slot := 3, constantValue := 0 }, { name := "elementData", type := (.array (.object "java/lang/Object")), accessFlags := 128, slot := 1, constantValue := 0 }, { name := "size", type := .int, accessFlags := 2, slot := 2, constantValue := 0 }]
  methods := #[k17m0]
  instanceTypes := #[.int, (.array (.object "java/lang/Object")), .int]
  staticTypes := #[.long, .int, (.array (.object "java/lang/Object")), (.array (.object "java/lang/Object"))]
  resolved := Array.replicate 509 none
  statics := some 1 }

def pool18 : Array CpInfo := pool [(1, .methodref 2 3), (0, .class_ 4), (0, .nameAndType 5 6), (0, u "java/lang/Object"), (0, u "<init>"), (0, u "()V"), (0, .class_ 8), (0, u "java/lang/Record")] 13

def k18c0 : Code := { maxStack := 1, maxLocals := 1, code := jdk_30_method_1_code, exceptionTable := #[], attributes := #[] }
def k18m0 : Method := { name := "<init>", desc := "()V", sig := { parameters := [], returnType := none }, accessFlags := 4, code := some k18c0 }
/-- java/lang/Record -/
def k18 : Class := { plain "java/lang/Record" (some 0) with
  accessFlags := 1057
  interfaces := #[]
  cf := some (fileOf pool18 7 #[] #[{ accessFlags := 4, nameIndex := 5, descriptorIndex := 6, attributes := #[] }] 1057 2 #[] #[])
  fields := #[]
  methods := #[k18m0]
  instanceTypes := #[]
  staticTypes := #[]
  resolved := Array.replicate 22 none
  statics := none }

def pool19 : Array CpInfo := pool [(1, .methodref 2 3), (0, .class_ 4), (0, .nameAndType 5 6), (0, u "java/lang/Record"), (0, u "<init>"), (0, u "()V"), (0, .fieldref 8 9), (0, .class_ 10), (0, .nameAndType 11 12), (0, u "com/example/pryority/pryority/Response"), (0, u "status"), (0, u "I"), (0, .fieldref 8 14), (0, .nameAndType 15 16), (0, u "reason"), (0, u "Ljava/lang/String;"), (0, .fieldref 8 18), (0, .nameAndType 19 20), (0, u "fields"), (0, u "Ljava/util/List;"), (0, .fieldref 8 22), (0, .nameAndType 23 24), (0, u "body"), (0, u "[B"), (0, .fieldref 8 26), (0, .nameAndType 27 28), (0, u "truncated"), (0, u "Z"), (0, .methodref 8 30), (0, .nameAndType 5 31), (0, u "(ILjava/lang/String;Ljava/util/List;[BZ)V"), (2, .class_ 35), (0, u "com/example/pryority/pryority/Response$Field"), (10, .class_ 48), (1, u "java/util/List"), (0, u "of"), (2, .class_ 54), (1, u "com/example/pryority/pryority/Response$Body"), (4, u "()Z"), (15, .methodref 8 76), (0, .nameAndType 5 77), (0, u "(ILjava/lang/String;Ljava/util/List;[B)V"), (2, .string 81), (0, u ""), (0, .interfaceMethodref 46 83), (0, .nameAndType 49 84), (0, u "()Ljava/util/List;"), (145, u "NO_ANSWER"), (2, u "OCTET_STREAM"), (0, u "CONTENT_TYPE"), (0, u "CONTENT_LENGTH"), (0, u "LOCATION"), (10, u "()Lcom/example/pryority/pryority/Response;"), (0, u "noAnswer"), (0, u "isAnswer")] 34

def k19c0 : Code := { maxStack := 6, maxLocals := 5, code := prog_9_method_1_code, exceptionTable := #[], attributes := #[] }
def k19m0 : Method := { name := "<init>", desc := "(ILjava/lang/String;Ljava/util/List;[B)V", sig := { parameters := [.int, (.object "java/lang/String"), (.object "java/util/List"), (.array .byte)], returnType := none }, accessFlags := 0, code := some k19c0 }
def k19c1 : Code := { maxStack := 2, maxLocals := 6, code := prog_9_method_2_code, exceptionTable := #[], attributes := #[] }
def k19m1 : Method := { name := "<init>", desc := "(ILjava/lang/String;Ljava/util/List;[BZ)V", sig := { parameters := [.int, (.object "java/lang/String"), (.object "java/util/List"), (.array .byte), .boolean], returnType := none }, accessFlags := 0, code := some k19c1 }
def k19c2 : Code := { maxStack := 6, maxLocals := 0, code := prog_9_method_6_code, exceptionTable := #[], attributes := #[] }
def k19m2 : Method := { name := "noAnswer", desc := "()Lcom/example/pryority/pryority/Response;", sig := { parameters := [], returnType := some (.object "com/example/pryority/pryority/Response") }, accessFlags := 8, code := some k19c2 }
def k19c3 : Code := { maxStack := 1, maxLocals := 1, code := prog_9_method_7_code, exceptionTable := #[], attributes := #[] }
def k19m3 : Method := { name := "isAnswer", desc := "()Z", sig := { parameters := [], returnType := some .boolean }, accessFlags := 0, code := some k19c3 }
/-- com/example/pryority/pryority/Response -/
def k19 : Class := { plain "com/example/pryority/pryority/Response" (some 18) with
  accessFlags := 48
  interfaces := #[]
  cf := some (fileOf pool19 8 #[.nestMembers #[52, 34]] #[{ accessFlags := 0, nameIndex := 5, descriptorIndex := 77, attributes := #[] }, { accessFlags := 0, nameIndex := 5, descriptorIndex := 31, attributes := #[] }, { accessFlags := 8, nameIndex := 248, descriptorIndex := 247, attributes := #[] }, { accessFlags := 0, nameIndex := 249, descriptorIndex := 59, attributes := #[] }] 48 2 #[] #[{ accessFlags := 18, nameIndex := 11, descriptorIndex := 12, attributes := #[] }, { accessFlags := 18, nameIndex := 15, descriptorIndex := 16, attributes := #[] }, { accessFlags := 18, nameIndex := 19, descriptorIndex := 20, attributes := #[] }, { accessFlags := 18, nameIndex := 23, descriptorIndex := 24, attributes := #[] }, { accessFlags := 18, nameIndex := 27, descriptorIndex := 28, attributes := #[] }, { accessFlags := 24, nameIndex := 230, descriptorIndex := 12, attributes := #[] }, { accessFlags := 24, nameIndex := 233, descriptorIndex := 16, attributes := #[] }, { accessFlags := 26, nameIndex := 234, descriptorIndex := 16, attributes := #[] }, { accessFlags := 26, nameIndex := 235, descriptorIndex := 16, attributes := #[] }, { accessFlags := 26, nameIndex := 236, descriptorIndex := 16, attributes := #[] }])
  fields := #[{ name := "status", type := .int, accessFlags := 18, slot := 0, constantValue := 0 }, { name := "reason", type := (.object "java/lang/String"), accessFlags := 18, slot := 1, constantValue := 0 }, { name := "fields", type := (.object "java/util/List"), accessFlags := 18, slot := 2, constantValue := 0 }, { name := "body", type := (.array .byte), accessFlags := 18, slot := 3, constantValue := 0 }, { name := "truncated", type := .boolean, accessFlags := 18, slot := 4, constantValue := 0 }, { name := "NO_ANSWER", type := .int, accessFlags := 24, slot := 0, constantValue := 0 }, { name := "OCTET_STREAM", type := (.object "java/lang/String"), accessFlags := 24, slot := 1, constantValue := 0 }, { name := "CONTENT_TYPE", type := (.object "java/lang/String"), accessFlags := 26, slot := 2, constantValue := 0 }, { name := "CONTENT_LENGTH", type := (.object "java/lang/String"), accessFlags := 26, slot := 3, constantValue := 0 }, { name := "LOCATION", type := (.object "java/lang/String"), accessFlags := 26, slot := 4, constantValue := 0 }]
  methods := #[k19m0, k19m1, k19m2, k19m3]
  instanceTypes := #[.int, (.object "java/lang/String"), (.object "java/util/List"), (.array .byte), .boolean]
  staticTypes := #[.int, (.object "java/lang/String"), (.object "java/lang/String"), (.object "java/lang/String"), (.object "java/lang/String")]
  resolved := Array.replicate 284 none
  statics := none }

def pool20 : Array CpInfo := pool [(2, .class_ 4), (1, u "java/lang/Object"), (0, u "<init>"), (0, u "()V"), (3, .class_ 11), (0, u "java/util/ImmutableCollections$List12"), (0, .class_ 13), (0, u "java/util/ImmutableCollections$ListN"), (3, u "Z"), (29, .class_ 49), (1, u "java/util/ImmutableCollections"), (0, u "$assertionsDisabled"), (5, u "[Ljava/lang/Object;"), (5, u "EMPTY_LIST"), (0, u "Ljava/util/ImmutableCollections$ListN;"), (8, u "EMPTY_LIST_NULLS"), (22, u "SALT32L"), (0, u "J"), (2, u "REVERSE"), (6, u "archivedObjects"), (2, u "EMPTY"), (0, u "Ljava/lang/Object;"), (0, .class_ 112), (0, u "java/util/ImmutableCollections$SetN"), (5, u "EMPTY_SET"), (0, u "Ljava/util/ImmutableCollections$SetN;"), (0, .class_ 121), (0, u "java/util/ImmutableCollections$MapN"), (3, u "EMPTY_MAP"), (0, u "Ljava/util/ImmutableCollections$MapN;"), (4, u "EXPAND_FACTOR"), (0, u "I"), (36, .class_ 170), (0, u "java/util/ImmutableCollections$MapN$MapNIterator"), (0, .class_ 172), (0, u "java/util/ImmutableCollections$MapN$1"), (0, .class_ 174), (0, u "java/util/ImmutableCollections$Map1"), (0, .class_ 176), (0, u "java/util/ImmutableCollections$AbstractImmutableMap"), (0, .class_ 178), (0, u "java/util/ImmutableCollections$SetN$SetNIterator"), (0, .class_ 180), (0, u "java/util/ImmutableCollections$Set12"), (0, .class_ 182), (0, u "java/util/ImmutableCollections$Set12$1"), (0, .class_ 184), (0, u "java/util/ImmutableCollections$AbstractImmutableSet"), (0, .class_ 186), (0, u "java/util/ImmutableCollections$SubList"), (0, .class_ 188), (0, u "java/util/ImmutableCollections$ListItr"), (0, .class_ 190), (0, u "java/util/ImmutableCollections$AbstractImmutableList"), (0, .class_ 192), (0, u "java/util/ImmutableCollections$AbstractImmutableCollection"), (0, .class_ 194), (0, u "java/util/ImmutableCollections$Access"), (0, .class_ 196), (0, u "java/util/ImmutableCollections$Access$1")] 16

def k20m0 : Method := { name := "<init>", desc := "()V", sig := { parameters := [], returnType := none }, accessFlags := 2, code := none }
/-- java/util/ImmutableCollections -/
def k20 : Class := { plain "java/util/ImmutableCollections" (some 0) with
  accessFlags := 32
  interfaces := #[]
  cf := some (fileOf pool20 47 #[.nestMembers #[120, 169, 171, 173, 175, 111, 177, 179, 181, 183, 12, 10, 185, 187, 189, 191, 193, 195]] #[{ accessFlags := 2, nameIndex := 5, descriptorIndex := 6, attributes := #[] }] 32 2 #[] #[{ accessFlags := 26, nameIndex := 95, descriptorIndex := 96, attributes := #[] }, { accessFlags := 26, nameIndex := 99, descriptorIndex := 17, attributes := #[] }, { accessFlags := 10, nameIndex := 106, descriptorIndex := 56, attributes := #[] }, { accessFlags := 26, nameIndex := 109, descriptorIndex := 110, attributes := #[] }, { accessFlags := 24, nameIndex := 62, descriptorIndex := 63, attributes := #[] }, { accessFlags := 24, nameIndex := 72, descriptorIndex := 63, attributes := #[] }, { accessFlags := 24, nameIndex := 118, descriptorIndex := 119, attributes := #[] }, { accessFlags := 24, nameIndex := 125, descriptorIndex := 126, attributes := #[] }, { accessFlags := 24, nameIndex := 131, descriptorIndex := 132, attributes := #[] }, { accessFlags := 4120, nameIndex := 50, descriptorIndex := 17, attributes := #[] }])
  fields := #[{ name := "SALT32L", type := .long, accessFlags := 26, slot := 0, constantValue := 0 }, { name := "REVERSE", type := .boolean, accessFlags := 26, slot := 1, constantValue := 0 }, { name := "archivedObjects", type := (.array (.object "java/lang/Object")), accessFlags := 10, slot := 2, constantValue := 0 }, { name := "EMPTY", type := (.object "java/lang/Object"), accessFlags := 26, slot := 3, constantValue := 0 }, { name := "EMPTY_LIST", type := (.object "java/util/ImmutableCollections$ListN"), accessFlags := 24, slot := 4, constantValue := 0 }, { name := "EMPTY_LIST_NULLS", type := (.object "java/util/ImmutableCollections$ListN"), accessFlags := 24, slot := 5, constantValue := 0 }, { name := "EMPTY_SET", type := (.object "java/util/ImmutableCollections$SetN"), accessFlags := 24, slot := 6, constantValue := 0 }, { name := "EMPTY_MAP", type := (.object "java/util/ImmutableCollections$MapN"), accessFlags := 24, slot := 7, constantValue := 0 }, { name := "EXPAND_FACTOR", type := .int, accessFlags := 24, slot := 8, constantValue := 0 }, { name := "$assertionsDisabled", type := .boolean, accessFlags := 4120, slot := 9, constantValue := 0 }]
  methods := #[k20m0]
  instanceTypes := #[]
  staticTypes := #[.long, .boolean, (.array (.object "java/lang/Object")), (.object "java/lang/Object"), (.object "java/util/ImmutableCollections$ListN"), (.object "java/util/ImmutableCollections$ListN"), (.object "java/util/ImmutableCollections$SetN"), (.object "java/util/ImmutableCollections$MapN"), .int, .boolean]
  resolved := Array.replicate 213 none
  statics := some 2 }

def pool21 : Array CpInfo := pool [(4, .class_ 6), (1, u "java/lang/Object"), (0, u "<init>"), (0, u "()V"), (5, .class_ 16), (1, u "java/lang/StringLatin1"), (104, u "$assertionsDisabled"), (0, u "Z"), (98, .class_ 223), (1, u "java/lang/StringLatin1$LinesSpliterator"), (166, .class_ 391), (0, u "java/lang/StringLatin1$CharsSpliterator")] 3

def k21m0 : Method := { name := "<init>", desc := "()V", sig := { parameters := [], returnType := none }, accessFlags := 0, code := none }
/-- java/lang/StringLatin1 -/
def k21 : Class := { plain "java/lang/StringLatin1" (some 0) with
  accessFlags := 48
  interfaces := #[]
  cf := some (fileOf pool21 14 #[.nestMembers #[390, 221]] #[{ accessFlags := 0, nameIndex := 7, descriptorIndex := 8, attributes := #[] }] 48 4 #[] #[{ accessFlags := 4120, nameIndex := 121, descriptorIndex := 122, attributes := #[] }])
  fields := #[{ name := "$assertionsDisabled", type := .boolean, accessFlags := 4120, slot := 0, constantValue := 0 }]
  methods := #[k21m0]
  instanceTypes := #[]
  staticTypes := #[.boolean]
  resolved := Array.replicate 395 none
  statics := none }

def pool22 : Array CpInfo := pool [(2, .class_ 4), (1, u "java/lang/Object"), (0, u "<init>"), (0, u "()V"), (17, .class_ 26), (1, u "jdk/internal/util/Preconditions"), (28, .class_ 56), (0, u "jdk/internal/util/Preconditions$4"), (57, .class_ 115), (0, u "jdk/internal/util/Preconditions$1"), (7, u "SIOOBE_FORMATTER"), (0, u "Ljava/util/function/BiFunction;"), (0, .class_ 126), (0, u "jdk/internal/util/Preconditions$2"), (3, u "AIOOBE_FORMATTER"), (0, .class_ 132), (0, u "jdk/internal/util/Preconditions$3"), (3, u "IOOBE_FORMATTER")] 57

def k22m0 : Method := { name := "<init>", desc := "()V", sig := { parameters := [], returnType := none }, accessFlags := 1, code := none }
/-- jdk/internal/util/Preconditions -/
def k22 : Class := { plain "jdk/internal/util/Preconditions" (some 0) with
  accessFlags := 33
  interfaces := #[]
  cf := some (fileOf pool22 24 #[.nestMembers #[55, 131, 125, 114]] #[{ accessFlags := 1, nameIndex := 5, descriptorIndex := 6, attributes := #[] }] 33 2 #[] #[{ accessFlags := 25, nameIndex := 123, descriptorIndex := 124, attributes := #[] }, { accessFlags := 25, nameIndex := 130, descriptorIndex := 124, attributes := #[] }, { accessFlags := 25, nameIndex := 136, descriptorIndex := 124, attributes := #[] }])
  fields := #[{ name := "SIOOBE_FORMATTER", type := (.object "java/util/function/BiFunction"), accessFlags := 25, slot := 0, constantValue := 0 }, { name := "AIOOBE_FORMATTER", type := (.object "java/util/function/BiFunction"), accessFlags := 25, slot := 1, constantValue := 0 }, { name := "IOOBE_FORMATTER", type := (.object "java/util/function/BiFunction"), accessFlags := 25, slot := 2, constantValue := 0 }]
  methods := #[k22m0]
  instanceTypes := #[]
  staticTypes := #[(.object "java/util/function/BiFunction"), (.object "java/util/function/BiFunction"), (.object "java/util/function/BiFunction")]
  resolved := Array.replicate 194 none
  statics := some 3 }

def pool23 : Array CpInfo := pool [(9, u "<init>"), (6, .class_ 18), (1, u "java/lang/Object"), (0, u "()V"), (1, .class_ 23), (1, u "jdk/internal/util/ArraysSupport"), (0, u "LOG2_ARRAY_LONG_INDEX_SCALE"), (0, u "I"), (2, u "U"), (0, u "Ljdk/internal/misc/Unsafe;"), (8, u "BIG_ENDIAN"), (0, u "Z"), (8, u "LOG2_BYTE_BIT_SIZE"), (4, u "LOG2_ARRAY_INT_INDEX_SCALE"), (54, u "JLA"), (0, u "Ljdk/internal/access/JavaLangAccess;"), (11, u "LOG2_ARRAY_BOOLEAN_INDEX_SCALE"), (9, u "LOG2_ARRAY_BYTE_INDEX_SCALE"), (5, u "LOG2_ARRAY_CHAR_INDEX_SCALE"), (5, u "LOG2_ARRAY_SHORT_INDEX_SCALE"), (18, u "LOG2_ARRAY_FLOAT_INDEX_SCALE"), (24, u "LOG2_ARRAY_DOUBLE_INDEX_SCALE"), (89, u "T_BOOLEAN"), (2, u "T_CHAR"), (1, u "T_FLOAT"), (1, u "T_DOUBLE"), (1, u "T_BYTE"), (1, u "T_SHORT"), (1, u "T_INT"), (1, u "T_LONG"), (1, u "SOFT_MAX_ARRAY_LENGTH")] 83

def k23m0 : Method := { name := "<init>", desc := "()V", sig := { parameters := [], returnType := none }, accessFlags := 2, code := none }
/-- jdk/internal/util/ArraysSupport -/
def k23 : Class := { plain "jdk/internal/util/ArraysSupport" (some 0) with
  accessFlags := 33
  interfaces := #[]
  cf := some (fileOf pool23 21 #[] #[{ accessFlags := 2, nameIndex := 9, descriptorIndex := 19, attributes := #[] }] 33 16 #[] #[{ accessFlags := 24, nameIndex := 28, descriptorIndex := 29, attributes := #[] }, { accessFlags := 26, nameIndex := 38, descriptorIndex := 39, attributes := #[] }, { accessFlags := 25, nameIndex := 121, descriptorIndex := 25, attributes := #[] }, { accessFlags := 25, nameIndex := 131, descriptorIndex := 25, attributes := #[] }, { accessFlags := 25, nameIndex := 137, descriptorIndex := 25, attributes := #[] }, { accessFlags := 25, nameIndex := 143, descriptorIndex := 25, attributes := #[] }, { accessFlags := 25, nameIndex := 53, descriptorIndex := 25, attributes := #[] }, { accessFlags := 25, nameIndex := 24, descriptorIndex := 25, attributes := #[] }, { accessFlags := 25, nameIndex := 162, descriptorIndex := 25, attributes := #[] }, { accessFlags := 25, nameIndex := 187, descriptorIndex := 25, attributes := #[] }, { accessFlags := 26, nameIndex := 48, descriptorIndex := 25, attributes := #[] }, { accessFlags := 25, nameIndex := 277, descriptorIndex := 25, attributes := #[] }, { accessFlags := 25, nameIndex := 280, descriptorIndex := 25, attributes := #[] }, { accessFlags := 25, nameIndex := 282, descriptorIndex := 25, attributes := #[] }, { accessFlags := 25, nameIndex := 284, descriptorIndex := 25, attributes := #[] }, { accessFlags := 25, nameIndex := 286, descriptorIndex := 25, attributes := #[] }, { accessFlags := 25, nameIndex := 288, descriptorIndex := 25, attributes := #[] }, { accessFlags := 25, nameIndex := 290, descriptorIndex := 25, attributes := #[] }, { accessFlags := 25, nameIndex := 292, descriptorIndex := 25, attributes := #[] }, { accessFlags := 26, nameIndex := 108, descriptorIndex := 109, attributes := #[] }, { accessFlags := 25, nameIndex := 294, descriptorIndex := 25, attributes := #[] }])
  fields := #[{ name := "U", type := (.object "jdk/internal/misc/Unsafe"), accessFlags := 24, slot := 0, constantValue := 0 }, { name := "BIG_ENDIAN", type := .boolean, accessFlags := 26, slot := 1, constantValue := 0 }, { name := "LOG2_ARRAY_BOOLEAN_INDEX_SCALE", type := .int, accessFlags := 25, slot := 2, constantValue := 0 }, { name := "LOG2_ARRAY_BYTE_INDEX_SCALE", type := .int, accessFlags := 25, slot := 3, constantValue := 0 }, { name := "LOG2_ARRAY_CHAR_INDEX_SCALE", type := .int, accessFlags := 25, slot := 4, constantValue := 0 }, { name := "LOG2_ARRAY_SHORT_INDEX_SCALE", type := .int, accessFlags := 25, slot := 5, constantValue := 0 }, { name := "LOG2_ARRAY_INT_INDEX_SCALE", type := .int, accessFlags := 25, slot := 6, constantValue := 0 }, { name := "LOG2_ARRAY_LONG_INDEX_SCALE", type := .int, accessFlags := 25, slot := 7, constantValue := 0 }, { name := "LOG2_ARRAY_FLOAT_INDEX_SCALE", type := .int, accessFlags := 25, slot := 8, constantValue := 0 }, { name := "LOG2_ARRAY_DOUBLE_INDEX_SCALE", type := .int, accessFlags := 25, slot := 9, constantValue := 0 }, { name := "LOG2_BYTE_BIT_SIZE", type := .int, accessFlags := 26, slot := 10, constantValue := 0 }, { name := "T_BOOLEAN", type := .int, accessFlags := 25, slot := 11, constantValue := 0 }, { name := "T_CHAR", type := .int, accessFlags := 25, slot := 12, constantValue := 0 }, { name := "T_FLOAT", type := .int, accessFlags := 25, slot := 13, constantValue := 0 }, { name := "T_DOUBLE", type := .int, accessFlags := 25, slot := 14, constantValue := 0 }, { name := "T_BYTE", type := .int, accessFlags := 25, slot := 15, constantValue := 0 }, { name := "T_SHORT", type := .int, accessFlags := 25, slot := 16, constantValue := 0 }, { name := "T_INT", type := .int, accessFlags := 25, slot := 17, constantValue := 0 }, { name := "T_LONG", type := .int, accessFlags := 25, slot := 18, constantValue := 0 }, { name := "JLA", type := (.object "jdk/internal/access/JavaLangAccess"), accessFlags := 26, slot := 19, constantValue := 0 }, { name := "SOFT_MAX_ARRAY_LENGTH", type := .int, accessFlags := 25, slot := 20, constantValue := 0 }]
  methods := #[k23m0]
  instanceTypes := #[]
  staticTypes := #[(.object "jdk/internal/misc/Unsafe"), .boolean, .int, .int, .int, .int, .int, .int, .int, .int, .int, .int, .int, .int, .int, .int, .int, .int, .int, (.object "jdk/internal/access/JavaLangAccess"), .int]
  resolved := Array.replicate 378 none
  statics := none }

def pool24 : Array CpInfo := pool [(2, .class_ 4), (1, u "java/util/AbstractCollection"), (0, u "<init>"), (0, u "()V"), (1, .class_ 10), (1, u "java/util/ImmutableCollections"), (2, .class_ 14), (0, u "java/util/ImmutableCollections$AbstractImmutableCollection")] 41

def k24m0 : Method := { name := "<init>", desc := "()V", sig := { parameters := [], returnType := none }, accessFlags := 0, code := none }
/-- java/util/ImmutableCollections$AbstractImmutableCollection -/
def k24 : Class := { plain "java/util/ImmutableCollections$AbstractImmutableCollection" (some 11) with
  accessFlags := 1056
  interfaces := #[]
  cf := some (fileOf pool24 13 #[.nestHost 8] #[{ accessFlags := 0, nameIndex := 5, descriptorIndex := 6, attributes := #[] }] 1056 2 #[] #[])
  fields := #[]
  methods := #[k24m0]
  instanceTypes := #[]
  staticTypes := #[]
  resolved := Array.replicate 56 none
  statics := none }

def pool25 : Array CpInfo := pool [(2, .class_ 4), (1, u "java/util/ImmutableCollections$AbstractImmutableCollection"), (0, u "<init>"), (0, u "()V"), (1, .class_ 10), (1, u "java/util/ImmutableCollections"), (3, .class_ 16), (1, u "java/util/ImmutableCollections$AbstractImmutableList"), (60, .class_ 78), (0, u "java/util/List"), (45, .class_ 125), (0, u "java/util/RandomAccess")] 70

def k25m0 : Method := { name := "<init>", desc := "()V", sig := { parameters := [], returnType := none }, accessFlags := 0, code := none }
/-- java/util/ImmutableCollections$AbstractImmutableList -/
def k25 : Class := { plain "java/util/ImmutableCollections$AbstractImmutableList" (some 24) with
  accessFlags := 1056
  interfaces := #[13, 15]
  cf := some (fileOf pool25 14 #[.nestHost 8] #[{ accessFlags := 0, nameIndex := 5, descriptorIndex := 6, attributes := #[] }] 1056 2 #[77, 124] #[])
  fields := #[]
  methods := #[k25m0]
  instanceTypes := #[]
  staticTypes := #[]
  resolved := Array.replicate 196 none
  statics := none }

def pool26 : Array CpInfo := pool [(2, .class_ 4), (1, u "java/util/ImmutableCollections$AbstractImmutableList"), (3, .class_ 10), (1, u "java/util/ImmutableCollections$ListN"), (0, u "elements"), (0, u "[Ljava/lang/Object;"), (2, u "allowNulls"), (0, u "Z"), (42, .class_ 60), (0, u "java/io/Serializable"), (53, .class_ 115), (0, u "java/util/ImmutableCollections")] 3

/-- java/util/ImmutableCollections$ListN -/
def k26 : Class := { plain "java/util/ImmutableCollections$ListN" (some 25) with
  accessFlags := 48
  interfaces := #[2]
  cf := some (fileOf pool26 8 #[.nestHost 114] #[] 48 2 #[59] #[{ accessFlags := 18, nameIndex := 11, descriptorIndex := 12, attributes := #[] }, { accessFlags := 18, nameIndex := 15, descriptorIndex := 16, attributes := #[] }])
  fields := #[{ name := "elements", type := (.array (.object "java/lang/Object")), accessFlags := 18, slot := 0, constantValue := 0 }, { name := "allowNulls", type := .boolean, accessFlags := 18, slot := 1, constantValue := 0 }]
  methods := #[]
  instanceTypes := #[(.array (.object "java/lang/Object")), .boolean]
  staticTypes := #[]
  resolved := Array.replicate 119 none
  statics := none }

/-- the primitive byte -/
def k27 : Class := { plain "byte" none with kind := .primitive 'B', accessFlags := 0x411 }
/-- [B -/
def k28 : Class := { plain "[B" (some 0) with kind := .array 27 .byte, interfaces := #[16, 2], accessFlags := 1041 }

/-- the primitive char -/
def k29 : Class := { plain "char" none with kind := .primitive 'C', accessFlags := 0x411 }
/-- [C -/
def k30 : Class := { plain "[C" (some 0) with kind := .array 29 .char, interfaces := #[16, 2], accessFlags := 1041 }

/-- the primitive int -/
def k31 : Class := { plain "int" none with kind := .primitive 'I', accessFlags := 0x411 }
/-- [I -/
def k32 : Class := { plain "[I" (some 0) with kind := .array 31 .int, interfaces := #[16, 2], accessFlags := 1041 }

/-- [Ljava/lang/Object; -/
def k33 : Class := { plain "[Ljava/lang/Object;" (some 0) with kind := .array 0 (.object "java/lang/Object"), interfaces := #[16, 2], accessFlags := 1041 }

def heap : Heap := #[{ cls := 7, slots := #[.long 0, .int 1, .null, .int 0, .null, .int 0, .int 0], vm := .statics 7 },
  { cls := 17, slots := #[.long 0, .int 0, .ref 6, .ref 7], vm := .statics 17 },
  { cls := 20, slots := #[.long 0, .int 0, .null, .null, .ref 5, .null, .null, .null, .int 0, .int 0], vm := .statics 20 },
  { cls := 22, slots := #[.null, .null, .null], vm := .statics 22 },
  { cls := 33, slots := #[], vm := .none },
  { cls := 26, slots := #[.ref 4, .int 0], vm := .none },
  { cls := 33, slots := #[], vm := .none },
  { cls := 33, slots := #[], vm := .none }]
def classes : Array Class := #[k0, k1, k2, k3, k4, k5, k6, k7, k8, k9, k10, k11, k12, k13, k14, k15, k16, k17, k18, k19, k20, k21, k22, k23, k24, k25, k26, k27, k28, k29, k30, k31, k32, k33]
def interned : List (Array UInt16 × Addr) := []
def slotsUsed : Nat := 26
def theMethod : MethodId := ⟨1, 1⟩
def args0 : Array Value := #[.int 200, .int 19, .int 65]
def aboutOver (below : List Frame) : State where
  vm := { classes := classes, interned := interned.toArray }
  heap := heap
  slotsUsed := slotsUsed
  threads := #[{ frames := .invoking theMethod args0 :: below }]
def below0 : List Frame := [.native { method := ⟨0, 0⟩, args := #[] }]
def about1 : State := aboutOver below0
def p0 : Program := .bare "" "" ""
def e0 : Env := launch0.env 0 0 0
theorem w_frames : about1.frames = Frame.invoking theMethod args0 :: below0 := rfl
set_option maxRecDepth 65536 in
theorem w_args : argsFit about1.vm theMethod args0 = true := by decide +kernel
set_option maxRecDepth 65536 in
theorem w_heap : heapFits about1 = true := by decide +kernel
set_option maxRecDepth 65536 in
theorem w_runnable : about1.curStatus? = some .runnable := by decide +kernel
set_option maxRecDepth 65536 in
theorem w_alone : about1.alone = true := by decide +kernel
set_option maxRecDepth 65536 in
theorem w_named : about1.methodNamed? x = some theMethod := by decide +kernel
set_option maxRecDepth 65536 in
theorem w_hears : about1.hears theMethod below0 = true := by decide +kernel
set_option maxRecDepth 65536 in
theorem w_ripe : about1.ripe theMethod args0 below0 = true := by decide +kernel
theorem w_running : about1.status = .running := rfl
set_option maxRecDepth 65536 in
theorem w_room : about1.hasRoom e0.platform room_1 = true :=
  launch0.hasRoom_least _ room_1 (by decide +kernel) (by decide +kernel) (by decide +kernel) (by decide +kernel) (by decide +kernel) (by decide +kernel)
theorem allAtoms_all (ts : List Jvm.Cond) (a : Array Jvm.Value) (st : Jvm.State) : (allAtoms ts).before a st = ts.all (fun c => c.before a st) := by
  induction ts with
  | nil => rfl
  | cons c t ih =>
    show (Jvm.Cond.and c (allAtoms t)).before a st = _
    rw [Jvm.Cond.before_and, ih, List.all_cons]
def words1 : List Jvm.Cond := Jvm.Cond.code x code maxLocals ret :: tables_1
/-- a 'code' word, met by the world's own term for the bytes: nothing is compared byte by byte -/
theorem code_word {y : MethodName} {bytes : ByteArray} {mx : Nat} {rt : Option FieldType} {a : Array Value} {s : State} {m : MethodId} {meth : Method} {c : Code} (h1 : s.methodNamed? y = some m) (h2 : s.vm.method? m = some meth) (h3 : meth.code = some c) (h4 : c.code = bytes)
    (h5 : (c.maxLocals == mx && c.exceptionTable.isEmpty && decide (c.maxStack ≤ mostOperands) && decide (meth.sig.returnType = rt) && !meth.locks && decide (parseMethodDescriptor y.desc = some meth.sig)) = true) : (Jvm.Cond.code y bytes mx rt).before a s = true := by
  simp only [Bool.and_eq_true, beq_iff_eq, Bool.not_eq_true', decide_eq_true_eq] at h5
  obtain ⟨⟨⟨⟨⟨g1, g2⟩, g3⟩, g4⟩, g5⟩, g6⟩ := h5
  simp [Cond.before, Cond.holds, Cond.value, h1, h2, h3, h4, g1, g2, g3, g4, g5, g6]
def isCode : Jvm.Cond → Bool
  | .code _ _ _ _ => true
  | _ => false
theorem all_split {L : List Jvm.Cond} {P : Jvm.Cond → Bool} (h1 : L.all (fun c => isCode c || P c) = true) (h2 : ∀ c ∈ L.filter isCode, P c = true) : L.all P = true := by
  refine List.all_eq_true.mpr fun c hc => ?_
  have h := List.all_eq_true.mp h1 c hc
  rcases Bool.eq_false_or_eq_true (isCode c) with hi | hi
  · exact h2 c (List.mem_filter.mpr ⟨hc, hi⟩)
  · simpa [hi] using h
set_option maxRecDepth 65536 in
theorem w_c0 : (Jvm.Cond.code x code maxLocals ret).before args0 about1 = true := code_word (m := ⟨1, 1⟩) (meth := k1m1) (c := k1c1) (by decide +kernel) rfl rfl rfl (by decide +kernel)
set_option maxRecDepth 65536 in
theorem w_c1 : (Jvm.Cond.code ({ cls := "java/lang/String", name := "<init>", desc := "([C)V" } : Jvm.MethodName) jdk_42_method_3_code (2 : Nat) (Option.none : Option Jvm.ClassFile.FieldType)).before args0 about1 = true := code_word (m := ⟨7, 1⟩) (meth := k7m1) (c := k7c1) (by decide +kernel) rfl rfl rfl (by decide +kernel)
set_option maxRecDepth 65536 in
theorem w_c2 : (Jvm.Cond.code ({ cls := "java/lang/String", name := "<init>", desc := "([CIILjava/lang/Void;)V" } : Jvm.MethodName) jdk_42_method_149_code (6 : Nat) (Option.none : Option Jvm.ClassFile.FieldType)).before args0 about1 = true := code_word (m := ⟨7, 2⟩) (meth := k7m2) (c := k7c2) (by decide +kernel) rfl rfl rfl (by decide +kernel)
set_option maxRecDepth 65536 in
theorem w_c3 : (Jvm.Cond.code ({ cls := "java/lang/Object", name := "<init>", desc := "()V" } : Jvm.MethodName) object_method_1_code (1 : Nat) (Option.none : Option Jvm.ClassFile.FieldType)).before args0 about1 = true := code_word (m := ⟨0, 0⟩) (meth := k0m0) (c := k0c0) (by decide +kernel) rfl rfl rfl (by decide +kernel)
set_option maxRecDepth 65536 in
theorem w_c4 : (Jvm.Cond.code ({ cls := "java/lang/StringUTF16", name := "compress", desc := "([CII)[B" } : Jvm.MethodName) jdk_52_method_16_code (6 : Nat) (Option.some (Jvm.ClassFile.FieldType.array Jvm.ClassFile.FieldType.byte))).before args0 about1 = true := code_word (m := ⟨8, 2⟩) (meth := k8m2) (c := k8c2) (by decide +kernel) rfl rfl rfl (by decide +kernel)
set_option maxRecDepth 65536 in
theorem w_c5 : (Jvm.Cond.code ({ cls := "java/lang/StringUTF16", name := "compress", desc := "([CI[BII)I" } : Jvm.MethodName) jdk_52_method_21_code (7 : Nat) (Option.some Jvm.ClassFile.FieldType.int)).before args0 about1 = true := code_word (m := ⟨8, 3⟩) (meth := k8m3) (c := k8c3) (by decide +kernel) rfl rfl rfl (by decide +kernel)
set_option maxRecDepth 65536 in
theorem w_c6 : (Jvm.Cond.code ({ cls := "java/lang/StringUTF16", name := "coderFromArrayLen", desc := "([BI)B" } : Jvm.MethodName) jdk_52_method_15_code (2 : Nat) (Option.some Jvm.ClassFile.FieldType.byte)).before args0 about1 = true := code_word (m := ⟨8, 1⟩) (meth := k8m1) (c := k8c1) (by decide +kernel) rfl rfl rfl (by decide +kernel)
set_option maxRecDepth 65536 in
theorem w_c7 : (Jvm.Cond.code ({ cls := "java/util/ArrayList", name := "<init>", desc := "()V" } : Jvm.MethodName) jdk_38_method_2_code (1 : Nat) (Option.none : Option Jvm.ClassFile.FieldType)).before args0 about1 = true := code_word (m := ⟨17, 0⟩) (meth := k17m0) (c := k17c0) (by decide +kernel) rfl rfl rfl (by decide +kernel)
set_option maxRecDepth 65536 in
theorem w_c8 : (Jvm.Cond.code ({ cls := "java/util/AbstractList", name := "<init>", desc := "()V" } : Jvm.MethodName) jdk_39_method_1_code (1 : Nat) (Option.none : Option Jvm.ClassFile.FieldType)).before args0 about1 = true := code_word (m := ⟨14, 0⟩) (meth := k14m0) (c := k14c0) (by decide +kernel) rfl rfl rfl (by decide +kernel)
set_option maxRecDepth 65536 in
theorem w_c9 : (Jvm.Cond.code ({ cls := "java/util/AbstractCollection", name := "<init>", desc := "()V" } : Jvm.MethodName) jdk_22_method_1_code (1 : Nat) (Option.none : Option Jvm.ClassFile.FieldType)).before args0 about1 = true := code_word (m := ⟨11, 0⟩) (meth := k11m0) (c := k11c0) (by decide +kernel) rfl rfl rfl (by decide +kernel)
set_option maxRecDepth 65536 in
theorem w_c10 : (Jvm.Cond.code ({ cls := "com/example/pryority/pryority/Response", name := "<init>", desc := "(ILjava/lang/String;Ljava/util/List;[BZ)V" } : Jvm.MethodName) prog_9_method_2_code (6 : Nat) (Option.none : Option Jvm.ClassFile.FieldType)).before args0 about1 = true := code_word (m := ⟨19, 1⟩) (meth := k19m1) (c := k19c1) (by decide +kernel) rfl rfl rfl (by decide +kernel)
set_option maxRecDepth 65536 in
theorem w_c11 : (Jvm.Cond.code ({ cls := "java/lang/Record", name := "<init>", desc := "()V" } : Jvm.MethodName) jdk_30_method_1_code (1 : Nat) (Option.none : Option Jvm.ClassFile.FieldType)).before args0 about1 = true := code_word (m := ⟨18, 0⟩) (meth := k18m0) (c := k18c0) (by decide +kernel) rfl rfl rfl (by decide +kernel)
set_option maxRecDepth 65536 in
theorem w_c12 : (Jvm.Cond.code ({ cls := "com/example/pryority/pryority/Response", name := "isAnswer", desc := "()Z" } : Jvm.MethodName) prog_9_method_7_code (1 : Nat) (Option.some Jvm.ClassFile.FieldType.boolean)).before args0 about1 = true := code_word (m := ⟨19, 3⟩) (meth := k19m3) (c := k19c3) (by decide +kernel) rfl rfl rfl (by decide +kernel)
set_option maxRecDepth 65536 in
theorem w_c13 : (Jvm.Cond.code ({ cls := "com/example/pryority/pryority/Response", name := "noAnswer", desc := "()Lcom/example/pryority/pryority/Response;" } : Jvm.MethodName) prog_9_method_6_code (0 : Nat) (Option.some (Jvm.ClassFile.FieldType.object "com/example/pryority/pryority/Response"))).before args0 about1 = true := code_word (m := ⟨19, 2⟩) (meth := k19m2) (c := k19c2) (by decide +kernel) rfl rfl rfl (by decide +kernel)
set_option maxRecDepth 65536 in
theorem w_c14 : (Jvm.Cond.code ({ cls := "java/util/List", name := "of", desc := "()Ljava/util/List;" } : Jvm.MethodName) jdk_40_method_36_code (0 : Nat) (Option.some (Jvm.ClassFile.FieldType.object "java/util/List"))).before args0 about1 = true := code_word (m := ⟨13, 0⟩) (meth := k13m0) (c := k13c0) (by decide +kernel) rfl rfl rfl (by decide +kernel)
set_option maxRecDepth 65536 in
theorem w_c15 : (Jvm.Cond.code ({ cls := "com/example/pryority/pryority/Response", name := "<init>", desc := "(ILjava/lang/String;Ljava/util/List;[B)V" } : Jvm.MethodName) prog_9_method_1_code (5 : Nat) (Option.none : Option Jvm.ClassFile.FieldType)).before args0 about1 = true := code_word (m := ⟨19, 0⟩) (meth := k19m0) (c := k19c0) (by decide +kernel) rfl rfl rfl (by decide +kernel)
def codes1 : List Jvm.Cond := [Jvm.Cond.code x code maxLocals ret, Jvm.Cond.code ({ cls := "java/lang/String", name := "<init>", desc := "([C)V" } : Jvm.MethodName) jdk_42_method_3_code (2 : Nat) (Option.none : Option Jvm.ClassFile.FieldType), Jvm.Cond.code ({ cls := "java/lang/String", name := "<init>", desc := "([CIILjava/lang/Void;)V" } : Jvm.MethodName) jdk_42_method_149_code (6 : Nat) (Option.none : Option Jvm.ClassFile.FieldType), Jvm.Cond.code ({ cls := "java/lang/Object", name := "<init>", desc := "()V" } : Jvm.MethodName) object_method_1_code (1 : Nat) (Option.none : Option Jvm.ClassFile.FieldType), Jvm.Cond.code ({ cls := "java/lang/StringUTF16", name := "compress", desc := "([CII)[B" } : Jvm.MethodName) jdk_52_method_16_code (6 : Nat) (Option.some (Jvm.ClassFile.FieldType.array Jvm.ClassFile.FieldType.byte)), Jvm.Cond.code ({ cls := "java/lang/StringUTF16", name := "compress", desc := "([CI[BII)I" } : Jvm.MethodName) jdk_52_method_21_code (7 : Nat) (Option.some Jvm.ClassFile.FieldType.int), Jvm.Cond.code ({ cls := "java/lang/StringUTF16", name := "coderFromArrayLen", desc := "([BI)B" } : Jvm.MethodName) jdk_52_method_15_code (2 : Nat) (Option.some Jvm.ClassFile.FieldType.byte), Jvm.Cond.code ({ cls := "java/util/ArrayList", name := "<init>", desc := "()V" } : Jvm.MethodName) jdk_38_method_2_code (1 : Nat) (Option.none : Option Jvm.ClassFile.FieldType), Jvm.Cond.code ({ cls := "java/util/AbstractList", name := "<init>", desc := "()V" } : Jvm.MethodName) jdk_39_method_1_code (1 : Nat) (Option.none : Option Jvm.ClassFile.FieldType), Jvm.Cond.code ({ cls := "java/util/AbstractCollection", name := "<init>", desc := "()V" } : Jvm.MethodName) jdk_22_method_1_code (1 : Nat) (Option.none : Option Jvm.ClassFile.FieldType), Jvm.Cond.code ({ cls := "com/example/pryority/pryority/Response", name := "<init>", desc := "(ILjava/lang/String;Ljava/util/List;[BZ)V" } : Jvm.MethodName) prog_9_method_2_code (6 : Nat) (Option.none : Option Jvm.ClassFile.FieldType), Jvm.Cond.code ({ cls := "java/lang/Record", name := "<init>", desc := "()V" } : Jvm.MethodName) jdk_30_method_1_code (1 : Nat) (Option.none : Option Jvm.ClassFile.FieldType), Jvm.Cond.code ({ cls := "com/example/pryority/pryority/Response", name := "isAnswer", desc := "()Z" } : Jvm.MethodName) prog_9_method_7_code (1 : Nat) (Option.some Jvm.ClassFile.FieldType.boolean), Jvm.Cond.code ({ cls := "com/example/pryority/pryority/Response", name := "noAnswer", desc := "()Lcom/example/pryority/pryority/Response;" } : Jvm.MethodName) prog_9_method_6_code (0 : Nat) (Option.some (Jvm.ClassFile.FieldType.object "com/example/pryority/pryority/Response")), Jvm.Cond.code ({ cls := "java/util/List", name := "of", desc := "()Ljava/util/List;" } : Jvm.MethodName) jdk_40_method_36_code (0 : Nat) (Option.some (Jvm.ClassFile.FieldType.object "java/util/List")), Jvm.Cond.code ({ cls := "com/example/pryority/pryority/Response", name := "<init>", desc := "(ILjava/lang/String;Ljava/util/List;[B)V" } : Jvm.MethodName) prog_9_method_1_code (5 : Nat) (Option.none : Option Jvm.ClassFile.FieldType)]
set_option maxRecDepth 65536 in
theorem codes_eq : words1.filter isCode = codes1 := rfl
theorem w_codes : ∀ c ∈ words1.filter isCode, c.before args0 about1 = true := by
  rw [codes_eq]
  intro c hc
  simp only [codes1, List.mem_cons, List.not_mem_nil, or_false] at hc
  rcases hc with rfl | rfl | rfl | rfl | rfl | rfl | rfl | rfl | rfl | rfl | rfl | rfl | rfl | rfl | rfl | rfl
  · exact w_c0
  · exact w_c1
  · exact w_c2
  · exact w_c3
  · exact w_c4
  · exact w_c5
  · exact w_c6
  · exact w_c7
  · exact w_c8
  · exact w_c9
  · exact w_c10
  · exact w_c11
  · exact w_c12
  · exact w_c13
  · exact w_c14
  · exact w_c15
set_option maxRecDepth 65536 in
theorem w_t1 : (words1.take 24).all (fun c => isCode c || c.before args0 about1) = true := by decide +kernel
set_option maxRecDepth 65536 in
theorem w_t2 : ((words1.drop 24).take 24).all (fun c => isCode c || c.before args0 about1) = true := by decide +kernel
set_option maxRecDepth 65536 in
theorem w_t3 : (((words1.drop 24).drop 24).take 24).all (fun c => isCode c || c.before args0 about1) = true := by decide +kernel
set_option maxRecDepth 65536 in
theorem w_t4 : ((((words1.drop 24).drop 24).drop 24).take 24).all (fun c => isCode c || c.before args0 about1) = true := by decide +kernel
set_option maxRecDepth 65536 in
theorem w_t5 : ((((words1.drop 24).drop 24).drop 24).drop 24).all (fun c => isCode c || c.before args0 about1) = true := by decide +kernel
theorem w_tables : (allAtoms (Jvm.Cond.code x code maxLocals ret :: tables_1)).before args0 about1 = true := by
  rw [allAtoms_all]
  show words1.all (fun c => c.before args0 about1) = true
  refine all_split ?_ w_codes
  rw [← List.take_append_drop 24 words1, List.all_append, w_t1, ← List.take_append_drop 24 (words1.drop 24), List.all_append, w_t2, ← List.take_append_drop 24 ((words1.drop 24).drop 24), List.all_append, w_t3, ← List.take_append_drop 24 (((words1.drop 24).drop 24).drop 24), List.all_append, w_t4, w_t5]
  rfl
set_option maxRecDepth 65536 in
theorem w_rest : rest_1_c.before args0 about1 = true := by decide +kernel
set_option maxRecDepth 65536 in
theorem w_case : (Jvm.Cond.and given_1 narrow_1).before args0 about1 = true := by decide +kernel
set_option maxRecDepth 65536 in
theorem w_consts : constsHeld consts_1 about1 := Jvm.Lit.constsHeldB_iff.mp (by decide +kernel)
theorem w_applies : (headSpec (Jvm.Cond.code x code maxLocals ret :: tables_1) room_1).applies x e0.platform about1 = true :=
  (Spec.applies_iff w_frames).mpr ⟨w_running, w_runnable, w_alone, w_named, w_hears, w_ripe, w_room, w_tables⟩
theorem atStart : AtStart classFile x code maxLocals ret World_1 tables_1 room_1 Calls_1 rest_1 Pre_1 launch0 p0 e0 about1 theMethod args0 below0 :=
  ⟨lists_1, trivial, launch0.admits_env _ _ _, launch0.least_env, fairChoices_fair.cas, fairChoices_fair.clock, w_frames, w_args, w_heap, w_applies, ⟨w_consts, trivial⟩, w_rest, w_case⟩
end start1
theorem witness_1 : WitnessClaimed_1 := ⟨start1.p0, start1.e0, start1.about1, start1.theMethod, start1.args0, start1.below0, start1.atStart⟩
end Jvm.Pilot.@@N@@
