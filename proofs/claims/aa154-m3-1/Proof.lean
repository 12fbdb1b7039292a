import JvmDerived
import JvmDerived.Pilot.@@N@@Statement
import JvmDerived.Pilot.@@N@@Code
set_option linter.unusedVariables false
set_option linter.unusedSimpArgs false
namespace Jvm.Pilot.@@N@@
open Jvm Jvm.ClassFile Sem Op Lib Jvm.Free Jvm.Stand Jvm.LawKit Jvm.RoadKit Bundle Jvm.Pilot.@@N@@.Jvm.D
/-- the run from S ends as G says -/
def own_Fin (p : Program) (e : Env) (below : List Frame) (G : Outcome → State → Prop) (S : State) : Prop :=
  ∃ t o, Steps p.tables e below S t ∧ t.status = .running ∧ Ended t below o ∧ G o t
theorem own_go {p : Program} {e : Env} {below : List Frame} {G : Outcome → State → Prop} {S S' : State} (h : Steps p.tables e below S S') (k : own_Fin p e below G S') : own_Fin p e below G S := by
  obtain ⟨t, o, h1, h2, h3, h4⟩ := k
  exact ⟨t, o, h.trans h1, h2, h3, h4⟩
theorem own_by {p : Program} {e : Env} {below : List Frame} {G : Outcome → State → Prop} {S S' : State} (h : ∀ t, Steps p.tables e below S' t → Steps p.tables e below S t) (k : own_Fin p e below G S') : own_Fin p e below G S := by
  obtain ⟨t, o, h1, h2, h3, h4⟩ := k
  exact ⟨t, o, h t h1, h2, h3, h4⟩
theorem own_done {p : Program} {e : Env} {below : List Frame} {G : Outcome → State → Prop} {S t : State} {o : Outcome} (h1 : Steps p.tables e below S t) (h2 : t.status = .running) (h3 : Ended t below o) (h4 : G o t) : own_Fin p e below G S := ⟨t, o, h1, h2, h3, h4⟩
def own_get (rs : List Int32) (j : Int32) : Int32 := rs.getD j.toNatClampNeg 0
theorem own_getD (rs : List Int32) (j : Int32) : (rs.map Value.int).getD j.toNatClampNeg (.int (0 : Int32)) = .int (own_get rs j) := by
  unfold own_get
  rw [List.getD_eq_getElem?_getD, List.getD_eq_getElem?_getD, List.getElem?_map]
  cases rs[j.toNatClampNeg]? <;> rfl
theorem own_retI {p : Program} {l : Launch} {e : Env} {R : Room} {s : State} {m : MethodId} {args : Array Value} {below : List Frame} {meth : Method} {c : Code} {T : State} {locs : List Loc} {cells slots : Nat} (X : Stand p l e R s m args below meth c T locs cells slots) (hx : p.tables.exec = Jvm.exec) {pc : Nat} {Ls : Array Slot} {z : Int32} {rest : List Value} (hret : meth.sig.returnType = some .int) (hd : decode c.code pc = .ok (.ireturn, 1)) {fs : List Frame}
    (hl : ∀ (f : JFrame) (acts : List Action), f.method = m → f.locked = none → f.entered = [] → (doReturn e (T.setTop f) acts (some (.int z))).1 = T.setFrames fs) : Steps p.tables e below (T.setTop (mkF m pc Ls (.int z :: rest))) (T.setFrames fs) :=
  retOut X hx hret rfl (Or.inl ⟨rfl, Or.inl rfl, z, rfl⟩) hd hl
section OwnK
open Jvm.Free.SB Jvm.Free.SBG
variable {p : Program} {l : Launch} {e : Env} {R : Room} {s : State} {m : MethodId} {args : Array Value} {below : List Frame} {meth : Method} {c : Code} {T : State} {locs : List Loc} {cells slots : Nat} {Z : State} {a0 : Array Value} {h h' : Heap} {vm0 vm1 : Vm}
/-- the constant "" of String's own: either nothing has been interned since the case's start, or the entry is resolved and its String is an ordinary one -/
def own_K (Z : State) (h : Heap) (vm : Vm) : Prop := IB Z vm [] ∨ ∃ a b : Addr, Lit (Z.setVm vm) "java/lang/String" 7 a ∧ Exa Z h a "java/lang/String" ∧ Fld Z h a "java/lang/String" "coder" "B" (.int (0 : Int32)) ∧ Fld Z h a "java/lang/String" "value" "[B" (.ref b)
theorem own_K.warm (K : own_K Z h vm0) (W : (s.setVm vm0).WarmedH vm1) : own_K Z h vm1 := by
  rcases K with ⟨more, e, hm⟩ | ⟨a, b, L, r⟩
  · exact Or.inl ⟨more, (show vm1.interned = _ from W.interned_eq.trans e), hm⟩
  · exact Or.inr ⟨a, b, (Lit.stays (s := s) (show Lit (s.setVm vm0) _ _ _ from L) W.wide : Lit (s.setVm vm1) "java/lang/String" 7 a), r⟩
theorem own_K.keep (K : own_K Z h vm0) (Kp : Keep h h' []) : own_K Z h' vm0 := by
  rcases K with q | ⟨a, b, L, r1, r2, r3⟩
  · exact Or.inl q
  · exact Or.inr ⟨a, b, L, r1.keep Kp, r2.keep Kp (by simp), r3.keep Kp (by simp)⟩
theorem own_ldcK (X : Stand p l e R (s.setVm vm0) m args below meth c T [] cells slots) (hx : p.tables.exec = Jvm.exec) (hZ : Z.Warmed39 vm0) (hown : vm0.findClass "java/lang/String" = some m.cls) (w : (Jvm.Cond.stringLink "java/lang/String" 7 "").before a0 Z = true) (wS : ∀ a ∈ Bundle.stringAtoms, a.before a0 Z = true)
    (eT : T.heap = h) {k0 : Nat} (hS : s.Since vm0 k0) (hk : k0 ≤ h.size) (hkeep : ∀ (b : Addr) (cl : Cell), Z.heap[b]? = some cl → s.heap[b]? = some cl) (K : own_K Z h vm0) (hh : Jvm.Lit.constHeld Z "java/lang/String" 7) (hcw : Jvm.Lit.compactW.before a0 Z = true)
    {g : JFrame} (hg : g.method = m) (hd : decode c.code g.pc = .ok (.ldc 7, 2)) (hc : cells + 2 ≤ R.cells) (hl' : slots + 4 ≤ R.slots) :
    ∃ (a : Addr) (T' : State) (h' : Heap) (k1 : Nat) (b : Addr) (vm1 : Vm), Stand p l e R (s.setVm vm1) m args below meth c T' [] (cells + 2) (slots + 4) ∧ T'.heap = h' ∧ Ext h h' ∧ s.Since vm1 k1 ∧ k1 ≤ h'.size ∧ Z.Warmed39 (s.setVm vm1).vm ∧ (s.setVm vm1).vm.findClass "java/lang/String" = some m.cls ∧
      Exa Z h' a "java/lang/String" ∧ Fld Z h' a "java/lang/String" "coder" "B" (.int (0 : Int32)) ∧ Fld Z h' a "java/lang/String" "value" "[B" (.ref b) ∧ Lit (s.setVm vm1) "java/lang/String" 7 a ∧
      ∀ target, Steps p.tables e below (T'.setTop { g with pc := g.pc + 2, stack := .ref a :: g.stack }) target → Steps p.tables e below (T.setTop g) target := by
  rcases K with I | ⟨a, b, L, r1, r2, r3⟩
  · obtain ⟨a, T', h', k1, b, k, r1, r2, r3, r4, r5, r6, r7, r8, r9, r10, r11, r12, r13, r14, r15, r16⟩ := ldcSVL X hx hZ hown w wS eT hS hk (Fr.nil _) hkeep I (by simp) hh hcw (vs := []) (z := 0) ⟨by decide, by decide⟩ (by decide) (by decide) hg hd (n := 0) (by decide) (by decide) hc hl'
    exact ⟨a, T', h', k1, b, T'.vm, r1, r2, r3, r4, r5, r6, r7, r8, r9, r10, r15, r16⟩
  · exact ⟨a, T, h, k0, b, vm0, X.more (by omega) (by omega), eT, ⟨Nat.le_refl _, fun _ _ q => q⟩, hS, hk, hZ, hown, r1, r2, r3, L, ldcAgain X hx hZ hown w (show Lit (s.setVm vm0) _ _ _ from L) hg hd⟩
theorem own_backK {y : MethodName} {bytes : ByteArray} {maxL : Nat} {ret : Option FieldType} {rm : Room} {len W : Nat} {as' : Array Value} {Q : Option Value → Heap → List Loc → Prop}
    (hM : MetFree l y (head1 [Cond.code y bytes maxL ret] rm) (fun a U => a = as' ∧ (Z.Warmed39 U.vm ∧ own_K Z h U.vm) ∧ U.heap = h) (fun _ _ _ _ _ => True) (fun _ U o U' => ∃ v L, o = .returned v ∧ (Q v U'.heap L ∧ own_K Z U'.heap U'.vm) ∧ ReturnedEndW U o U' L rm.cells rm.slots))
    (hZ : Z.Warmed39 s.vm) (wc : (Cond.code y bytes maxL ret).before a0 Z = true) (wz : (Cond.initialized y.cls).before a0 Z = true) (hf : rm.frames + 1 ≤ R.frames) (hl : W + (maxL + 11) + rm.locals ≤ R.locals) :
    BackS l R p e below s args y len W (fun A a => a = as' ∧ A.U.heap = h ∧ A.cells + rm.cells ≤ R.cells ∧ A.slots + rm.slots ≤ R.slots ∧ own_K Z h A.U.vm)
      (fun A _ v B => ∃ L, (Q v B.U.heap L ∧ own_K Z B.U.heap B.U.vm) ∧ B.locs = A.locs ++ L ∧ B.cells = A.cells + rm.cells ∧ B.slots = A.slots + rm.slots) :=
  BackS.of_freeW (bytes := bytes) (maxL := maxL) (ret := ret) (E := fun _ _ o t L k n => k = rm.cells ∧ n = rm.slots ∧ ∃ v, o = .returned v ∧ Q v t.heap L ∧ own_K Z t.heap t.vm) hM hf hl
    (fun m meth c A a Y hp => have hU : Z.Warmed39 A.U.vm := wtrans hZ Y.warmed
      ⟨by show (Cond.and _ .tt).before a A.U = true; rw [Cond.before_and, mv hU wc]; rfl, mv hU wc, mv hU wz, hp.2.2.1, hp.2.2.2.1⟩)
    (fun m meth c A a g mk Y hp => ⟨hp.1, ⟨wtrans hZ Y.warmed, hp.2.2.2.2⟩, hp.2.1⟩) (fun _ _ _ _ _ _ _ _ _ => trivial)
    (fun _ _ _ _ ⟨v, L, h1, h2, h3⟩ => ⟨L, _, _, h3, rfl, rfl, v, h1, h2⟩)
    (fun m meth c A a g mk v t L k n Y hp _ _ ⟨e1, e2, v', e3, e4⟩ => by cases e3; subst e1 e2; exact ⟨L, e4, rfl, rfl, rfl⟩)
end OwnK
theorem own_and255 (x : Int32) : ∃ k : Fin 256, x &&& (255 : Int32) = Int32.ofNat k.val := by
  have h1 : (x &&& (255 : Int32)).toInt = x.toInt % (2 ^ 8 : Nat) := c_mask x 255 8 (by decide) (by decide)
  generalize x &&& (255 : Int32) = y at h1 ⊢
  refine ⟨⟨y.toNatClampNeg, by unfold Int32.toNatClampNeg; omega⟩, ?_⟩
  apply Int32.toInt_inj.mp
  rw [Int32.toInt_ofNat_of_lt (by unfold Int32.toNatClampNeg; omega)]
  show y.toInt = ((y.toInt.toNat : Nat) : Int)
  omega
theorem own_nc (x : Int32) : nar .char ((x &&& (255 : Int32)).toUInt32.toUInt16.toUInt32.toInt32) = x &&& (255 : Int32) := by
  obtain ⟨k, hk⟩ := own_and255 x
  rw [hk]
  exact (show ∀ k : Fin 256, nar .char ((Int32.ofNat k.val).toUInt32.toUInt16.toUInt32.toInt32) = Int32.ofNat k.val by decide +kernel) k
theorem own_lt (x : Int32) : ¬ (255 : Int32) < x &&& (255 : Int32) := by
  obtain ⟨k, hk⟩ := own_and255 x
  rw [hk]
  exact (show ∀ k : Fin 256, ¬ (255 : Int32) < Int32.ofNat k.val by decide +kernel) k
theorem d9_0 : decode jdk_52_method_21_code 0 = .ok (.iconst 0, 1) := by decide +kernel
theorem d9_1 : decode jdk_52_method_21_code 1 = .ok (.istore 5, 2) := by decide +kernel
theorem d9_3 : decode jdk_52_method_21_code 3 = .ok (.iload 5, 2) := by decide +kernel
theorem d9_5 : decode jdk_52_method_21_code 5 = .ok (.iload 4, 2) := by decide +kernel
theorem d9_7 : decode jdk_52_method_21_code 7 = .ok (.if_icmp .ge 37, 3) := by decide +kernel
theorem d9_10 : decode jdk_52_method_21_code 10 = .ok (.aload_n 0, 1) := by decide +kernel
theorem d9_11 : decode jdk_52_method_21_code 11 = .ok (.iload_n 1, 1) := by decide +kernel
theorem d9_12 : decode jdk_52_method_21_code 12 = .ok (.caload, 1) := by decide +kernel
theorem d9_13 : decode jdk_52_method_21_code 13 = .ok (.istore 6, 2) := by decide +kernel
theorem d9_15 : decode jdk_52_method_21_code 15 = .ok (.iload 6, 2) := by decide +kernel
theorem d9_17 : decode jdk_52_method_21_code 17 = .ok (.sipush 255, 3) := by decide +kernel
theorem d9_20 : decode jdk_52_method_21_code 20 = .ok (.if_icmp .le 6, 3) := by decide +kernel
theorem d9_23 : decode jdk_52_method_21_code 23 = .ok (.iload 5, 2) := by decide +kernel
theorem d9_25 : decode jdk_52_method_21_code 25 = .ok (.ireturn, 1) := by decide +kernel
theorem d9_26 : decode jdk_52_method_21_code 26 = .ok (.aload_n 2, 1) := by decide +kernel
theorem d9_27 : decode jdk_52_method_21_code 27 = .ok (.iload_n 3, 1) := by decide +kernel
theorem d9_28 : decode jdk_52_method_21_code 28 = .ok (.iload 6, 2) := by decide +kernel
theorem d9_30 : decode jdk_52_method_21_code 30 = .ok (.i2b, 1) := by decide +kernel
theorem d9_31 : decode jdk_52_method_21_code 31 = .ok (.bastore, 1) := by decide +kernel
theorem d9_32 : decode jdk_52_method_21_code 32 = .ok (.iinc 1 1, 3) := by decide +kernel
theorem d9_35 : decode jdk_52_method_21_code 35 = .ok (.iinc 3 1, 3) := by decide +kernel
theorem d9_38 : decode jdk_52_method_21_code 38 = .ok (.iinc 5 1, 3) := by decide +kernel
theorem d9_41 : decode jdk_52_method_21_code 41 = .ok (.goto (-38), 3) := by decide +kernel
theorem d9_44 : decode jdk_52_method_21_code 44 = .ok (.iload 4, 2) := by decide +kernel
theorem d9_46 : decode jdk_52_method_21_code 46 = .ok (.ireturn, 1) := by decide +kernel
theorem pn_java_lang_StringUTF16 : plainName "java/lang/StringUTF16" = true := by first | (simp [plainName, overriddenIn]; done) | decide +kernel
theorem ef_cm_1 (m : MethodId) (x0 : Addr) (x1 : Int32) (x2 : Addr) (x3 : Int32) (x4 : Int32) : entryFrame m #[(.ref x0), (.int x1), (.ref x2), (.int x3), (.int x4)] 7 = mkF m 0 #[.val (.ref x0), .val (.int x1), .val (.ref x2), .val (.int x3), .val (.int x4), .unset, .unset] [] := by first | (simp [entryFrame, mkF, argsToLocals, Value.category]; done) | rfl
def Qcm_1 (Z : State) (a1 : Addr) (k : ClassId) (c0 : Int32) (a3 : Addr) (kb : ClassId) (h0 : Heap) (n0 : Nat) (v : Option Value) (h : Heap) (L : List Loc) : Prop := v = some (.int (1 : Int32)) ∧ Fr n0 L ∧ Keep h0 h [a3] ∧ Arv Z h a3 kb .byte (1 : Int32) [(.int (nar .byte (c0.toInt8.toInt32)))] (.int (0 : Int32))
abbrev Gcm_1 (Z : State) (a1 : Addr) (k : ClassId) (c0 : Int32) (a3 : Addr) (kb : ClassId) (h0 : Heap) (n0 : Nat) (s : State) : Outcome → State → Prop := fun o U' => ∃ v L, o = .returned v ∧ Qcm_1 Z a1 k c0 a3 kb h0 n0 v U'.heap L ∧ FrameEnd s o U' L ({ frames := 0, cells := 0, slots := 0, locals := 0 } : Room).cells ({ frames := 0, cells := 0, slots := 0, locals := 0 } : Room).slots
set_option maxRecDepth 65536 in
set_option maxHeartbeats 40000000 in
theorem rmcm_1 (l : Launch) (Z : State) (a0 : Array Value) (hw : ∀ d ∈ tables_1, d.before a0 Z = true) (ws : List Jvm.Cond) (a1 : Addr) (k : ClassId) (c0 : Int32) (a3 : Addr) (kb : ClassId) (h0 : Heap) (n0 : Nat) (Z0 : n0 ≤ h0.size) (V_a1 : Arv Z h0 a1 k .char (1 : Int32) [(.int c0)] (.int (0 : Int32))) (V_a3 : Arv Z h0 a3 kb .byte (1 : Int32) [(.int (0 : Int32))] (.int (0 : Int32))) (g_a3 : n0 ≤ a3) (ne13 : a1 ≠ a3) (hc0 : ¬ (255 : Int32) < c0) :
    MetFree l (⟨"java/lang/StringUTF16", "compress", "([CI[BII)I"⟩ : MethodName) (head1 (Jvm.Cond.code (⟨"java/lang/StringUTF16", "compress", "([CI[BII)I"⟩ : MethodName) jdk_52_method_21_code 7 (some .int) :: ws) ({ frames := 0, cells := 0, slots := 0, locals := 0 } : Room)) (fun a U => a = #[(.ref a1), (.int (0 : Int32)), (.ref a3), (.int (0 : Int32)), (.int (1 : Int32))] ∧ Z.Warmed39 U.vm ∧ U.heap = h0) (fun _ _ _ _ _ => True) (fun _ U o U' => ∃ v L, o = .returned v ∧ Qcm_1 Z a1 k c0 a3 kb h0 n0 v U'.heap L ∧ FrameEnd U o U' L ({ frames := 0, cells := 0, slots := 0, locals := 0 } : Room).cells ({ frames := 0, cells := 0, slots := 0, locals := 0 } : Room).slots) := by
  refine MetFree.of_bodySF (plainFor_of_name pn_java_lang_StringUTF16) hisR ?_
  intro p e s m args below meth c s₁ Bd hml0 hP hK
  obtain ⟨rfl, hZ, hh⟩ := hP
  have hx := Bd.exec
  have hby := Bd.bytes
  have hml : c.maxLocals = 7 := hml0
  have hown : s.vm.findClass "java/lang/StringUTF16" = some m.cls := findClass_of_methodNamed Bd.named
  have hnm := (name_of_methodNamed Bd.named Bd.method).1
  have X0 : Stand p l e ({ frames := 0, cells := 0, slots := 0, locals := 0 } : Room) s m #[(.ref a1), (.int (0 : Int32)), (.ref a3), (.int (0 : Int32)), (.int (1 : Int32))] below meth c s₁ [] 0 0 := Stand.of_body Bd
  have e0 : s₁.heap = h0 := by rw [← hh, Bd.state]; rfl
  have es0 : s.heap = h0 := hh
  have N0 := Fr.nil n0
  show own_Fin p e below (Gcm_1 Z a1 k c0 a3 kb h0 n0 s) (s₁.setTop (entryFrame m #[(.ref a1), (.int (0 : Int32)), (.ref a3), (.int (0 : Int32)), (.int (1 : Int32))] 7))
  rw [ef_cm_1 m a1 (0 : Int32) a3 (0 : Int32) (1 : Int32)]
  have Kz := Keep.refl h0 [a3]
  refine own_go (XS.iconst X0.here hx rfl (hb hby d9_0) (Steps.refl _)) ?_
  show own_Fin _ _ _ _ (s₁.setTop (mkF m 1 #[rv a1, iv (0 : Int32), rv a3, iv (0 : Int32), iv (1 : Int32), .unset, .unset] [(.int (0 : Int32))]))
  refine own_go (XS.istore X0.here hx rfl (hb hby d9_1) rfl rfl (Steps.refl _)) ?_
  show own_Fin _ _ _ _ (s₁.setTop (mkF m 3 #[rv a1, iv (0 : Int32), rv a3, iv (0 : Int32), iv (1 : Int32), iv (0 : Int32), .unset] []))
  refine own_go (XS.iload X0.here hx rfl (hb hby d9_3) rfl (Steps.refl _)) ?_
  show own_Fin _ _ _ _ (s₁.setTop (mkF m 5 #[rv a1, iv (0 : Int32), rv a3, iv (0 : Int32), iv (1 : Int32), iv (0 : Int32), .unset] [(.int (0 : Int32))]))
  refine own_go (XS.iload X0.here hx rfl (hb hby d9_5) rfl (Steps.refl _)) ?_
  show own_Fin _ _ _ _ (s₁.setTop (mkF m 7 #[rv a1, iv (0 : Int32), rv a3, iv (0 : Int32), iv (1 : Int32), iv (0 : Int32), .unset] [(.int (1 : Int32)), (.int (0 : Int32))]))
  refine own_go (XS.icmpNo X0.here hx rfl (hb hby d9_7) rfl (tlt (by decide : (0 : Int32) < (1 : Int32))).2.1 (Steps.refl _)) ?_
  show own_Fin _ _ _ _ (s₁.setTop (mkF m 10 #[rv a1, iv (0 : Int32), rv a3, iv (0 : Int32), iv (1 : Int32), iv (0 : Int32), .unset] []))
  refine own_go (XS.aloadN X0.here hx rfl (hb hby d9_10) rfl rfl (Steps.refl _)) ?_
  show own_Fin _ _ _ _ (s₁.setTop (mkF m 11 #[rv a1, iv (0 : Int32), rv a3, iv (0 : Int32), iv (1 : Int32), iv (0 : Int32), .unset] [(.ref a1)]))
  refine own_go (XS.iloadN X0.here hx rfl (hb hby d9_11) rfl (Steps.refl _)) ?_
  show own_Fin _ _ _ _ (s₁.setTop (mkF m 12 #[rv a1, iv (0 : Int32), rv a3, iv (0 : Int32), iv (1 : Int32), iv (0 : Int32), .unset] [(.int (0 : Int32)), (.ref a1)]))
  obtain ⟨cl1, Ar1, qa1, Sa1, Na1, Ha1, Ga1⟩ := id V_a1
  have hin1 : ¬ ((0 : Int32) < 0 ∨ cl1.slots.size ≤ ((0 : Int32)).toNatClampNeg) := inb_of Sa1 ⟨by decide, by decide⟩
  have hat1 : cl1.slots[((0 : Int32)).toNatClampNeg]? = some (.int c0) := Has.at Ha1 hin1 rfl
  refine own_by (X0.caload hx (j := (0 : Int32)) (v := (.int c0)) (by rw [e0]; exact Ar1.1) (State.isArrayOf_alike hZ.alike Ar1.2.1) Ar1.2.2 hin1 hat1 (g := (mkF m 12 #[rv a1, iv (0 : Int32), rv a3, iv (0 : Int32), iv (1 : Int32), iv (0 : Int32), .unset] [(.int (0 : Int32)), (.ref a1)])) rfl rfl (hb hby d9_12)) ?_
  show own_Fin _ _ _ _ (s₁.setTop (mkF m 13 #[rv a1, iv (0 : Int32), rv a3, iv (0 : Int32), iv (1 : Int32), iv (0 : Int32), .unset] [(.int c0)]))
  refine own_go (XS.istore X0.here hx rfl (hb hby d9_13) rfl rfl (Steps.refl _)) ?_
  show own_Fin _ _ _ _ (s₁.setTop (mkF m 15 #[rv a1, iv (0 : Int32), rv a3, iv (0 : Int32), iv (1 : Int32), iv (0 : Int32), iv c0] []))
  refine own_go (XS.iload X0.here hx rfl (hb hby d9_15) rfl (Steps.refl _)) ?_
  show own_Fin _ _ _ _ (s₁.setTop (mkF m 17 #[rv a1, iv (0 : Int32), rv a3, iv (0 : Int32), iv (1 : Int32), iv (0 : Int32), iv c0] [(.int c0)]))
  refine own_go (XS.sipush X0.here hx rfl (hb hby d9_17) (Steps.refl _)) ?_
  show own_Fin _ _ _ _ (s₁.setTop (mkF m 20 #[rv a1, iv (0 : Int32), rv a3, iv (0 : Int32), iv (1 : Int32), iv (0 : Int32), iv c0] [(.int (255 : Int32)), (.int c0)]))
  refine own_go (XS.icmpYes X0.here hx rfl (pc0 := 20) (pc' := 26) rfl (hb hby d9_20) rfl (flt (show ¬ ((255 : Int32) < c0) from hc0)).2.2.2 (by decide) (by decide) (Steps.refl _)) ?_
  show own_Fin _ _ _ _ (s₁.setTop (mkF m 26 #[rv a1, iv (0 : Int32), rv a3, iv (0 : Int32), iv (1 : Int32), iv (0 : Int32), iv c0] []))
  refine own_go (XS.aloadN X0.here hx rfl (hb hby d9_26) rfl rfl (Steps.refl _)) ?_
  show own_Fin _ _ _ _ (s₁.setTop (mkF m 27 #[rv a1, iv (0 : Int32), rv a3, iv (0 : Int32), iv (1 : Int32), iv (0 : Int32), iv c0] [(.ref a3)]))
  refine own_go (XS.iloadN X0.here hx rfl (hb hby d9_27) rfl (Steps.refl _)) ?_
  show own_Fin _ _ _ _ (s₁.setTop (mkF m 28 #[rv a1, iv (0 : Int32), rv a3, iv (0 : Int32), iv (1 : Int32), iv (0 : Int32), iv c0] [(.int (0 : Int32)), (.ref a3)]))
  refine own_go (XS.iload X0.here hx rfl (hb hby d9_28) rfl (Steps.refl _)) ?_
  show own_Fin _ _ _ _ (s₁.setTop (mkF m 30 #[rv a1, iv (0 : Int32), rv a3, iv (0 : Int32), iv (1 : Int32), iv (0 : Int32), iv c0] [(.int c0), (.int (0 : Int32)), (.ref a3)]))
  refine own_go (XS.i2b X0.here hx rfl (hb hby d9_30) rfl (Steps.refl _)) ?_
  show own_Fin _ _ _ _ (s₁.setTop (mkF m 31 #[rv a1, iv (0 : Int32), rv a3, iv (0 : Int32), iv (1 : Int32), iv (0 : Int32), iv c0] [(.int (c0.toInt8.toInt32)), (.int (0 : Int32)), (.ref a3)]))
  obtain ⟨cl2, Ar2, qa2, Sa2, Na2, Ha2, Ga2⟩ := id V_a3
  have hin2 : ¬ ((0 : Int32) < 0 ∨ cl2.slots.size ≤ ((0 : Int32)).toNatClampNeg) := inb_of Sa2 ⟨by decide, by decide⟩
  obtain ⟨T3, h3, X3, e3, W3, st3⟩ := stB X0 hx hZ e0 Ar2 (j := (0 : Int32)) hin2 (g := (mkF m 31 #[rv a1, iv (0 : Int32), rv a3, iv (0 : Int32), iv (1 : Int32), iv (0 : Int32), iv c0] [(.int (c0.toInt8.toInt32)), (.int (0 : Int32)), (.ref a3)])) rfl rfl (hb hby d9_31)
  refine own_by st3 ?_
  have V_a3_3 : Arv Z h3 a3 kb .byte (1 : Int32) [(.int (nar .byte (c0.toInt8.toInt32)))] (.int (0 : Int32)) := Arv.set Ar2 qa2 Sa2 Na2 Ha2 Ga2 (fits_nar_byte (c0.toInt8.toInt32)) W3 0 rfl (Nat.le_of_ble_eq_true rfl)
  have V_a1_3 := V_a1.other W3 ne13
  have N3 := Fr.snoc X3 N0 g_a3
  have Z3 : n0 ≤ h3.size := Nat.le_trans Z0 (Keep.of_wr W3).1
  have K3 := Kz.wr W3 (Or.inl (List.mem_of_getElem? (i := 0) rfl))
  show own_Fin _ _ _ _ (T3.setTop (mkF m 32 #[rv a1, iv (0 : Int32), rv a3, iv (0 : Int32), iv (1 : Int32), iv (0 : Int32), iv c0] []))
  refine own_go (XS.iinc X3.here hx rfl (hb hby d9_32) rfl rfl (Steps.refl _)) ?_
  show own_Fin _ _ _ _ (T3.setTop (mkF m 35 #[rv a1, iv (1 : Int32), rv a3, iv (0 : Int32), iv (1 : Int32), iv (0 : Int32), iv c0] []))
  refine own_go (XS.iinc X3.here hx rfl (hb hby d9_35) rfl rfl (Steps.refl _)) ?_
  show own_Fin _ _ _ _ (T3.setTop (mkF m 38 #[rv a1, iv (1 : Int32), rv a3, iv (1 : Int32), iv (1 : Int32), iv (0 : Int32), iv c0] []))
  refine own_go (XS.iinc X3.here hx rfl (hb hby d9_38) rfl rfl (Steps.refl _)) ?_
  show own_Fin _ _ _ _ (T3.setTop (mkF m 41 #[rv a1, iv (1 : Int32), rv a3, iv (1 : Int32), iv (1 : Int32), iv (1 : Int32), iv c0] []))
  refine own_go (XS.goto X3.here hx rfl (pc0 := 41) (pc' := 3) rfl (hb hby d9_41) (by decide) (by decide) (Steps.refl _)) ?_
  show own_Fin _ _ _ _ (T3.setTop (mkF m 3 #[rv a1, iv (1 : Int32), rv a3, iv (1 : Int32), iv (1 : Int32), iv (1 : Int32), iv c0] []))
  refine own_go (XS.iload X3.here hx rfl (hb hby d9_3) rfl (Steps.refl _)) ?_
  show own_Fin _ _ _ _ (T3.setTop (mkF m 5 #[rv a1, iv (1 : Int32), rv a3, iv (1 : Int32), iv (1 : Int32), iv (1 : Int32), iv c0] [(.int (1 : Int32))]))
  refine own_go (XS.iload X3.here hx rfl (hb hby d9_5) rfl (Steps.refl _)) ?_
  show own_Fin _ _ _ _ (T3.setTop (mkF m 7 #[rv a1, iv (1 : Int32), rv a3, iv (1 : Int32), iv (1 : Int32), iv (1 : Int32), iv c0] [(.int (1 : Int32)), (.int (1 : Int32))]))
  refine own_go (XS.icmpYes X3.here hx rfl (pc0 := 7) (pc' := 44) rfl (hb hby d9_7) rfl (flt (by decide : ¬ ((1 : Int32) < (1 : Int32)))).2.1 (by decide) (by decide) (Steps.refl _)) ?_
  show own_Fin _ _ _ _ (T3.setTop (mkF m 44 #[rv a1, iv (1 : Int32), rv a3, iv (1 : Int32), iv (1 : Int32), iv (1 : Int32), iv c0] []))
  refine own_go (XS.iload X3.here hx rfl (hb hby d9_44) rfl (Steps.refl _)) ?_
  show own_Fin _ _ _ _ (T3.setTop (mkF m 46 #[rv a1, iv (1 : Int32), rv a3, iv (1 : Int32), iv (1 : Int32), iv (1 : Int32), iv c0] [(.int (1 : Int32))]))
  obtain ⟨fs4, hr4, hrun4, hended4, hW4, hsame4⟩ := X3.leave (v := some (.int (1 : Int32))) (fun h => by rw [Bd.returns] at h; cases h)
  refine own_done (own_retI X3 hx Bd.returns (hb hby d9_46) hr4) hrun4 hended4 ⟨_, _, rfl, ?_, ⟨_, rfl⟩, hW4, hsame4.mono (by decide) (by decide)⟩
  show Qcm_1 Z a1 k c0 a3 kb h0 n0 _ T3.heap _
  rw [e3]
  exact ⟨rfl, N3, K3, V_a3_3⟩
theorem d8_0 : decode jdk_52_method_16_code 0 = .ok (.iload_n 2, 1) := by decide +kernel
theorem d8_1 : decode jdk_52_method_16_code 1 = .ok (.newarray .byte, 2) := by decide +kernel
theorem d8_3 : decode jdk_52_method_16_code 3 = .ok (.astore_n 3, 1) := by decide +kernel
theorem d8_4 : decode jdk_52_method_16_code 4 = .ok (.aload_n 0, 1) := by decide +kernel
theorem d8_5 : decode jdk_52_method_16_code 5 = .ok (.iload_n 1, 1) := by decide +kernel
theorem d8_6 : decode jdk_52_method_16_code 6 = .ok (.aload_n 3, 1) := by decide +kernel
theorem d8_7 : decode jdk_52_method_16_code 7 = .ok (.iconst 0, 1) := by decide +kernel
theorem d8_8 : decode jdk_52_method_16_code 8 = .ok (.iload_n 2, 1) := by decide +kernel
theorem d8_9 : decode jdk_52_method_16_code 9 = .ok (.invokestatic 115, 3) := by decide +kernel
theorem d8_12 : decode jdk_52_method_16_code 12 = .ok (.istore 4, 2) := by decide +kernel
theorem d8_14 : decode jdk_52_method_16_code 14 = .ok (.iload 4, 2) := by decide +kernel
theorem d8_16 : decode jdk_52_method_16_code 16 = .ok (.iload_n 2, 1) := by decide +kernel
theorem d8_17 : decode jdk_52_method_16_code 17 = .ok (.if_icmp .eq 40, 3) := by decide +kernel
theorem d8_20 : decode jdk_52_method_16_code 20 = .ok (.aload_n 0, 1) := by decide +kernel
theorem d8_21 : decode jdk_52_method_16_code 21 = .ok (.iload_n 1, 1) := by decide +kernel
theorem d8_22 : decode jdk_52_method_16_code 22 = .ok (.iload_n 2, 1) := by decide +kernel
theorem d8_23 : decode jdk_52_method_16_code 23 = .ok (.invokestatic 119, 3) := by decide +kernel
theorem d8_26 : decode jdk_52_method_16_code 26 = .ok (.astore 5, 2) := by decide +kernel
theorem d8_28 : decode jdk_52_method_16_code 28 = .ok (.aload 5, 2) := by decide +kernel
theorem d8_30 : decode jdk_52_method_16_code 30 = .ok (.iload 4, 2) := by decide +kernel
theorem d8_32 : decode jdk_52_method_16_code 32 = .ok (.invokestatic 71, 3) := by decide +kernel
theorem d8_35 : decode jdk_52_method_16_code 35 = .ok (.sipush 255, 3) := by decide +kernel
theorem d8_38 : decode jdk_52_method_16_code 38 = .ok (.if_icmp .gt 16, 3) := by decide +kernel
theorem d8_41 : decode jdk_52_method_16_code 41 = .ok (.aload 5, 2) := by decide +kernel
theorem d8_43 : decode jdk_52_method_16_code 43 = .ok (.iconst 0, 1) := by decide +kernel
theorem d8_44 : decode jdk_52_method_16_code 44 = .ok (.aload_n 3, 1) := by decide +kernel
theorem d8_45 : decode jdk_52_method_16_code 45 = .ok (.iconst 0, 1) := by decide +kernel
theorem d8_46 : decode jdk_52_method_16_code 46 = .ok (.iload_n 2, 1) := by decide +kernel
theorem d8_47 : decode jdk_52_method_16_code 47 = .ok (.invokestatic 123, 3) := by decide +kernel
theorem d8_50 : decode jdk_52_method_16_code 50 = .ok (.iload_n 2, 1) := by decide +kernel
theorem d8_51 : decode jdk_52_method_16_code 51 = .ok (.if_icmp .eq 6, 3) := by decide +kernel
theorem d8_54 : decode jdk_52_method_16_code 54 = .ok (.aload 5, 2) := by decide +kernel
theorem d8_56 : decode jdk_52_method_16_code 56 = .ok (.areturn, 1) := by decide +kernel
theorem d8_57 : decode jdk_52_method_16_code 57 = .ok (.aload_n 3, 1) := by decide +kernel
theorem d8_58 : decode jdk_52_method_16_code 58 = .ok (.areturn, 1) := by decide +kernel
theorem ef_c3_1 (m : MethodId) (x0 : Addr) (x1 : Int32) (x2 : Int32) : entryFrame m #[(.ref x0), (.int x1), (.int x2)] 6 = mkF m 0 #[.val (.ref x0), .val (.int x1), .val (.int x2), .unset, .unset, .unset] [] := by first | (simp [entryFrame, mkF, argsToLocals, Value.category]; done) | rfl
def Qc3_1 (Z : State) (a1 : Addr) (k : ClassId) (c0 : Int32) (h0 : Heap) (n0 : Nat) (v : Option Value) (h : Heap) (L : List Loc) : Prop := ∃ (b : Addr) (kb : ClassId), v = some (.ref b) ∧ Fr n0 L ∧ Keep h0 h [] ∧ n0 ≤ b ∧ h0.size ≤ b ∧ Arv Z h b kb .byte (1 : Int32) [(.int (nar .byte (c0.toInt8.toInt32)))] (.int (0 : Int32))
abbrev Gc3_1 (Z : State) (a1 : Addr) (k : ClassId) (c0 : Int32) (h0 : Heap) (n0 : Nat) (s : State) : Outcome → State → Prop := fun o U' => ∃ v L, o = .returned v ∧ Qc3_1 Z a1 k c0 h0 n0 v U'.heap L ∧ FrameEnd s o U' L ({ frames := 1, cells := 1, slots := 1, locals := 24 } : Room).cells ({ frames := 1, cells := 1, slots := 1, locals := 24 } : Room).slots
theorem pd__28__5b_CI_5b_BII_29_I : parseMethodDescriptor "([CI[BII)I" = some ⟨[(.array .char), .int, (.array .byte), .int, .int], some .int⟩ := by decide +kernel
set_option maxRecDepth 65536 in
set_option maxHeartbeats 40000000 in
theorem rmc3_1 (l : Launch) (Z : State) (a0 : Array Value) (hw : ∀ d ∈ tables_1, d.before a0 Z = true) (ws : List Jvm.Cond) (a1 : Addr) (k : ClassId) (c0 : Int32) (h0 : Heap) (n0 : Nat) (Z0 : n0 ≤ h0.size) (V_a1 : Arv Z h0 a1 k .char (1 : Int32) [(.int c0)] (.int (0 : Int32))) (hc0 : ¬ (255 : Int32) < c0) :
    MetFree l (⟨"java/lang/StringUTF16", "compress", "([CII)[B"⟩ : MethodName) (head1 (Jvm.Cond.code (⟨"java/lang/StringUTF16", "compress", "([CII)[B"⟩ : MethodName) jdk_52_method_16_code 6 (some (.array .byte)) :: ws) ({ frames := 1, cells := 1, slots := 1, locals := 24 } : Room)) (fun a U => a = #[(.ref a1), (.int (0 : Int32)), (.int (1 : Int32))] ∧ Z.Warmed39 U.vm ∧ U.heap = h0) (fun _ _ _ _ _ => True) (fun _ U o U' => ∃ v L, o = .returned v ∧ Qc3_1 Z a1 k c0 h0 n0 v U'.heap L ∧ FrameEnd U o U' L ({ frames := 1, cells := 1, slots := 1, locals := 24 } : Room).cells ({ frames := 1, cells := 1, slots := 1, locals := 24 } : Room).slots) := by
  refine MetFree.of_bodySF (plainFor_of_name pn_java_lang_StringUTF16) hisR ?_
  intro p e s m args below meth c s₁ Bd hml0 hP hK
  obtain ⟨rfl, hZ, hh⟩ := hP
  have hx := Bd.exec
  have hby := Bd.bytes
  have hml : c.maxLocals = 6 := hml0
  have hown : s.vm.findClass "java/lang/StringUTF16" = some m.cls := findClass_of_methodNamed Bd.named
  have hnm := (name_of_methodNamed Bd.named Bd.method).1
  have X0 : Stand p l e ({ frames := 1, cells := 1, slots := 1, locals := 24 } : Room) s m #[(.ref a1), (.int (0 : Int32)), (.int (1 : Int32))] below meth c s₁ [] 0 0 := Stand.of_body Bd
  have e0 : s₁.heap = h0 := by rw [← hh, Bd.state]; rfl
  have es0 : s.heap = h0 := hh
  have N0 := Fr.nil n0
  show own_Fin p e below (Gc3_1 Z a1 k c0 h0 n0 s) (s₁.setTop (entryFrame m #[(.ref a1), (.int (0 : Int32)), (.int (1 : Int32))] 6))
  rw [ef_c3_1 m a1 (0 : Int32) (1 : Int32)]
  have Kz := Keep.refl h0 []
  refine own_go (XS.iloadN X0.here hx rfl (hb hby d8_0) rfl (Steps.refl _)) ?_
  show own_Fin _ _ _ _ (s₁.setTop (mkF m 1 #[rv a1, iv (0 : Int32), iv (1 : Int32), .unset, .unset, .unset] [(.int (1 : Int32))]))
  obtain ⟨T5, h5, k5, X5, e5, E5, A5, st5⟩ := newP X0 hx hZ (hw _ (List.mem_of_getElem? (i := 19) rfl)) e0 (g := (mkF m 1 #[rv a1, iv (0 : Int32), iv (1 : Int32), .unset, .unset, .unset] [(.int (1 : Int32))])) rfl (hb hby d8_1) rfl (by decide) (cap := 1) (by decide) (by decide) (by decide) (by decide)
  obtain ⟨b5, g5⟩ : ∃ z, z = h0.size := ⟨_, rfl⟩
  rw [← g5] at A5 st5
  refine own_by st5 ?_
  have ne_a1_b5 : a1 ≠ b5 := Nat.ne_of_lt (Nat.lt_of_lt_of_eq V_a1.lt g5.symm)
  have V_a1_5 := V_a1.ext E5
  have g_b5 : n0 ≤ b5 := Nat.le_trans Z0 (Nat.le_of_eq g5.symm)
  have sz_b5 : h0.size ≤ b5 := Nat.le_trans Kz.1 (Nat.le_of_eq g5.symm)
  have K5 := Kz.ext E5
  have Z5 : n0 ≤ h5.size := Nat.le_trans Z0 E5.1
  have V_b5 : Arv Z h5 b5 k5 .byte (1 : Int32) [(.int (0 : Int32))] (.int (0 : Int32)) := (Arv.new A5 (by decide)).pad (pad_rep [] (.int (0 : Int32)) 1)
  show own_Fin _ _ _ _ (T5.setTop (mkF m 3 #[rv a1, iv (0 : Int32), iv (1 : Int32), .unset, .unset, .unset] [(.ref b5)]))
  refine own_go (XS.astoreN X5.here hx rfl (hb hby d8_3) rfl rfl rfl (Steps.refl _)) ?_
  show own_Fin _ _ _ _ (T5.setTop (mkF m 4 #[rv a1, iv (0 : Int32), iv (1 : Int32), rv b5, .unset, .unset] []))
  refine own_go (XS.aloadN X5.here hx rfl (hb hby d8_4) rfl rfl (Steps.refl _)) ?_
  show own_Fin _ _ _ _ (T5.setTop (mkF m 5 #[rv a1, iv (0 : Int32), iv (1 : Int32), rv b5, .unset, .unset] [(.ref a1)]))
  refine own_go (XS.iloadN X5.here hx rfl (hb hby d8_5) rfl (Steps.refl _)) ?_
  show own_Fin _ _ _ _ (T5.setTop (mkF m 6 #[rv a1, iv (0 : Int32), iv (1 : Int32), rv b5, .unset, .unset] [(.int (0 : Int32)), (.ref a1)]))
  refine own_go (XS.aloadN X5.here hx rfl (hb hby d8_6) rfl rfl (Steps.refl _)) ?_
  show own_Fin _ _ _ _ (T5.setTop (mkF m 7 #[rv a1, iv (0 : Int32), iv (1 : Int32), rv b5, .unset, .unset] [(.ref b5), (.int (0 : Int32)), (.ref a1)]))
  refine own_go (XS.iconst X5.here hx rfl (hb hby d8_7) (Steps.refl _)) ?_
  show own_Fin _ _ _ _ (T5.setTop (mkF m 8 #[rv a1, iv (0 : Int32), iv (1 : Int32), rv b5, .unset, .unset] [(.int (0 : Int32)), (.ref b5), (.int (0 : Int32)), (.ref a1)]))
  refine own_go (XS.iloadN X5.here hx rfl (hb hby d8_8) rfl (Steps.refl _)) ?_
  show own_Fin _ _ _ _ (T5.setTop (mkF m 9 #[rv a1, iv (0 : Int32), iv (1 : Int32), rv b5, .unset, .unset] [(.int (1 : Int32)), (.int (0 : Int32)), (.ref b5), (.int (0 : Int32)), (.ref a1)]))
  obtain ⟨_, _, ⟨T6, L6, k6, n6⟩, -, X6, ⟨Lc6, hQ6, l6, y6, z6⟩, st6⟩ := Jvm.LawKit.callS X5 hx (y := (⟨"java/lang/StringUTF16", "compress", "([CI[BII)I"⟩ : MethodName)) hown (mvT hZ (hw _ (List.mem_of_getElem? (i := 56) rfl))) (mvT hZ (hw _ (List.mem_of_getElem? (i := 57) rfl))) (mvT hZ (hw _ (List.mem_of_getElem? (i := 54) rfl))) (mvT hZ (hw _ (List.mem_of_getElem? (i := 58) rfl))) (by decide) (backOf (W := 0) (rmcm_1 l Z a0 hw [] a1 k c0 b5 k5 h5 n0 Z5 V_a1_5 V_b5 g_b5 ne_a1_b5 hc0) hZ (hw _ (List.mem_of_getElem? (i := 58) rfl)) (hw _ (List.mem_of_getElem? (i := 54) rfl)) (by decide) (by decide)) (g := (mkF m 9 #[rv a1, iv (0 : Int32), iv (1 : Int32), rv b5, .unset, .unset] [(.int (1 : Int32)), (.int (0 : Int32)), (.ref b5), (.int (0 : Int32)), (.ref a1)])) rfl (by rw [hml]; rfl) (argsL := [(.ref a1), (.int (0 : Int32)), (.ref b5), (.int (0 : Int32)), (.int (1 : Int32))]) (rest := []) (lenOf pd__28__5b_CI_5b_BII_29_I rfl) rfl (by show 2 * 0 + _ ≤ _; exact Nat.le_of_eq rfl) (hb hby d8_9) (fun _ hv => ⟨rfl, e5, (by decide : 1 + 0 ≤ _), (by decide : 1 + 0 ≤ _)⟩)
  dsimp only [Pt.U, Pt.locs, Pt.cells, Pt.slots] at X6 l6 y6 z6 st6 hQ6
  subst l6 y6 z6
  refine own_by st6 ?_
  obtain ⟨rfl, Nq6, K6, r6_0⟩ := hQ6
  have V_a1_6 := V_a1_5.keep K6 (ninS ne_a1_b5 nin0)
  have Z6 : n0 ≤ T6.heap.size := Nat.le_trans Z5 K6.1
  have Kt6 := K5.trans K6 (allS (P := fun x => x ∈ _ ∨ _ ≤ x) (Or.inr sz_b5) all0)
  have N6 := Fr.app N0 Nq6
  show own_Fin _ _ _ _ (T6.setTop (mkF m 12 #[rv a1, iv (0 : Int32), iv (1 : Int32), rv b5, .unset, .unset] [(.int (1 : Int32))]))
  refine own_go (XS.istore X6.here hx rfl (hb hby d8_12) rfl rfl (Steps.refl _)) ?_
  show own_Fin _ _ _ _ (T6.setTop (mkF m 14 #[rv a1, iv (0 : Int32), iv (1 : Int32), rv b5, iv (1 : Int32), .unset] []))
  refine own_go (XS.iload X6.here hx rfl (hb hby d8_14) rfl (Steps.refl _)) ?_
  show own_Fin _ _ _ _ (T6.setTop (mkF m 16 #[rv a1, iv (0 : Int32), iv (1 : Int32), rv b5, iv (1 : Int32), .unset] [(.int (1 : Int32))]))
  refine own_go (XS.iloadN X6.here hx rfl (hb hby d8_16) rfl (Steps.refl _)) ?_
  show own_Fin _ _ _ _ (T6.setTop (mkF m 17 #[rv a1, iv (0 : Int32), iv (1 : Int32), rv b5, iv (1 : Int32), .unset] [(.int (1 : Int32)), (.int (1 : Int32))]))
  refine own_go (XS.icmpYes X6.here hx rfl (pc0 := 17) (pc' := 57) rfl (hb hby d8_17) rfl (teq (by decide : (1 : Int32) = (1 : Int32))).1 (by decide) (by decide) (Steps.refl _)) ?_
  show own_Fin _ _ _ _ (T6.setTop (mkF m 57 #[rv a1, iv (0 : Int32), iv (1 : Int32), rv b5, iv (1 : Int32), .unset] []))
  refine own_go (XS.aloadN X6.here hx rfl (hb hby d8_57) rfl rfl (Steps.refl _)) ?_
  show own_Fin _ _ _ _ (T6.setTop (mkF m 58 #[rv a1, iv (0 : Int32), iv (1 : Int32), rv b5, iv (1 : Int32), .unset] [(.ref b5)]))
  obtain ⟨fs7, hr7, hrun7, hended7, hW7, hsame7⟩ := X6.leave (v := some (.ref b5)) (fun h => by rw [Bd.returns] at h; cases h)
  refine own_done (retOut X6 hx Bd.returns rfl (Or.inr (Or.inr (Or.inr (Or.inr ⟨rfl, rfl, rfl⟩)))) (hb hby d8_58) hr7) hrun7 hended7 ⟨_, _, rfl, ?_, ⟨_, rfl⟩, hW7, hsame7.mono (by decide) (by decide)⟩
  show Qc3_1 Z a1 k c0 h0 n0 _ T6.heap _
  exact ⟨b5, k5, rfl, N6, Kt6, g_b5, sz_b5, r6_0⟩
theorem d10_0 : decode jdk_52_method_15_code 0 = .ok (.iload_n 1, 1) := by decide +kernel
theorem d10_1 : decode jdk_52_method_15_code 1 = .ok (.aload_n 0, 1) := by decide +kernel
theorem d10_2 : decode jdk_52_method_15_code 2 = .ok (.arraylength, 1) := by decide +kernel
theorem d10_3 : decode jdk_52_method_15_code 3 = .ok (.isub, 1) := by decide +kernel
theorem d10_4 : decode jdk_52_method_15_code 4 = .ok (.bipush 31, 2) := by decide +kernel
theorem d10_6 : decode jdk_52_method_15_code 6 = .ok (.iushr, 1) := by decide +kernel
theorem d10_7 : decode jdk_52_method_15_code 7 = .ok (.i2b, 1) := by decide +kernel
theorem d10_8 : decode jdk_52_method_15_code 8 = .ok (.ireturn, 1) := by decide +kernel
theorem ef_cf_1 (m : MethodId) (x0 : Addr) (x1 : Int32) : entryFrame m #[(.ref x0), (.int x1)] 2 = mkF m 0 #[.val (.ref x0), .val (.int x1)] [] := by first | (simp [entryFrame, mkF, argsToLocals, Value.category]; done) | rfl
def Qcf_1 (Z : State) (a1 : Addr) (k : ClassId) (c0 : Int32) (h0 : Heap) (n0 : Nat) (v : Option Value) (h : Heap) (L : List Loc) : Prop := v = some (.int (0 : Int32)) ∧ Fr n0 L ∧ h = h0
abbrev Gcf_1 (Z : State) (a1 : Addr) (k : ClassId) (c0 : Int32) (h0 : Heap) (n0 : Nat) (s : State) : Outcome → State → Prop := fun o U' => ∃ v L, o = .returned v ∧ Qcf_1 Z a1 k c0 h0 n0 v U'.heap L ∧ FrameEnd s o U' L ({ frames := 0, cells := 0, slots := 0, locals := 0 } : Room).cells ({ frames := 0, cells := 0, slots := 0, locals := 0 } : Room).slots
set_option maxRecDepth 65536 in
set_option maxHeartbeats 40000000 in
theorem rmcf_1 (l : Launch) (Z : State) (a0 : Array Value) (hw : ∀ d ∈ tables_1, d.before a0 Z = true) (ws : List Jvm.Cond) (a1 : Addr) (k : ClassId) (c0 : Int32) (h0 : Heap) (n0 : Nat) (Z0 : n0 ≤ h0.size) (V_a1 : Arv Z h0 a1 k .byte (1 : Int32) [(.int (nar .byte (c0.toInt8.toInt32)))] (.int (0 : Int32))) :
    MetFree l (⟨"java/lang/StringUTF16", "coderFromArrayLen", "([BI)B"⟩ : MethodName) (head1 (Jvm.Cond.code (⟨"java/lang/StringUTF16", "coderFromArrayLen", "([BI)B"⟩ : MethodName) jdk_52_method_15_code 2 (some .byte) :: ws) ({ frames := 0, cells := 0, slots := 0, locals := 0 } : Room)) (fun a U => a = #[(.ref a1), (.int (1 : Int32))] ∧ Z.Warmed39 U.vm ∧ U.heap = h0) (fun _ _ _ _ _ => True) (fun _ U o U' => ∃ v L, o = .returned v ∧ Qcf_1 Z a1 k c0 h0 n0 v U'.heap L ∧ FrameEnd U o U' L ({ frames := 0, cells := 0, slots := 0, locals := 0 } : Room).cells ({ frames := 0, cells := 0, slots := 0, locals := 0 } : Room).slots) := by
  refine MetFree.of_bodySF (plainFor_of_name pn_java_lang_StringUTF16) hisR ?_
  intro p e s m args below meth c s₁ Bd hml0 hP hK
  obtain ⟨rfl, hZ, hh⟩ := hP
  have hx := Bd.exec
  have hby := Bd.bytes
  have hml : c.maxLocals = 2 := hml0
  have hown : s.vm.findClass "java/lang/StringUTF16" = some m.cls := findClass_of_methodNamed Bd.named
  have hnm := (name_of_methodNamed Bd.named Bd.method).1
  have X0 : Stand p l e ({ frames := 0, cells := 0, slots := 0, locals := 0 } : Room) s m #[(.ref a1), (.int (1 : Int32))] below meth c s₁ [] 0 0 := Stand.of_body Bd
  have e0 : s₁.heap = h0 := by rw [← hh, Bd.state]; rfl
  have es0 : s.heap = h0 := hh
  have N0 := Fr.nil n0
  show own_Fin p e below (Gcf_1 Z a1 k c0 h0 n0 s) (s₁.setTop (entryFrame m #[(.ref a1), (.int (1 : Int32))] 2))
  rw [ef_cf_1 m a1 (1 : Int32)]
  refine own_go (XS.iloadN X0.here hx rfl (hb hby d10_0) rfl (Steps.refl _)) ?_
  show own_Fin _ _ _ _ (s₁.setTop (mkF m 1 #[rv a1, iv (1 : Int32)] [(.int (1 : Int32))]))
  refine own_go (XS.aloadN X0.here hx rfl (hb hby d10_1) rfl rfl (Steps.refl _)) ?_
  show own_Fin _ _ _ _ (s₁.setTop (mkF m 2 #[rv a1, iv (1 : Int32)] [(.ref a1), (.int (1 : Int32))]))
  obtain ⟨cl8, Ar8, qa8, Sa8, Na8, Ha8, Ga8⟩ := id V_a1
  refine own_by (X0.arraylength hx (by rw [e0]; exact Ar8.1) (State.isArrayOf_alike hZ.alike Ar8.2.1) (g := (mkF m 2 #[rv a1, iv (1 : Int32)] [(.ref a1), (.int (1 : Int32))])) rfl rfl (hb hby d10_2)) ?_
  rw [len_of Sa8 Na8]
  show own_Fin _ _ _ _ (s₁.setTop (mkF m 3 #[rv a1, iv (1 : Int32)] [(.int (1 : Int32)), (.int (1 : Int32))]))
  refine own_go (XS.isub X0.here hx rfl (hb hby d10_3) rfl (Steps.refl _)) ?_
  show own_Fin _ _ _ _ (s₁.setTop (mkF m 4 #[rv a1, iv (1 : Int32)] [(.int (0 : Int32))]))
  refine own_go (XS.bipush X0.here hx rfl (hb hby d10_4) (Steps.refl _)) ?_
  show own_Fin _ _ _ _ (s₁.setTop (mkF m 6 #[rv a1, iv (1 : Int32)] [(.int (31 : Int32)), (.int (0 : Int32))]))
  refine own_go (XS.iushr X0.here hx rfl (hb hby d10_6) rfl (Steps.refl _)) ?_
  show own_Fin _ _ _ _ (s₁.setTop (mkF m 7 #[rv a1, iv (1 : Int32)] [(.int (((0 : Int32).toUInt32 >>> ((31 : Int32) &&& 31).toUInt32).toInt32))]))
  refine own_go (XS.i2b X0.here hx rfl (hb hby d10_7) rfl (Steps.refl _)) ?_
  show own_Fin _ _ _ _ (s₁.setTop (mkF m 8 #[rv a1, iv (1 : Int32)] [(.int ((((0 : Int32).toUInt32 >>> ((31 : Int32) &&& 31).toUInt32).toInt32).toInt8.toInt32))]))
  obtain ⟨fs9, hr9, hrun9, hended9, hW9, hsame9⟩ := X0.leave (v := some (.int ((((0 : Int32).toUInt32 >>> ((31 : Int32) &&& 31).toUInt32).toInt32).toInt8.toInt32))) (fun h => by rw [Bd.returns] at h; cases h)
  refine own_done (retN X0 hx (t := .byte) Bd.returns (by simp) (hb hby d10_8) hr9) hrun9 hended9 ⟨_, _, rfl, ?_, ⟨_, rfl⟩, hW9, hsame9.mono (by decide) (by decide)⟩
  show Qcf_1 Z a1 k c0 h0 n0 _ s₁.heap _
  rw [e0]
  exact ⟨(by decide), N0, rfl⟩
theorem d3_0 : decode jdk_42_method_149_code 0 = .ok (.aload_n 0, 1) := by decide +kernel
theorem d3_1 : decode jdk_42_method_149_code 1 = .ok (.invokespecial 1, 3) := by decide +kernel
theorem d3_4 : decode jdk_42_method_149_code 4 = .ok (.iload_n 3, 1) := by decide +kernel
theorem d3_5 : decode jdk_42_method_149_code 5 = .ok (.ifCond .ne 22, 3) := by decide +kernel
theorem d3_8 : decode jdk_42_method_149_code 8 = .ok (.aload_n 0, 1) := by decide +kernel
theorem d3_9 : decode jdk_42_method_149_code 9 = .ok (.ldc 7, 2) := by decide +kernel
theorem d3_11 : decode jdk_42_method_149_code 11 = .ok (.getfield 9, 3) := by decide +kernel
theorem d3_14 : decode jdk_42_method_149_code 14 = .ok (.putfield 9, 3) := by decide +kernel
theorem d3_17 : decode jdk_42_method_149_code 17 = .ok (.aload_n 0, 1) := by decide +kernel
theorem d3_18 : decode jdk_42_method_149_code 18 = .ok (.ldc 7, 2) := by decide +kernel
theorem d3_20 : decode jdk_42_method_149_code 20 = .ok (.getfield 15, 3) := by decide +kernel
theorem d3_23 : decode jdk_42_method_149_code 23 = .ok (.putfield 15, 3) := by decide +kernel
theorem d3_26 : decode jdk_42_method_149_code 26 = .ok (.return_, 1) := by decide +kernel
theorem d3_27 : decode jdk_42_method_149_code 27 = .ok (.getstatic 38, 3) := by decide +kernel
theorem d3_30 : decode jdk_42_method_149_code 30 = .ok (.ifCond .eq 28, 3) := by decide +kernel
theorem d3_33 : decode jdk_42_method_149_code 33 = .ok (.aload_n 1, 1) := by decide +kernel
theorem d3_34 : decode jdk_42_method_149_code 34 = .ok (.iload_n 2, 1) := by decide +kernel
theorem d3_35 : decode jdk_42_method_149_code 35 = .ok (.iload_n 3, 1) := by decide +kernel
theorem d3_36 : decode jdk_42_method_149_code 36 = .ok (.invokestatic 177, 3) := by decide +kernel
theorem d3_39 : decode jdk_42_method_149_code 39 = .ok (.astore 5, 2) := by decide +kernel
theorem d3_41 : decode jdk_42_method_149_code 41 = .ok (.aload_n 0, 1) := by decide +kernel
theorem d3_42 : decode jdk_42_method_149_code 42 = .ok (.aload 5, 2) := by decide +kernel
theorem d3_44 : decode jdk_42_method_149_code 44 = .ok (.iload_n 3, 1) := by decide +kernel
theorem d3_45 : decode jdk_42_method_149_code 45 = .ok (.invokestatic 47, 3) := by decide +kernel
theorem d3_48 : decode jdk_42_method_149_code 48 = .ok (.putfield 15, 3) := by decide +kernel
theorem d3_51 : decode jdk_42_method_149_code 51 = .ok (.aload_n 0, 1) := by decide +kernel
theorem d3_52 : decode jdk_42_method_149_code 52 = .ok (.aload 5, 2) := by decide +kernel
theorem d3_54 : decode jdk_42_method_149_code 54 = .ok (.putfield 9, 3) := by decide +kernel
theorem d3_57 : decode jdk_42_method_149_code 57 = .ok (.return_, 1) := by decide +kernel
theorem d3_58 : decode jdk_42_method_149_code 58 = .ok (.aload_n 0, 1) := by decide +kernel
theorem d3_59 : decode jdk_42_method_149_code 59 = .ok (.iconst 1, 1) := by decide +kernel
theorem d3_60 : decode jdk_42_method_149_code 60 = .ok (.putfield 15, 3) := by decide +kernel
theorem d3_63 : decode jdk_42_method_149_code 63 = .ok (.aload_n 0, 1) := by decide +kernel
theorem d3_64 : decode jdk_42_method_149_code 64 = .ok (.aload_n 1, 1) := by decide +kernel
theorem d3_65 : decode jdk_42_method_149_code 65 = .ok (.iload_n 2, 1) := by decide +kernel
theorem d3_66 : decode jdk_42_method_149_code 66 = .ok (.iload_n 3, 1) := by decide +kernel
theorem d3_67 : decode jdk_42_method_149_code 67 = .ok (.invokestatic 180, 3) := by decide +kernel
theorem d3_70 : decode jdk_42_method_149_code 70 = .ok (.putfield 9, 3) := by decide +kernel
theorem d3_73 : decode jdk_42_method_149_code 73 = .ok (.return_, 1) := by decide +kernel
theorem pn_java_lang_String : plainName "java/lang/String" = true := by first | (simp [plainName, overriddenIn]; done) | decide +kernel
theorem ef_i4_1 (m : MethodId) (x0 : Addr) (x1 : Addr) (x2 : Int32) (x3 : Int32) : entryFrame m #[(.ref x0), (.ref x1), (.int x2), (.int x3), .null] 6 = mkF m 0 #[.val (.ref x0), .val (.ref x1), .val (.int x2), .val (.int x3), .val .null, .unset] [] := by first | (simp [entryFrame, mkF, argsToLocals, Value.category]; done) | rfl
def Qi4_1 (Z : State) (a1 : Addr) (a2 : Addr) (k : ClassId) (cs : Int32) (c0 : Int32) (h0 : Heap) (n0 : Nat) (v : Option Value) (h : Heap) (L : List Loc) : Prop := ∃ (b : Addr) (kb : ClassId), v = none ∧ Fr n0 L ∧ Keep h0 h [a1] ∧ n0 ≤ b ∧ h0.size ≤ b ∧ Exa Z h a1 "java/lang/String" ∧ Fld Z h a1 "java/lang/String" "value" "[B" (.ref b) ∧ Fld Z h a1 "java/lang/String" "coder" "B" (.int (0 : Int32)) ∧ Arv Z h b kb .byte (1 : Int32) [(.int (nar .byte (c0.toInt8.toInt32)))] (.int (0 : Int32))
abbrev Gi4_1 (Z : State) (a1 : Addr) (a2 : Addr) (k : ClassId) (cs : Int32) (c0 : Int32) (h0 : Heap) (n0 : Nat) (s : State) : Outcome → State → Prop := fun o U' => ∃ v L, o = .returned v ∧ Qi4_1 Z a1 a2 k cs c0 h0 n0 v U'.heap L ∧ FrameEnd s o U' L ({ frames := 2, cells := 1, slots := 1, locals := 48 } : Room).cells ({ frames := 2, cells := 1, slots := 1, locals := 48 } : Room).slots
theorem pd__28__5b_CII_29__5b_B : parseMethodDescriptor "([CII)[B" = some ⟨[(.array .char), .int, .int], some (.array .byte)⟩ := by decide +kernel
theorem pd__28__5b_BI_29_B : parseMethodDescriptor "([BI)B" = some ⟨[(.array .byte), .int], some .byte⟩ := by decide +kernel
set_option maxRecDepth 65536 in
set_option maxHeartbeats 40000000 in
theorem rmi4_1 (l : Launch) (Z : State) (a0 : Array Value) (hw : ∀ d ∈ tables_1, d.before a0 Z = true) (ws : List Jvm.Cond) (a1 : Addr) (a2 : Addr) (k : ClassId) (cs : Int32) (c0 : Int32) (h0 : Heap) (n0 : Nat) (Z0 : n0 ≤ h0.size) (E_a1 : Exa Z h0 a1 "java/lang/String") (F_value_a1 : Fld Z h0 a1 "java/lang/String" "value" "[B" .null) (F_coder_a1 : Fld Z h0 a1 "java/lang/String" "coder" "B" (.int (0 : Int32))) (g_a1 : n0 ≤ a1) (O0 : Old Z n0 h0) (S_COMPACT_STRINGS : Sta Z Z.heap "java/lang/String" "COMPACT_STRINGS" "Z" (.int cs)) (hcs : ¬ cs = (0 : Int32)) (V_a2 : Arv Z h0 a2 k .char (1 : Int32) [(.int c0)] (.int (0 : Int32))) (hc0 : ¬ (255 : Int32) < c0) :
    MetFree l (⟨"java/lang/String", "<init>", "([CIILjava/lang/Void;)V"⟩ : MethodName) (head1 (Jvm.Cond.code (⟨"java/lang/String", "<init>", "([CIILjava/lang/Void;)V"⟩ : MethodName) jdk_42_method_149_code 6 none :: ws) ({ frames := 2, cells := 1, slots := 1, locals := 48 } : Room)) (fun a U => a = #[(.ref a1), (.ref a2), (.int (0 : Int32)), (.int (1 : Int32)), .null] ∧ Z.Warmed39 U.vm ∧ U.heap = h0) (fun _ _ _ _ _ => True) (fun _ U o U' => ∃ v L, o = .returned v ∧ Qi4_1 Z a1 a2 k cs c0 h0 n0 v U'.heap L ∧ FrameEnd U o U' L ({ frames := 2, cells := 1, slots := 1, locals := 48 } : Room).cells ({ frames := 2, cells := 1, slots := 1, locals := 48 } : Room).slots) := by
  refine MetFree.of_bodySF (plainFor_of_name pn_java_lang_String) hisR ?_
  intro p e s m args below meth c s₁ Bd hml0 hP hK
  obtain ⟨rfl, hZ, hh⟩ := hP
  have hx := Bd.exec
  have hby := Bd.bytes
  have hml : c.maxLocals = 6 := hml0
  have hown : s.vm.findClass "java/lang/String" = some m.cls := findClass_of_methodNamed Bd.named
  have hnm := (name_of_methodNamed Bd.named Bd.method).1
  have X0 : Stand p l e ({ frames := 2, cells := 1, slots := 1, locals := 48 } : Room) s m #[(.ref a1), (.ref a2), (.int (0 : Int32)), (.int (1 : Int32)), .null] below meth c s₁ [] 0 0 := Stand.of_body Bd
  have e0 : s₁.heap = h0 := by rw [← hh, Bd.state]; rfl
  have es0 : s.heap = h0 := hh
  have N0 := Fr.nil n0
  show own_Fin p e below (Gi4_1 Z a1 a2 k cs c0 h0 n0 s) (s₁.setTop (entryFrame m #[(.ref a1), (.ref a2), (.int (0 : Int32)), (.int (1 : Int32)), .null] 6))
  rw [ef_i4_1 m a1 a2 (0 : Int32) (1 : Int32)]
  have Kz := Keep.refl h0 [a1]
  refine own_go (XS.aloadN X0.here hx rfl (hb hby d3_0) rfl rfl (Steps.refl _)) ?_
  show own_Fin _ _ _ _ (s₁.setTop (mkF m 1 #[rv a1, rv a2, iv (0 : Int32), iv (1 : Int32), .val .null, .unset] [(.ref a1)]))
  obtain ⟨T10, X10, e10, st10⟩ := initO X0 hx hZ hown (hw _ (List.mem_of_getElem? (i := 15) rfl)) (hw _ (List.mem_of_getElem? (i := 16) rfl)) (hw _ (List.mem_of_getElem? (i := 17) rfl)) e0 (g := (mkF m 1 #[rv a1, rv a2, iv (0 : Int32), iv (1 : Int32), .val .null, .unset] [(.ref a1)])) rfl (by rw [hml]; rfl) rfl (hb hby d3_1) (by decide) (W := 0) (by show 2 * 0 + _ ≤ _; exact Nat.le_of_eq rfl) (by decide)
  refine own_by st10 ?_
  show own_Fin _ _ _ _ (T10.setTop (mkF m 4 #[rv a1, rv a2, iv (0 : Int32), iv (1 : Int32), .val .null, .unset] []))
  refine own_go (XS.iloadN X10.here hx rfl (hb hby d3_4) rfl (Steps.refl _)) ?_
  show own_Fin _ _ _ _ (T10.setTop (mkF m 5 #[rv a1, rv a2, iv (0 : Int32), iv (1 : Int32), .val .null, .unset] [(.int (1 : Int32))]))
  refine own_go (XS.ifYes X10.here hx rfl (pc0 := 5) (pc' := 27) rfl (hb hby d3_5) rfl ((if0 _ _).trans (feq (by decide : ¬ ((1 : Int32) = (0 : Int32)))).2) (by decide) (by decide) (Steps.refl _)) ?_
  show own_Fin _ _ _ _ (T10.setTop (mkF m 27 #[rv a1, rv a2, iv (0 : Int32), iv (1 : Int32), .val .null, .unset] []))
  obtain ⟨T11, X11, e11, st11⟩ := getS2 X10 hx hZ hown (host := "") (Or.inl (hw _ (List.mem_of_getElem? (i := 51) rfl))) Via.refl e10 (S_COMPACT_STRINGS.ext O0.2) (g := (mkF m 27 #[rv a1, rv a2, iv (0 : Int32), iv (1 : Int32), .val .null, .unset] [])) rfl (hb hby d3_27)
  refine own_by st11 ?_
  show own_Fin _ _ _ _ (T11.setTop (mkF m 30 #[rv a1, rv a2, iv (0 : Int32), iv (1 : Int32), .val .null, .unset] [(.int cs)]))
  refine own_go (XS.ifNo X11.here hx rfl (hb hby d3_30) rfl ((if0 _ _).trans (feq (show ¬ (cs = (0 : Int32)) from hcs)).1) (Steps.refl _)) ?_
  show own_Fin _ _ _ _ (T11.setTop (mkF m 33 #[rv a1, rv a2, iv (0 : Int32), iv (1 : Int32), .val .null, .unset] []))
  refine own_go (XS.aloadN X11.here hx rfl (hb hby d3_33) rfl rfl (Steps.refl _)) ?_
  show own_Fin _ _ _ _ (T11.setTop (mkF m 34 #[rv a1, rv a2, iv (0 : Int32), iv (1 : Int32), .val .null, .unset] [(.ref a2)]))
  refine own_go (XS.iloadN X11.here hx rfl (hb hby d3_34) rfl (Steps.refl _)) ?_
  show own_Fin _ _ _ _ (T11.setTop (mkF m 35 #[rv a1, rv a2, iv (0 : Int32), iv (1 : Int32), .val .null, .unset] [(.int (0 : Int32)), (.ref a2)]))
  refine own_go (XS.iloadN X11.here hx rfl (hb hby d3_35) rfl (Steps.refl _)) ?_
  show own_Fin _ _ _ _ (T11.setTop (mkF m 36 #[rv a1, rv a2, iv (0 : Int32), iv (1 : Int32), .val .null, .unset] [(.int (1 : Int32)), (.int (0 : Int32)), (.ref a2)]))
  obtain ⟨_, _, ⟨T12, L12, k12, n12⟩, -, X12, ⟨Lc12, hQ12, l12, y12, z12⟩, st12⟩ := Jvm.LawKit.callS X11 hx (y := (⟨"java/lang/StringUTF16", "compress", "([CII)[B"⟩ : MethodName)) hown (mvT hZ (hw _ (List.mem_of_getElem? (i := 52) rfl))) (mvT hZ (hw _ (List.mem_of_getElem? (i := 53) rfl))) (mvT hZ (hw _ (List.mem_of_getElem? (i := 54) rfl))) (mvT hZ (hw _ (List.mem_of_getElem? (i := 55) rfl))) (by decide) (backOf (W := 0) (rmc3_1 l Z a0 hw [] a2 k c0 h0 n0 Z0 V_a2 hc0) hZ (hw _ (List.mem_of_getElem? (i := 55) rfl)) (hw _ (List.mem_of_getElem? (i := 54) rfl)) (by decide) (by decide)) (g := (mkF m 36 #[rv a1, rv a2, iv (0 : Int32), iv (1 : Int32), .val .null, .unset] [(.int (1 : Int32)), (.int (0 : Int32)), (.ref a2)])) rfl (by rw [hml]; rfl) (argsL := [(.ref a2), (.int (0 : Int32)), (.int (1 : Int32))]) (rest := []) (lenOf pd__28__5b_CII_29__5b_B rfl) rfl (by show 2 * 0 + _ ≤ _; exact Nat.le_of_eq rfl) (hb hby d3_36) (fun _ hv => ⟨rfl, e11, (by decide : 0 + 1 ≤ _), (by decide : 0 + 1 ≤ _)⟩)
  dsimp only [Pt.U, Pt.locs, Pt.cells, Pt.slots] at X12 l12 y12 z12 st12 hQ12
  subst l12 y12 z12
  refine own_by st12 ?_
  obtain ⟨b_12, kb_12, rfl, Nq12, K12, g_b_12, sb_b_12, r12_0⟩ := hQ12
  have ne_a1_b_12 : a1 ≠ b_12 := Nat.ne_of_lt (Nat.lt_of_lt_of_le E_a1.lt sb_b_12)
  have ne_a2_b_12 : a2 ≠ b_12 := Nat.ne_of_lt (Nat.lt_of_lt_of_le V_a2.lt sb_b_12)
  have sz_b_12 : h0.size ≤ b_12 := Nat.le_trans Kz.1 sb_b_12
  have Od12 := O0.keep K12 all0
  have E_a1_12 := E_a1.keep K12
  have F_value_a1_12 := F_value_a1.keep K12 nin0
  have F_coder_a1_12 := F_coder_a1.keep K12 nin0
  have V_a2_12 := V_a2.keep K12 nin0
  have Z12 : n0 ≤ T12.heap.size := Nat.le_trans Z0 K12.1
  have Kt12 := Kz.trans K12 all0
  have N12 := Fr.app N0 Nq12
  show own_Fin _ _ _ _ (T12.setTop (mkF m 39 #[rv a1, rv a2, iv (0 : Int32), iv (1 : Int32), .val .null, .unset] [(.ref b_12)]))
  refine own_go (XS.astore X12.here hx rfl (hb hby d3_39) rfl rfl rfl (Steps.refl _)) ?_
  show own_Fin _ _ _ _ (T12.setTop (mkF m 41 #[rv a1, rv a2, iv (0 : Int32), iv (1 : Int32), .val .null, rv b_12] []))
  refine own_go (XS.aloadN X12.here hx rfl (hb hby d3_41) rfl rfl (Steps.refl _)) ?_
  show own_Fin _ _ _ _ (T12.setTop (mkF m 42 #[rv a1, rv a2, iv (0 : Int32), iv (1 : Int32), .val .null, rv b_12] [(.ref a1)]))
  refine own_go (XS.aload X12.here hx rfl (hb hby d3_42) rfl rfl (Steps.refl _)) ?_
  show own_Fin _ _ _ _ (T12.setTop (mkF m 44 #[rv a1, rv a2, iv (0 : Int32), iv (1 : Int32), .val .null, rv b_12] [(.ref b_12), (.ref a1)]))
  refine own_go (XS.iloadN X12.here hx rfl (hb hby d3_44) rfl (Steps.refl _)) ?_
  show own_Fin _ _ _ _ (T12.setTop (mkF m 45 #[rv a1, rv a2, iv (0 : Int32), iv (1 : Int32), .val .null, rv b_12] [(.int (1 : Int32)), (.ref b_12), (.ref a1)]))
  obtain ⟨_, _, ⟨T13, L13, k13, n13⟩, -, X13, ⟨Lc13, hQ13, l13, y13, z13⟩, st13⟩ := Jvm.LawKit.callS X12 hx (y := (⟨"java/lang/StringUTF16", "coderFromArrayLen", "([BI)B"⟩ : MethodName)) hown (mvT hZ (hw _ (List.mem_of_getElem? (i := 59) rfl))) (mvT hZ (hw _ (List.mem_of_getElem? (i := 60) rfl))) (mvT hZ (hw _ (List.mem_of_getElem? (i := 54) rfl))) (mvT hZ (hw _ (List.mem_of_getElem? (i := 61) rfl))) (by decide) (backOf (W := 1) (rmcf_1 l Z a0 hw [] b_12 kb_12 c0 T12.heap n0 Z12 r12_0) hZ (hw _ (List.mem_of_getElem? (i := 61) rfl)) (hw _ (List.mem_of_getElem? (i := 54) rfl)) (by decide) (by decide)) (g := (mkF m 45 #[rv a1, rv a2, iv (0 : Int32), iv (1 : Int32), .val .null, rv b_12] [(.int (1 : Int32)), (.ref b_12), (.ref a1)])) rfl (by rw [hml]; rfl) (argsL := [(.ref b_12), (.int (1 : Int32))]) (rest := [(.ref a1)]) (lenOf pd__28__5b_BI_29_B rfl) rfl (by show 2 * 0 + _ ≤ _; exact Nat.le_of_eq rfl) (hb hby d3_45) (fun _ hv => ⟨rfl, rfl, (by decide : 1 + 0 ≤ _), (by decide : 1 + 0 ≤ _)⟩)
  dsimp only [Pt.U, Pt.locs, Pt.cells, Pt.slots] at X13 l13 y13 z13 st13 hQ13
  subst l13 y13 z13
  obtain ⟨rfl, Nq13, e13⟩ := hQ13
  refine own_by st13 ?_
  have N13 := Fr.app N12 Nq13
  show own_Fin _ _ _ _ (T13.setTop (mkF m 48 #[rv a1, rv a2, iv (0 : Int32), iv (1 : Int32), .val .null, rv b_12] [(.int (0 : Int32)), (.ref a1)]))
  obtain ⟨T14, h14, X14, e14, W14, st14⟩ := putFN X13 hx hZ hown (hw _ (List.mem_of_getElem? (i := 25) rfl)) Via.refl e13 F_coder_a1_12 E_a1_12 (Or.inr ⟨(hw _ (List.mem_of_getElem? (i := 21) rfl)), rfl, hnm⟩) (hw _ (List.mem_of_getElem? (i := 5) rfl)) (ty := .byte) (v' := (.int (nar .byte (0 : Int32)))) (by decide) rfl (fits_nar_byte _) (g := (mkF m 48 #[rv a1, rv a2, iv (0 : Int32), iv (1 : Int32), .val .null, rv b_12] [(.int (0 : Int32)), (.ref a1)])) rfl rfl (hb hby d3_48)
  refine own_by st14 ?_
  have F_coder_a1_14 := F_coder_a1_12.same W14
  have Od14 := Od12.wr W14 g_a1
  have E_a1_14 := E_a1_12.wr W14
  have F_value_a1_14 := F_value_a1_12.other W14 (Or.inr (slot_ne (Or.inr (hw _ (List.mem_of_getElem? (i := 20) rfl))) (Or.inr (hw _ (List.mem_of_getElem? (i := 21) rfl))) (by decide) (t := (.array .byte)) (t' := .byte) (by decide) (by decide)))
  have V_a2_14 := V_a2_12.other W14 (Ne.symm (Exa.neArv E_a1_12 V_a2_12 (hw _ (List.mem_of_getElem? (i := 5) rfl))))
  have r12_0_14 := r12_0.other W14 (Ne.symm ne_a1_b_12)
  have N14 := Fr.snoc X14 N13 g_a1
  have Z14 : n0 ≤ h14.size := Nat.le_trans Z12 (Keep.of_wr W14).1
  have K14 := Kt12.wr W14 (Or.inl (List.mem_of_getElem? (i := 0) rfl))
  show own_Fin _ _ _ _ (T14.setTop (mkF m 51 #[rv a1, rv a2, iv (0 : Int32), iv (1 : Int32), .val .null, rv b_12] []))
  refine own_go (XS.aloadN X14.here hx rfl (hb hby d3_51) rfl rfl (Steps.refl _)) ?_
  show own_Fin _ _ _ _ (T14.setTop (mkF m 52 #[rv a1, rv a2, iv (0 : Int32), iv (1 : Int32), .val .null, rv b_12] [(.ref a1)]))
  refine own_go (XS.aload X14.here hx rfl (hb hby d3_52) rfl rfl (Steps.refl _)) ?_
  show own_Fin _ _ _ _ (T14.setTop (mkF m 54 #[rv a1, rv a2, iv (0 : Int32), iv (1 : Int32), .val .null, rv b_12] [(.ref b_12), (.ref a1)]))
  obtain ⟨T15, h15, X15, e15, W15, st15⟩ := putF X14 hx hZ hown (host := "") (Or.inl (hw _ (List.mem_of_getElem? (i := 24) rfl))) Via.refl e14 F_value_a1_14 E_a1_14 (Or.inr ⟨(hw _ (List.mem_of_getElem? (i := 20) rfl)), rfl, hnm⟩) (hw _ (List.mem_of_getElem? (i := 5) rfl)) (ty := (.array .byte)) (by decide) rfl rfl (g := (mkF m 54 #[rv a1, rv a2, iv (0 : Int32), iv (1 : Int32), .val .null, rv b_12] [(.ref b_12), (.ref a1)])) rfl rfl (hb hby d3_54)
  refine own_by st15 ?_
  have F_value_a1_15 := F_value_a1_14.same W15
  have Od15 := Od14.wr W15 g_a1
  have E_a1_15 := E_a1_14.wr W15
  have F_coder_a1_15 := F_coder_a1_14.other W15 (Or.inr (slot_ne (Or.inr (hw _ (List.mem_of_getElem? (i := 21) rfl))) (Or.inr (hw _ (List.mem_of_getElem? (i := 20) rfl))) (by decide) (t := .byte) (t' := (.array .byte)) (by decide) (by decide)))
  have V_a2_15 := V_a2_14.other W15 (Ne.symm (Exa.neArv E_a1_14 V_a2_14 (hw _ (List.mem_of_getElem? (i := 5) rfl))))
  have r12_0_15 := r12_0_14.other W15 (Ne.symm ne_a1_b_12)
  have N15 := Fr.snoc X15 N14 g_a1
  have Z15 : n0 ≤ h15.size := Nat.le_trans Z14 (Keep.of_wr W15).1
  have K15 := K14.wr W15 (Or.inl (List.mem_of_getElem? (i := 0) rfl))
  show own_Fin _ _ _ _ (T15.setTop (mkF m 57 #[rv a1, rv a2, iv (0 : Int32), iv (1 : Int32), .val .null, rv b_12] []))
  obtain ⟨fs16, hr16, hrun16, hended16, hW16, hsame16⟩ := X15.leave (v := none) (fun _ => rfl)
  refine own_done (X15.returnOut hx Bd.returns (hb hby d3_57) hr16) hrun16 hended16 ⟨_, _, rfl, ?_, ⟨_, rfl⟩, hW16, hsame16.mono (by decide) (by decide)⟩
  show Qi4_1 Z a1 a2 k cs c0 h0 n0 _ T15.heap _
  rw [e15]
  exact ⟨b_12, kb_12, rfl, N15, K15, g_b_12, sz_b_12, E_a1_15, F_value_a1_15, F_coder_a1_15, r12_0_15⟩
theorem d2_0 : decode jdk_42_method_3_code 0 = .ok (.aload_n 0, 1) := by decide +kernel
theorem d2_1 : decode jdk_42_method_3_code 1 = .ok (.aload_n 1, 1) := by decide +kernel
theorem d2_2 : decode jdk_42_method_3_code 2 = .ok (.iconst 0, 1) := by decide +kernel
theorem d2_3 : decode jdk_42_method_3_code 3 = .ok (.aload_n 1, 1) := by decide +kernel
theorem d2_4 : decode jdk_42_method_3_code 4 = .ok (.arraylength, 1) := by decide +kernel
theorem d2_5 : decode jdk_42_method_3_code 5 = .ok (.aconst_null, 1) := by decide +kernel
theorem d2_6 : decode jdk_42_method_3_code 6 = .ok (.invokespecial 27, 3) := by decide +kernel
theorem d2_9 : decode jdk_42_method_3_code 9 = .ok (.return_, 1) := by decide +kernel
theorem ef_str_1 (m : MethodId) (x0 : Addr) (x1 : Addr) : entryFrame m #[(.ref x0), (.ref x1)] 2 = mkF m 0 #[.val (.ref x0), .val (.ref x1)] [] := by first | (simp [entryFrame, mkF, argsToLocals, Value.category]; done) | rfl
def Qstr_1 (Z : State) (a1 : Addr) (a2 : Addr) (k : ClassId) (cs : Int32) (c0 : Int32) (h0 : Heap) (n0 : Nat) (v : Option Value) (h : Heap) (L : List Loc) : Prop := ∃ (b : Addr) (kb : ClassId), v = none ∧ Fr n0 L ∧ Keep h0 h [a1] ∧ n0 ≤ b ∧ h0.size ≤ b ∧ Exa Z h a1 "java/lang/String" ∧ Fld Z h a1 "java/lang/String" "value" "[B" (.ref b) ∧ Fld Z h a1 "java/lang/String" "coder" "B" (.int (0 : Int32)) ∧ Arv Z h b kb .byte (1 : Int32) [(.int (nar .byte (c0.toInt8.toInt32)))] (.int (0 : Int32))
abbrev Gstr_1 (Z : State) (a1 : Addr) (a2 : Addr) (k : ClassId) (cs : Int32) (c0 : Int32) (h0 : Heap) (n0 : Nat) (s : State) : Outcome → State → Prop := fun o U' => ∃ v L, o = .returned v ∧ Qstr_1 Z a1 a2 k cs c0 h0 n0 v U'.heap L ∧ FrameEnd s o U' L ({ frames := 3, cells := 1, slots := 1, locals := 68 } : Room).cells ({ frames := 3, cells := 1, slots := 1, locals := 68 } : Room).slots
theorem pd__28__5b_CIILjava_2f_lang_2f_Void_3b__29_V : parseMethodDescriptor "([CIILjava/lang/Void;)V" = some ⟨[(.array .char), .int, .int, (.object "java/lang/Void")], none⟩ := by decide +kernel
set_option maxRecDepth 65536 in
set_option maxHeartbeats 40000000 in
theorem rmstr_1 (l : Launch) (Z : State) (a0 : Array Value) (hw : ∀ d ∈ tables_1, d.before a0 Z = true) (ws : List Jvm.Cond) (a1 : Addr) (a2 : Addr) (k : ClassId) (cs : Int32) (c0 : Int32) (h0 : Heap) (n0 : Nat) (Z0 : n0 ≤ h0.size) (E_a1 : Exa Z h0 a1 "java/lang/String") (F_value_a1 : Fld Z h0 a1 "java/lang/String" "value" "[B" .null) (F_coder_a1 : Fld Z h0 a1 "java/lang/String" "coder" "B" (.int (0 : Int32))) (g_a1 : n0 ≤ a1) (O0 : Old Z n0 h0) (S_COMPACT_STRINGS : Sta Z Z.heap "java/lang/String" "COMPACT_STRINGS" "Z" (.int cs)) (hcs : ¬ cs = (0 : Int32)) (V_a2 : Arv Z h0 a2 k .char (1 : Int32) [(.int c0)] (.int (0 : Int32))) (hc0 : ¬ (255 : Int32) < c0) :
    MetFree l (⟨"java/lang/String", "<init>", "([C)V"⟩ : MethodName) (head1 (Jvm.Cond.code (⟨"java/lang/String", "<init>", "([C)V"⟩ : MethodName) jdk_42_method_3_code 2 none :: ws) ({ frames := 3, cells := 1, slots := 1, locals := 68 } : Room)) (fun a U => a = #[(.ref a1), (.ref a2)] ∧ Z.Warmed39 U.vm ∧ U.heap = h0) (fun _ _ _ _ _ => True) (fun _ U o U' => ∃ v L, o = .returned v ∧ Qstr_1 Z a1 a2 k cs c0 h0 n0 v U'.heap L ∧ FrameEnd U o U' L ({ frames := 3, cells := 1, slots := 1, locals := 68 } : Room).cells ({ frames := 3, cells := 1, slots := 1, locals := 68 } : Room).slots) := by
  refine MetFree.of_bodySF (plainFor_of_name pn_java_lang_String) hisR ?_
  intro p e s m args below meth c s₁ Bd hml0 hP hK
  obtain ⟨rfl, hZ, hh⟩ := hP
  have hx := Bd.exec
  have hby := Bd.bytes
  have hml : c.maxLocals = 2 := hml0
  have hown : s.vm.findClass "java/lang/String" = some m.cls := findClass_of_methodNamed Bd.named
  have hnm := (name_of_methodNamed Bd.named Bd.method).1
  have X0 : Stand p l e ({ frames := 3, cells := 1, slots := 1, locals := 68 } : Room) s m #[(.ref a1), (.ref a2)] below meth c s₁ [] 0 0 := Stand.of_body Bd
  have e0 : s₁.heap = h0 := by rw [← hh, Bd.state]; rfl
  have es0 : s.heap = h0 := hh
  have N0 := Fr.nil n0
  show own_Fin p e below (Gstr_1 Z a1 a2 k cs c0 h0 n0 s) (s₁.setTop (entryFrame m #[(.ref a1), (.ref a2)] 2))
  rw [ef_str_1 m a1 a2]
  have Kz := Keep.refl h0 [a1]
  refine own_go (XS.aloadN X0.here hx rfl (hb hby d2_0) rfl rfl (Steps.refl _)) ?_
  show own_Fin _ _ _ _ (s₁.setTop (mkF m 1 #[rv a1, rv a2] [(.ref a1)]))
  refine own_go (XS.aloadN X0.here hx rfl (hb hby d2_1) rfl rfl (Steps.refl _)) ?_
  show own_Fin _ _ _ _ (s₁.setTop (mkF m 2 #[rv a1, rv a2] [(.ref a2), (.ref a1)]))
  refine own_go (XS.iconst X0.here hx rfl (hb hby d2_2) (Steps.refl _)) ?_
  show own_Fin _ _ _ _ (s₁.setTop (mkF m 3 #[rv a1, rv a2] [(.int (0 : Int32)), (.ref a2), (.ref a1)]))
  refine own_go (XS.aloadN X0.here hx rfl (hb hby d2_3) rfl rfl (Steps.refl _)) ?_
  show own_Fin _ _ _ _ (s₁.setTop (mkF m 4 #[rv a1, rv a2] [(.ref a2), (.int (0 : Int32)), (.ref a2), (.ref a1)]))
  obtain ⟨cl17, Ar17, qa17, Sa17, Na17, Ha17, Ga17⟩ := id V_a2
  refine own_by (X0.arraylength hx (by rw [e0]; exact Ar17.1) (State.isArrayOf_alike hZ.alike Ar17.2.1) (g := (mkF m 4 #[rv a1, rv a2] [(.ref a2), (.int (0 : Int32)), (.ref a2), (.ref a1)])) rfl rfl (hb hby d2_4)) ?_
  rw [len_of Sa17 Na17]
  show own_Fin _ _ _ _ (s₁.setTop (mkF m 5 #[rv a1, rv a2] [(.int (1 : Int32)), (.int (0 : Int32)), (.ref a2), (.ref a1)]))
  refine own_go (XS.aconstNull X0.here hx rfl (hb hby d2_5) (Steps.refl _)) ?_
  show own_Fin _ _ _ _ (s₁.setTop (mkF m 6 #[rv a1, rv a2] [.null, (.int (1 : Int32)), (.int (0 : Int32)), (.ref a2), (.ref a1)]))
  obtain ⟨_, _, ⟨T18, L18, k18, n18⟩, -, X18, ⟨Lc18, hQ18, l18, y18, z18⟩, st18⟩ := X0.specialBack hx (y := (⟨"java/lang/String", "<init>", "([CIILjava/lang/Void;)V"⟩ : MethodName)) rfl hown (mvT hZ (hw _ (List.mem_of_getElem? (i := 11) rfl))) (mvT hZ (hw _ (List.mem_of_getElem? (i := 12) rfl))) (mvT hZ (hw _ (List.mem_of_getElem? (i := 14) rfl))) (by decide) (backOf (W := 0) (rmi4_1 l Z a0 hw [] a1 a2 k cs c0 h0 n0 Z0 E_a1 F_value_a1 F_coder_a1 g_a1 O0 S_COMPACT_STRINGS hcs V_a2 hc0) hZ (hw _ (List.mem_of_getElem? (i := 14) rfl)) (hw _ (List.mem_of_getElem? (i := 6) rfl)) (by decide) (by decide)) (g := (mkF m 6 #[rv a1, rv a2] [.null, (.int (1 : Int32)), (.int (0 : Int32)), (.ref a2), (.ref a1)])) rfl (by rw [hml]; rfl) (Steps.refl _) (a := a1) (argsL := [(.ref a2), (.int (0 : Int32)), (.int (1 : Int32)), .null]) (rest := []) (lenOf pd__28__5b_CIILjava_2f_lang_2f_Void_3b__29_V rfl) rfl (by show 2 * 0 + _ ≤ _; exact Nat.le_of_eq rfl) (hb hby d2_6) (fun _ hv => ⟨rfl, e0, (by decide : 0 + 1 ≤ _), (by decide : 0 + 1 ≤ _)⟩)
  dsimp only [Pt.U, Pt.locs, Pt.cells, Pt.slots] at X18 l18 y18 z18 st18 hQ18
  subst l18 y18 z18
  refine own_go st18 ?_
  obtain ⟨b_18, kb_18, rfl, Nq18, K18, g_b_18, sb_b_18, r18_0, r18_1, r18_2, r18_3⟩ := hQ18
  have ne_a1_b_18 : a1 ≠ b_18 := Nat.ne_of_lt (Nat.lt_of_lt_of_le E_a1.lt sb_b_18)
  have ne_a2_b_18 : a2 ≠ b_18 := Nat.ne_of_lt (Nat.lt_of_lt_of_le V_a2.lt sb_b_18)
  have sz_b_18 : h0.size ≤ b_18 := Nat.le_trans Kz.1 sb_b_18
  have Od18 := O0.keep K18 (allS g_a1 all0)
  have E_a1_18 := E_a1.keep K18
  have V_a2_18 := V_a2.keep K18 (ninS (Ne.symm (Exa.neArv E_a1 V_a2 (hw _ (List.mem_of_getElem? (i := 5) rfl)))) nin0)
  have Z18 : n0 ≤ T18.heap.size := Nat.le_trans Z0 K18.1
  have Kt18 := Kz.trans K18 (allS (P := fun x => x ∈ _ ∨ _ ≤ x) (Or.inl (List.mem_of_getElem? (i := 0) rfl)) all0)
  have N18 := Fr.app N0 Nq18
  show own_Fin _ _ _ _ (T18.setTop (mkF m 9 #[rv a1, rv a2] []))
  obtain ⟨fs19, hr19, hrun19, hended19, hW19, hsame19⟩ := X18.leave (v := none) (fun _ => rfl)
  refine own_done (X18.returnOut hx Bd.returns (hb hby d2_9) hr19) hrun19 hended19 ⟨_, _, rfl, ?_, ⟨_, rfl⟩, hW19, hsame19.mono (by decide) (by decide)⟩
  show Qstr_1 Z a1 a2 k cs c0 h0 n0 _ T18.heap _
  exact ⟨b_18, kb_18, rfl, N18, Kt18, g_b_18, sz_b_18, r18_0, r18_1, r18_2, r18_3⟩
theorem ef_cm_2 (m : MethodId) (x0 : Addr) (x1 : Int32) (x2 : Addr) (x3 : Int32) (x4 : Int32) : entryFrame m #[(.ref x0), (.int x1), (.ref x2), (.int x3), (.int x4)] 7 = mkF m 0 #[.val (.ref x0), .val (.int x1), .val (.ref x2), .val (.int x3), .val (.int x4), .unset, .unset] [] := by first | (simp [entryFrame, mkF, argsToLocals, Value.category]; done) | rfl
def Qcm_2 (Z : State) (a1 : Addr) (k : ClassId) (c0 : Int32) (c1 : Int32) (a3 : Addr) (kb : ClassId) (h0 : Heap) (n0 : Nat) (v : Option Value) (h : Heap) (L : List Loc) : Prop := v = some (.int (2 : Int32)) ∧ Fr n0 L ∧ Keep h0 h [a3] ∧ Arv Z h a3 kb .byte (2 : Int32) [(.int (nar .byte (c0.toInt8.toInt32))), (.int (nar .byte (c1.toInt8.toInt32)))] (.int (0 : Int32))
abbrev Gcm_2 (Z : State) (a1 : Addr) (k : ClassId) (c0 : Int32) (c1 : Int32) (a3 : Addr) (kb : ClassId) (h0 : Heap) (n0 : Nat) (s : State) : Outcome → State → Prop := fun o U' => ∃ v L, o = .returned v ∧ Qcm_2 Z a1 k c0 c1 a3 kb h0 n0 v U'.heap L ∧ FrameEnd s o U' L ({ frames := 0, cells := 0, slots := 0, locals := 0 } : Room).cells ({ frames := 0, cells := 0, slots := 0, locals := 0 } : Room).slots
set_option maxRecDepth 65536 in
set_option maxHeartbeats 40000000 in
theorem rmcm_2 (l : Launch) (Z : State) (a0 : Array Value) (hw : ∀ d ∈ tables_1, d.before a0 Z = true) (ws : List Jvm.Cond) (a1 : Addr) (k : ClassId) (c0 : Int32) (c1 : Int32) (a3 : Addr) (kb : ClassId) (h0 : Heap) (n0 : Nat) (Z0 : n0 ≤ h0.size) (V_a1 : Arv Z h0 a1 k .char (2 : Int32) [(.int c0), (.int c1)] (.int (0 : Int32))) (V_a3 : Arv Z h0 a3 kb .byte (2 : Int32) [(.int (0 : Int32)), (.int (0 : Int32))] (.int (0 : Int32))) (g_a3 : n0 ≤ a3) (ne13 : a1 ≠ a3) (hc0 : ¬ (255 : Int32) < c0) (hc1 : ¬ (255 : Int32) < c1) :
    MetFree l (⟨"java/lang/StringUTF16", "compress", "([CI[BII)I"⟩ : MethodName) (head1 (Jvm.Cond.code (⟨"java/lang/StringUTF16", "compress", "([CI[BII)I"⟩ : MethodName) jdk_52_method_21_code 7 (some .int) :: ws) ({ frames := 0, cells := 0, slots := 0, locals := 0 } : Room)) (fun a U => a = #[(.ref a1), (.int (0 : Int32)), (.ref a3), (.int (0 : Int32)), (.int (2 : Int32))] ∧ Z.Warmed39 U.vm ∧ U.heap = h0) (fun _ _ _ _ _ => True) (fun _ U o U' => ∃ v L, o = .returned v ∧ Qcm_2 Z a1 k c0 c1 a3 kb h0 n0 v U'.heap L ∧ FrameEnd U o U' L ({ frames := 0, cells := 0, slots := 0, locals := 0 } : Room).cells ({ frames := 0, cells := 0, slots := 0, locals := 0 } : Room).slots) := by
  refine MetFree.of_bodySF (plainFor_of_name pn_java_lang_StringUTF16) hisR ?_
  intro p e s m args below meth c s₁ Bd hml0 hP hK
  obtain ⟨rfl, hZ, hh⟩ := hP
  have hx := Bd.exec
  have hby := Bd.bytes
  have hml : c.maxLocals = 7 := hml0
  have hown : s.vm.findClass "java/lang/StringUTF16" = some m.cls := findClass_of_methodNamed Bd.named
  have hnm := (name_of_methodNamed Bd.named Bd.method).1
  have X0 : Stand p l e ({ frames := 0, cells := 0, slots := 0, locals := 0 } : Room) s m #[(.ref a1), (.int (0 : Int32)), (.ref a3), (.int (0 : Int32)), (.int (2 : Int32))] below meth c s₁ [] 0 0 := Stand.of_body Bd
  have e0 : s₁.heap = h0 := by rw [← hh, Bd.state]; rfl
  have es0 : s.heap = h0 := hh
  have N0 := Fr.nil n0
  show own_Fin p e below (Gcm_2 Z a1 k c0 c1 a3 kb h0 n0 s) (s₁.setTop (entryFrame m #[(.ref a1), (.int (0 : Int32)), (.ref a3), (.int (0 : Int32)), (.int (2 : Int32))] 7))
  rw [ef_cm_2 m a1 (0 : Int32) a3 (0 : Int32) (2 : Int32)]
  have Kz := Keep.refl h0 [a3]
  refine own_go (XS.iconst X0.here hx rfl (hb hby d9_0) (Steps.refl _)) ?_
  show own_Fin _ _ _ _ (s₁.setTop (mkF m 1 #[rv a1, iv (0 : Int32), rv a3, iv (0 : Int32), iv (2 : Int32), .unset, .unset] [(.int (0 : Int32))]))
  refine own_go (XS.istore X0.here hx rfl (hb hby d9_1) rfl rfl (Steps.refl _)) ?_
  show own_Fin _ _ _ _ (s₁.setTop (mkF m 3 #[rv a1, iv (0 : Int32), rv a3, iv (0 : Int32), iv (2 : Int32), iv (0 : Int32), .unset] []))
  refine own_go (XS.iload X0.here hx rfl (hb hby d9_3) rfl (Steps.refl _)) ?_
  show own_Fin _ _ _ _ (s₁.setTop (mkF m 5 #[rv a1, iv (0 : Int32), rv a3, iv (0 : Int32), iv (2 : Int32), iv (0 : Int32), .unset] [(.int (0 : Int32))]))
  refine own_go (XS.iload X0.here hx rfl (hb hby d9_5) rfl (Steps.refl _)) ?_
  show own_Fin _ _ _ _ (s₁.setTop (mkF m 7 #[rv a1, iv (0 : Int32), rv a3, iv (0 : Int32), iv (2 : Int32), iv (0 : Int32), .unset] [(.int (2 : Int32)), (.int (0 : Int32))]))
  refine own_go (XS.icmpNo X0.here hx rfl (hb hby d9_7) rfl (tlt (by decide : (0 : Int32) < (2 : Int32))).2.1 (Steps.refl _)) ?_
  show own_Fin _ _ _ _ (s₁.setTop (mkF m 10 #[rv a1, iv (0 : Int32), rv a3, iv (0 : Int32), iv (2 : Int32), iv (0 : Int32), .unset] []))
  refine own_go (XS.aloadN X0.here hx rfl (hb hby d9_10) rfl rfl (Steps.refl _)) ?_
  show own_Fin _ _ _ _ (s₁.setTop (mkF m 11 #[rv a1, iv (0 : Int32), rv a3, iv (0 : Int32), iv (2 : Int32), iv (0 : Int32), .unset] [(.ref a1)]))
  refine own_go (XS.iloadN X0.here hx rfl (hb hby d9_11) rfl (Steps.refl _)) ?_
  show own_Fin _ _ _ _ (s₁.setTop (mkF m 12 #[rv a1, iv (0 : Int32), rv a3, iv (0 : Int32), iv (2 : Int32), iv (0 : Int32), .unset] [(.int (0 : Int32)), (.ref a1)]))
  obtain ⟨cl20, Ar20, qa20, Sa20, Na20, Ha20, Ga20⟩ := id V_a1
  have hin20 : ¬ ((0 : Int32) < 0 ∨ cl20.slots.size ≤ ((0 : Int32)).toNatClampNeg) := inb_of Sa20 ⟨by decide, by decide⟩
  have hat20 : cl20.slots[((0 : Int32)).toNatClampNeg]? = some (.int c0) := Has.at Ha20 hin20 rfl
  refine own_by (X0.caload hx (j := (0 : Int32)) (v := (.int c0)) (by rw [e0]; exact Ar20.1) (State.isArrayOf_alike hZ.alike Ar20.2.1) Ar20.2.2 hin20 hat20 (g := (mkF m 12 #[rv a1, iv (0 : Int32), rv a3, iv (0 : Int32), iv (2 : Int32), iv (0 : Int32), .unset] [(.int (0 : Int32)), (.ref a1)])) rfl rfl (hb hby d9_12)) ?_
  show own_Fin _ _ _ _ (s₁.setTop (mkF m 13 #[rv a1, iv (0 : Int32), rv a3, iv (0 : Int32), iv (2 : Int32), iv (0 : Int32), .unset] [(.int c0)]))
  refine own_go (XS.istore X0.here hx rfl (hb hby d9_13) rfl rfl (Steps.refl _)) ?_
  show own_Fin _ _ _ _ (s₁.setTop (mkF m 15 #[rv a1, iv (0 : Int32), rv a3, iv (0 : Int32), iv (2 : Int32), iv (0 : Int32), iv c0] []))
  refine own_go (XS.iload X0.here hx rfl (hb hby d9_15) rfl (Steps.refl _)) ?_
  show own_Fin _ _ _ _ (s₁.setTop (mkF m 17 #[rv a1, iv (0 : Int32), rv a3, iv (0 : Int32), iv (2 : Int32), iv (0 : Int32), iv c0] [(.int c0)]))
  refine own_go (XS.sipush X0.here hx rfl (hb hby d9_17) (Steps.refl _)) ?_
  show own_Fin _ _ _ _ (s₁.setTop (mkF m 20 #[rv a1, iv (0 : Int32), rv a3, iv (0 : Int32), iv (2 : Int32), iv (0 : Int32), iv c0] [(.int (255 : Int32)), (.int c0)]))
  refine own_go (XS.icmpYes X0.here hx rfl (pc0 := 20) (pc' := 26) rfl (hb hby d9_20) rfl (flt (show ¬ ((255 : Int32) < c0) from hc0)).2.2.2 (by decide) (by decide) (Steps.refl _)) ?_
  show own_Fin _ _ _ _ (s₁.setTop (mkF m 26 #[rv a1, iv (0 : Int32), rv a3, iv (0 : Int32), iv (2 : Int32), iv (0 : Int32), iv c0] []))
  refine own_go (XS.aloadN X0.here hx rfl (hb hby d9_26) rfl rfl (Steps.refl _)) ?_
  show own_Fin _ _ _ _ (s₁.setTop (mkF m 27 #[rv a1, iv (0 : Int32), rv a3, iv (0 : Int32), iv (2 : Int32), iv (0 : Int32), iv c0] [(.ref a3)]))
  refine own_go (XS.iloadN X0.here hx rfl (hb hby d9_27) rfl (Steps.refl _)) ?_
  show own_Fin _ _ _ _ (s₁.setTop (mkF m 28 #[rv a1, iv (0 : Int32), rv a3, iv (0 : Int32), iv (2 : Int32), iv (0 : Int32), iv c0] [(.int (0 : Int32)), (.ref a3)]))
  refine own_go (XS.iload X0.here hx rfl (hb hby d9_28) rfl (Steps.refl _)) ?_
  show own_Fin _ _ _ _ (s₁.setTop (mkF m 30 #[rv a1, iv (0 : Int32), rv a3, iv (0 : Int32), iv (2 : Int32), iv (0 : Int32), iv c0] [(.int c0), (.int (0 : Int32)), (.ref a3)]))
  refine own_go (XS.i2b X0.here hx rfl (hb hby d9_30) rfl (Steps.refl _)) ?_
  show own_Fin _ _ _ _ (s₁.setTop (mkF m 31 #[rv a1, iv (0 : Int32), rv a3, iv (0 : Int32), iv (2 : Int32), iv (0 : Int32), iv c0] [(.int (c0.toInt8.toInt32)), (.int (0 : Int32)), (.ref a3)]))
  obtain ⟨cl21, Ar21, qa21, Sa21, Na21, Ha21, Ga21⟩ := id V_a3
  have hin21 : ¬ ((0 : Int32) < 0 ∨ cl21.slots.size ≤ ((0 : Int32)).toNatClampNeg) := inb_of Sa21 ⟨by decide, by decide⟩
  obtain ⟨T22, h22, X22, e22, W22, st22⟩ := stB X0 hx hZ e0 Ar21 (j := (0 : Int32)) hin21 (g := (mkF m 31 #[rv a1, iv (0 : Int32), rv a3, iv (0 : Int32), iv (2 : Int32), iv (0 : Int32), iv c0] [(.int (c0.toInt8.toInt32)), (.int (0 : Int32)), (.ref a3)])) rfl rfl (hb hby d9_31)
  refine own_by st22 ?_
  have V_a3_22 : Arv Z h22 a3 kb .byte (2 : Int32) [(.int (nar .byte (c0.toInt8.toInt32))), (.int (0 : Int32))] (.int (0 : Int32)) := Arv.set Ar21 qa21 Sa21 Na21 Ha21 Ga21 (fits_nar_byte (c0.toInt8.toInt32)) W22 0 rfl (Nat.le_of_ble_eq_true rfl)
  have V_a1_22 := V_a1.other W22 ne13
  have N22 := Fr.snoc X22 N0 g_a3
  have Z22 : n0 ≤ h22.size := Nat.le_trans Z0 (Keep.of_wr W22).1
  have K22 := Kz.wr W22 (Or.inl (List.mem_of_getElem? (i := 0) rfl))
  show own_Fin _ _ _ _ (T22.setTop (mkF m 32 #[rv a1, iv (0 : Int32), rv a3, iv (0 : Int32), iv (2 : Int32), iv (0 : Int32), iv c0] []))
  refine own_go (XS.iinc X22.here hx rfl (hb hby d9_32) rfl rfl (Steps.refl _)) ?_
  show own_Fin _ _ _ _ (T22.setTop (mkF m 35 #[rv a1, iv (1 : Int32), rv a3, iv (0 : Int32), iv (2 : Int32), iv (0 : Int32), iv c0] []))
  refine own_go (XS.iinc X22.here hx rfl (hb hby d9_35) rfl rfl (Steps.refl _)) ?_
  show own_Fin _ _ _ _ (T22.setTop (mkF m 38 #[rv a1, iv (1 : Int32), rv a3, iv (1 : Int32), iv (2 : Int32), iv (0 : Int32), iv c0] []))
  refine own_go (XS.iinc X22.here hx rfl (hb hby d9_38) rfl rfl (Steps.refl _)) ?_
  show own_Fin _ _ _ _ (T22.setTop (mkF m 41 #[rv a1, iv (1 : Int32), rv a3, iv (1 : Int32), iv (2 : Int32), iv (1 : Int32), iv c0] []))
  refine own_go (XS.goto X22.here hx rfl (pc0 := 41) (pc' := 3) rfl (hb hby d9_41) (by decide) (by decide) (Steps.refl _)) ?_
  show own_Fin _ _ _ _ (T22.setTop (mkF m 3 #[rv a1, iv (1 : Int32), rv a3, iv (1 : Int32), iv (2 : Int32), iv (1 : Int32), iv c0] []))
  refine own_go (XS.iload X22.here hx rfl (hb hby d9_3) rfl (Steps.refl _)) ?_
  show own_Fin _ _ _ _ (T22.setTop (mkF m 5 #[rv a1, iv (1 : Int32), rv a3, iv (1 : Int32), iv (2 : Int32), iv (1 : Int32), iv c0] [(.int (1 : Int32))]))
  refine own_go (XS.iload X22.here hx rfl (hb hby d9_5) rfl (Steps.refl _)) ?_
  show own_Fin _ _ _ _ (T22.setTop (mkF m 7 #[rv a1, iv (1 : Int32), rv a3, iv (1 : Int32), iv (2 : Int32), iv (1 : Int32), iv c0] [(.int (2 : Int32)), (.int (1 : Int32))]))
  refine own_go (XS.icmpNo X22.here hx rfl (hb hby d9_7) rfl (tlt (by decide : (1 : Int32) < (2 : Int32))).2.1 (Steps.refl _)) ?_
  show own_Fin _ _ _ _ (T22.setTop (mkF m 10 #[rv a1, iv (1 : Int32), rv a3, iv (1 : Int32), iv (2 : Int32), iv (1 : Int32), iv c0] []))
  refine own_go (XS.aloadN X22.here hx rfl (hb hby d9_10) rfl rfl (Steps.refl _)) ?_
  show own_Fin _ _ _ _ (T22.setTop (mkF m 11 #[rv a1, iv (1 : Int32), rv a3, iv (1 : Int32), iv (2 : Int32), iv (1 : Int32), iv c0] [(.ref a1)]))
  refine own_go (XS.iloadN X22.here hx rfl (hb hby d9_11) rfl (Steps.refl _)) ?_
  show own_Fin _ _ _ _ (T22.setTop (mkF m 12 #[rv a1, iv (1 : Int32), rv a3, iv (1 : Int32), iv (2 : Int32), iv (1 : Int32), iv c0] [(.int (1 : Int32)), (.ref a1)]))
  obtain ⟨cl23, Ar23, qa23, Sa23, Na23, Ha23, Ga23⟩ := id V_a1_22
  have hin23 : ¬ ((1 : Int32) < 0 ∨ cl23.slots.size ≤ ((1 : Int32)).toNatClampNeg) := inb_of Sa23 ⟨by decide, by decide⟩
  have hat23 : cl23.slots[((1 : Int32)).toNatClampNeg]? = some (.int c1) := Has.at Ha23 hin23 rfl
  refine own_by (X22.caload hx (j := (1 : Int32)) (v := (.int c1)) (by rw [e22]; exact Ar23.1) (State.isArrayOf_alike hZ.alike Ar23.2.1) Ar23.2.2 hin23 hat23 (g := (mkF m 12 #[rv a1, iv (1 : Int32), rv a3, iv (1 : Int32), iv (2 : Int32), iv (1 : Int32), iv c0] [(.int (1 : Int32)), (.ref a1)])) rfl rfl (hb hby d9_12)) ?_
  show own_Fin _ _ _ _ (T22.setTop (mkF m 13 #[rv a1, iv (1 : Int32), rv a3, iv (1 : Int32), iv (2 : Int32), iv (1 : Int32), iv c0] [(.int c1)]))
  refine own_go (XS.istore X22.here hx rfl (hb hby d9_13) rfl rfl (Steps.refl _)) ?_
  show own_Fin _ _ _ _ (T22.setTop (mkF m 15 #[rv a1, iv (1 : Int32), rv a3, iv (1 : Int32), iv (2 : Int32), iv (1 : Int32), iv c1] []))
  refine own_go (XS.iload X22.here hx rfl (hb hby d9_15) rfl (Steps.refl _)) ?_
  show own_Fin _ _ _ _ (T22.setTop (mkF m 17 #[rv a1, iv (1 : Int32), rv a3, iv (1 : Int32), iv (2 : Int32), iv (1 : Int32), iv c1] [(.int c1)]))
  refine own_go (XS.sipush X22.here hx rfl (hb hby d9_17) (Steps.refl _)) ?_
  show own_Fin _ _ _ _ (T22.setTop (mkF m 20 #[rv a1, iv (1 : Int32), rv a3, iv (1 : Int32), iv (2 : Int32), iv (1 : Int32), iv c1] [(.int (255 : Int32)), (.int c1)]))
  refine own_go (XS.icmpYes X22.here hx rfl (pc0 := 20) (pc' := 26) rfl (hb hby d9_20) rfl (flt (show ¬ ((255 : Int32) < c1) from hc1)).2.2.2 (by decide) (by decide) (Steps.refl _)) ?_
  show own_Fin _ _ _ _ (T22.setTop (mkF m 26 #[rv a1, iv (1 : Int32), rv a3, iv (1 : Int32), iv (2 : Int32), iv (1 : Int32), iv c1] []))
  refine own_go (XS.aloadN X22.here hx rfl (hb hby d9_26) rfl rfl (Steps.refl _)) ?_
  show own_Fin _ _ _ _ (T22.setTop (mkF m 27 #[rv a1, iv (1 : Int32), rv a3, iv (1 : Int32), iv (2 : Int32), iv (1 : Int32), iv c1] [(.ref a3)]))
  refine own_go (XS.iloadN X22.here hx rfl (hb hby d9_27) rfl (Steps.refl _)) ?_
  show own_Fin _ _ _ _ (T22.setTop (mkF m 28 #[rv a1, iv (1 : Int32), rv a3, iv (1 : Int32), iv (2 : Int32), iv (1 : Int32), iv c1] [(.int (1 : Int32)), (.ref a3)]))
  refine own_go (XS.iload X22.here hx rfl (hb hby d9_28) rfl (Steps.refl _)) ?_
  show own_Fin _ _ _ _ (T22.setTop (mkF m 30 #[rv a1, iv (1 : Int32), rv a3, iv (1 : Int32), iv (2 : Int32), iv (1 : Int32), iv c1] [(.int c1), (.int (1 : Int32)), (.ref a3)]))
  refine own_go (XS.i2b X22.here hx rfl (hb hby d9_30) rfl (Steps.refl _)) ?_
  show own_Fin _ _ _ _ (T22.setTop (mkF m 31 #[rv a1, iv (1 : Int32), rv a3, iv (1 : Int32), iv (2 : Int32), iv (1 : Int32), iv c1] [(.int (c1.toInt8.toInt32)), (.int (1 : Int32)), (.ref a3)]))
  obtain ⟨cl24, Ar24, qa24, Sa24, Na24, Ha24, Ga24⟩ := id V_a3_22
  have hin24 : ¬ ((1 : Int32) < 0 ∨ cl24.slots.size ≤ ((1 : Int32)).toNatClampNeg) := inb_of Sa24 ⟨by decide, by decide⟩
  obtain ⟨T25, h25, X25, e25, W25, st25⟩ := stB X22 hx hZ e22 Ar24 (j := (1 : Int32)) hin24 (g := (mkF m 31 #[rv a1, iv (1 : Int32), rv a3, iv (1 : Int32), iv (2 : Int32), iv (1 : Int32), iv c1] [(.int (c1.toInt8.toInt32)), (.int (1 : Int32)), (.ref a3)])) rfl rfl (hb hby d9_31)
  refine own_by st25 ?_
  have V_a3_25 : Arv Z h25 a3 kb .byte (2 : Int32) [(.int (nar .byte (c0.toInt8.toInt32))), (.int (nar .byte (c1.toInt8.toInt32)))] (.int (0 : Int32)) := Arv.set Ar24 qa24 Sa24 Na24 Ha24 Ga24 (fits_nar_byte (c1.toInt8.toInt32)) W25 1 rfl (Nat.le_of_ble_eq_true rfl)
  have V_a1_25 := V_a1_22.other W25 ne13
  have N25 := Fr.snoc X25 N22 g_a3
  have Z25 : n0 ≤ h25.size := Nat.le_trans Z22 (Keep.of_wr W25).1
  have K25 := K22.wr W25 (Or.inl (List.mem_of_getElem? (i := 0) rfl))
  show own_Fin _ _ _ _ (T25.setTop (mkF m 32 #[rv a1, iv (1 : Int32), rv a3, iv (1 : Int32), iv (2 : Int32), iv (1 : Int32), iv c1] []))
  refine own_go (XS.iinc X25.here hx rfl (hb hby d9_32) rfl rfl (Steps.refl _)) ?_
  show own_Fin _ _ _ _ (T25.setTop (mkF m 35 #[rv a1, iv (2 : Int32), rv a3, iv (1 : Int32), iv (2 : Int32), iv (1 : Int32), iv c1] []))
  refine own_go (XS.iinc X25.here hx rfl (hb hby d9_35) rfl rfl (Steps.refl _)) ?_
  show own_Fin _ _ _ _ (T25.setTop (mkF m 38 #[rv a1, iv (2 : Int32), rv a3, iv (2 : Int32), iv (2 : Int32), iv (1 : Int32), iv c1] []))
  refine own_go (XS.iinc X25.here hx rfl (hb hby d9_38) rfl rfl (Steps.refl _)) ?_
  show own_Fin _ _ _ _ (T25.setTop (mkF m 41 #[rv a1, iv (2 : Int32), rv a3, iv (2 : Int32), iv (2 : Int32), iv (2 : Int32), iv c1] []))
  refine own_go (XS.goto X25.here hx rfl (pc0 := 41) (pc' := 3) rfl (hb hby d9_41) (by decide) (by decide) (Steps.refl _)) ?_
  show own_Fin _ _ _ _ (T25.setTop (mkF m 3 #[rv a1, iv (2 : Int32), rv a3, iv (2 : Int32), iv (2 : Int32), iv (2 : Int32), iv c1] []))
  refine own_go (XS.iload X25.here hx rfl (hb hby d9_3) rfl (Steps.refl _)) ?_
  show own_Fin _ _ _ _ (T25.setTop (mkF m 5 #[rv a1, iv (2 : Int32), rv a3, iv (2 : Int32), iv (2 : Int32), iv (2 : Int32), iv c1] [(.int (2 : Int32))]))
  refine own_go (XS.iload X25.here hx rfl (hb hby d9_5) rfl (Steps.refl _)) ?_
  show own_Fin _ _ _ _ (T25.setTop (mkF m 7 #[rv a1, iv (2 : Int32), rv a3, iv (2 : Int32), iv (2 : Int32), iv (2 : Int32), iv c1] [(.int (2 : Int32)), (.int (2 : Int32))]))
  refine own_go (XS.icmpYes X25.here hx rfl (pc0 := 7) (pc' := 44) rfl (hb hby d9_7) rfl (flt (by decide : ¬ ((2 : Int32) < (2 : Int32)))).2.1 (by decide) (by decide) (Steps.refl _)) ?_
  show own_Fin _ _ _ _ (T25.setTop (mkF m 44 #[rv a1, iv (2 : Int32), rv a3, iv (2 : Int32), iv (2 : Int32), iv (2 : Int32), iv c1] []))
  refine own_go (XS.iload X25.here hx rfl (hb hby d9_44) rfl (Steps.refl _)) ?_
  show own_Fin _ _ _ _ (T25.setTop (mkF m 46 #[rv a1, iv (2 : Int32), rv a3, iv (2 : Int32), iv (2 : Int32), iv (2 : Int32), iv c1] [(.int (2 : Int32))]))
  obtain ⟨fs26, hr26, hrun26, hended26, hW26, hsame26⟩ := X25.leave (v := some (.int (2 : Int32))) (fun h => by rw [Bd.returns] at h; cases h)
  refine own_done (own_retI X25 hx Bd.returns (hb hby d9_46) hr26) hrun26 hended26 ⟨_, _, rfl, ?_, ⟨_, rfl⟩, hW26, hsame26.mono (by decide) (by decide)⟩
  show Qcm_2 Z a1 k c0 c1 a3 kb h0 n0 _ T25.heap _
  rw [e25]
  exact ⟨rfl, N25, K25, V_a3_25⟩
theorem ef_c3_2 (m : MethodId) (x0 : Addr) (x1 : Int32) (x2 : Int32) : entryFrame m #[(.ref x0), (.int x1), (.int x2)] 6 = mkF m 0 #[.val (.ref x0), .val (.int x1), .val (.int x2), .unset, .unset, .unset] [] := by first | (simp [entryFrame, mkF, argsToLocals, Value.category]; done) | rfl
def Qc3_2 (Z : State) (a1 : Addr) (k : ClassId) (c0 : Int32) (c1 : Int32) (h0 : Heap) (n0 : Nat) (v : Option Value) (h : Heap) (L : List Loc) : Prop := ∃ (b : Addr) (kb : ClassId), v = some (.ref b) ∧ Fr n0 L ∧ Keep h0 h [] ∧ n0 ≤ b ∧ h0.size ≤ b ∧ Arv Z h b kb .byte (2 : Int32) [(.int (nar .byte (c0.toInt8.toInt32))), (.int (nar .byte (c1.toInt8.toInt32)))] (.int (0 : Int32))
abbrev Gc3_2 (Z : State) (a1 : Addr) (k : ClassId) (c0 : Int32) (c1 : Int32) (h0 : Heap) (n0 : Nat) (s : State) : Outcome → State → Prop := fun o U' => ∃ v L, o = .returned v ∧ Qc3_2 Z a1 k c0 c1 h0 n0 v U'.heap L ∧ FrameEnd s o U' L ({ frames := 1, cells := 1, slots := 2, locals := 24 } : Room).cells ({ frames := 1, cells := 1, slots := 2, locals := 24 } : Room).slots
set_option maxRecDepth 65536 in
set_option maxHeartbeats 40000000 in
theorem rmc3_2 (l : Launch) (Z : State) (a0 : Array Value) (hw : ∀ d ∈ tables_1, d.before a0 Z = true) (ws : List Jvm.Cond) (a1 : Addr) (k : ClassId) (c0 : Int32) (c1 : Int32) (h0 : Heap) (n0 : Nat) (Z0 : n0 ≤ h0.size) (V_a1 : Arv Z h0 a1 k .char (2 : Int32) [(.int c0), (.int c1)] (.int (0 : Int32))) (hc0 : ¬ (255 : Int32) < c0) (hc1 : ¬ (255 : Int32) < c1) :
    MetFree l (⟨"java/lang/StringUTF16", "compress", "([CII)[B"⟩ : MethodName) (head1 (Jvm.Cond.code (⟨"java/lang/StringUTF16", "compress", "([CII)[B"⟩ : MethodName) jdk_52_method_16_code 6 (some (.array .byte)) :: ws) ({ frames := 1, cells := 1, slots := 2, locals := 24 } : Room)) (fun a U => a = #[(.ref a1), (.int (0 : Int32)), (.int (2 : Int32))] ∧ Z.Warmed39 U.vm ∧ U.heap = h0) (fun _ _ _ _ _ => True) (fun _ U o U' => ∃ v L, o = .returned v ∧ Qc3_2 Z a1 k c0 c1 h0 n0 v U'.heap L ∧ FrameEnd U o U' L ({ frames := 1, cells := 1, slots := 2, locals := 24 } : Room).cells ({ frames := 1, cells := 1, slots := 2, locals := 24 } : Room).slots) := by
  refine MetFree.of_bodySF (plainFor_of_name pn_java_lang_StringUTF16) hisR ?_
  intro p e s m args below meth c s₁ Bd hml0 hP hK
  obtain ⟨rfl, hZ, hh⟩ := hP
  have hx := Bd.exec
  have hby := Bd.bytes
  have hml : c.maxLocals = 6 := hml0
  have hown : s.vm.findClass "java/lang/StringUTF16" = some m.cls := findClass_of_methodNamed Bd.named
  have hnm := (name_of_methodNamed Bd.named Bd.method).1
  have X0 : Stand p l e ({ frames := 1, cells := 1, slots := 2, locals := 24 } : Room) s m #[(.ref a1), (.int (0 : Int32)), (.int (2 : Int32))] below meth c s₁ [] 0 0 := Stand.of_body Bd
  have e0 : s₁.heap = h0 := by rw [← hh, Bd.state]; rfl
  have es0 : s.heap = h0 := hh
  have N0 := Fr.nil n0
  show own_Fin p e below (Gc3_2 Z a1 k c0 c1 h0 n0 s) (s₁.setTop (entryFrame m #[(.ref a1), (.int (0 : Int32)), (.int (2 : Int32))] 6))
  rw [ef_c3_2 m a1 (0 : Int32) (2 : Int32)]
  have Kz := Keep.refl h0 []
  refine own_go (XS.iloadN X0.here hx rfl (hb hby d8_0) rfl (Steps.refl _)) ?_
  show own_Fin _ _ _ _ (s₁.setTop (mkF m 1 #[rv a1, iv (0 : Int32), iv (2 : Int32), .unset, .unset, .unset] [(.int (2 : Int32))]))
  obtain ⟨T27, h27, k27, X27, e27, E27, A27, st27⟩ := newP X0 hx hZ (hw _ (List.mem_of_getElem? (i := 19) rfl)) e0 (g := (mkF m 1 #[rv a1, iv (0 : Int32), iv (2 : Int32), .unset, .unset, .unset] [(.int (2 : Int32))])) rfl (hb hby d8_1) rfl (by decide) (cap := 2) (by decide) (by decide) (by decide) (by decide)
  obtain ⟨b27, g27⟩ : ∃ z, z = h0.size := ⟨_, rfl⟩
  rw [← g27] at A27 st27
  refine own_by st27 ?_
  have ne_a1_b27 : a1 ≠ b27 := Nat.ne_of_lt (Nat.lt_of_lt_of_eq V_a1.lt g27.symm)
  have V_a1_27 := V_a1.ext E27
  have g_b27 : n0 ≤ b27 := Nat.le_trans Z0 (Nat.le_of_eq g27.symm)
  have sz_b27 : h0.size ≤ b27 := Nat.le_trans Kz.1 (Nat.le_of_eq g27.symm)
  have K27 := Kz.ext E27
  have Z27 : n0 ≤ h27.size := Nat.le_trans Z0 E27.1
  have V_b27 : Arv Z h27 b27 k27 .byte (2 : Int32) [(.int (0 : Int32)), (.int (0 : Int32))] (.int (0 : Int32)) := (Arv.new A27 (by decide)).pad (pad_rep [] (.int (0 : Int32)) 2)
  show own_Fin _ _ _ _ (T27.setTop (mkF m 3 #[rv a1, iv (0 : Int32), iv (2 : Int32), .unset, .unset, .unset] [(.ref b27)]))
  refine own_go (XS.astoreN X27.here hx rfl (hb hby d8_3) rfl rfl rfl (Steps.refl _)) ?_
  show own_Fin _ _ _ _ (T27.setTop (mkF m 4 #[rv a1, iv (0 : Int32), iv (2 : Int32), rv b27, .unset, .unset] []))
  refine own_go (XS.aloadN X27.here hx rfl (hb hby d8_4) rfl rfl (Steps.refl _)) ?_
  show own_Fin _ _ _ _ (T27.setTop (mkF m 5 #[rv a1, iv (0 : Int32), iv (2 : Int32), rv b27, .unset, .unset] [(.ref a1)]))
  refine own_go (XS.iloadN X27.here hx rfl (hb hby d8_5) rfl (Steps.refl _)) ?_
  show own_Fin _ _ _ _ (T27.setTop (mkF m 6 #[rv a1, iv (0 : Int32), iv (2 : Int32), rv b27, .unset, .unset] [(.int (0 : Int32)), (.ref a1)]))
  refine own_go (XS.aloadN X27.here hx rfl (hb hby d8_6) rfl rfl (Steps.refl _)) ?_
  show own_Fin _ _ _ _ (T27.setTop (mkF m 7 #[rv a1, iv (0 : Int32), iv (2 : Int32), rv b27, .unset, .unset] [(.ref b27), (.int (0 : Int32)), (.ref a1)]))
  refine own_go (XS.iconst X27.here hx rfl (hb hby d8_7) (Steps.refl _)) ?_
  show own_Fin _ _ _ _ (T27.setTop (mkF m 8 #[rv a1, iv (0 : Int32), iv (2 : Int32), rv b27, .unset, .unset] [(.int (0 : Int32)), (.ref b27), (.int (0 : Int32)), (.ref a1)]))
  refine own_go (XS.iloadN X27.here hx rfl (hb hby d8_8) rfl (Steps.refl _)) ?_
  show own_Fin _ _ _ _ (T27.setTop (mkF m 9 #[rv a1, iv (0 : Int32), iv (2 : Int32), rv b27, .unset, .unset] [(.int (2 : Int32)), (.int (0 : Int32)), (.ref b27), (.int (0 : Int32)), (.ref a1)]))
  obtain ⟨_, _, ⟨T28, L28, k28, n28⟩, -, X28, ⟨Lc28, hQ28, l28, y28, z28⟩, st28⟩ := Jvm.LawKit.callS X27 hx (y := (⟨"java/lang/StringUTF16", "compress", "([CI[BII)I"⟩ : MethodName)) hown (mvT hZ (hw _ (List.mem_of_getElem? (i := 56) rfl))) (mvT hZ (hw _ (List.mem_of_getElem? (i := 57) rfl))) (mvT hZ (hw _ (List.mem_of_getElem? (i := 54) rfl))) (mvT hZ (hw _ (List.mem_of_getElem? (i := 58) rfl))) (by decide) (backOf (W := 0) (rmcm_2 l Z a0 hw [] a1 k c0 c1 b27 k27 h27 n0 Z27 V_a1_27 V_b27 g_b27 ne_a1_b27 hc0 hc1) hZ (hw _ (List.mem_of_getElem? (i := 58) rfl)) (hw _ (List.mem_of_getElem? (i := 54) rfl)) (by decide) (by decide)) (g := (mkF m 9 #[rv a1, iv (0 : Int32), iv (2 : Int32), rv b27, .unset, .unset] [(.int (2 : Int32)), (.int (0 : Int32)), (.ref b27), (.int (0 : Int32)), (.ref a1)])) rfl (by rw [hml]; rfl) (argsL := [(.ref a1), (.int (0 : Int32)), (.ref b27), (.int (0 : Int32)), (.int (2 : Int32))]) (rest := []) (lenOf pd__28__5b_CI_5b_BII_29_I rfl) rfl (by show 2 * 0 + _ ≤ _; exact Nat.le_of_eq rfl) (hb hby d8_9) (fun _ hv => ⟨rfl, e27, (by decide : 1 + 0 ≤ _), (by decide : 2 + 0 ≤ _)⟩)
  dsimp only [Pt.U, Pt.locs, Pt.cells, Pt.slots] at X28 l28 y28 z28 st28 hQ28
  subst l28 y28 z28
  refine own_by st28 ?_
  obtain ⟨rfl, Nq28, K28, r28_0⟩ := hQ28
  have V_a1_28 := V_a1_27.keep K28 (ninS ne_a1_b27 nin0)
  have Z28 : n0 ≤ T28.heap.size := Nat.le_trans Z27 K28.1
  have Kt28 := K27.trans K28 (allS (P := fun x => x ∈ _ ∨ _ ≤ x) (Or.inr sz_b27) all0)
  have N28 := Fr.app N0 Nq28
  show own_Fin _ _ _ _ (T28.setTop (mkF m 12 #[rv a1, iv (0 : Int32), iv (2 : Int32), rv b27, .unset, .unset] [(.int (2 : Int32))]))
  refine own_go (XS.istore X28.here hx rfl (hb hby d8_12) rfl rfl (Steps.refl _)) ?_
  show own_Fin _ _ _ _ (T28.setTop (mkF m 14 #[rv a1, iv (0 : Int32), iv (2 : Int32), rv b27, iv (2 : Int32), .unset] []))
  refine own_go (XS.iload X28.here hx rfl (hb hby d8_14) rfl (Steps.refl _)) ?_
  show own_Fin _ _ _ _ (T28.setTop (mkF m 16 #[rv a1, iv (0 : Int32), iv (2 : Int32), rv b27, iv (2 : Int32), .unset] [(.int (2 : Int32))]))
  refine own_go (XS.iloadN X28.here hx rfl (hb hby d8_16) rfl (Steps.refl _)) ?_
  show own_Fin _ _ _ _ (T28.setTop (mkF m 17 #[rv a1, iv (0 : Int32), iv (2 : Int32), rv b27, iv (2 : Int32), .unset] [(.int (2 : Int32)), (.int (2 : Int32))]))
  refine own_go (XS.icmpYes X28.here hx rfl (pc0 := 17) (pc' := 57) rfl (hb hby d8_17) rfl (teq (by decide : (2 : Int32) = (2 : Int32))).1 (by decide) (by decide) (Steps.refl _)) ?_
  show own_Fin _ _ _ _ (T28.setTop (mkF m 57 #[rv a1, iv (0 : Int32), iv (2 : Int32), rv b27, iv (2 : Int32), .unset] []))
  refine own_go (XS.aloadN X28.here hx rfl (hb hby d8_57) rfl rfl (Steps.refl _)) ?_
  show own_Fin _ _ _ _ (T28.setTop (mkF m 58 #[rv a1, iv (0 : Int32), iv (2 : Int32), rv b27, iv (2 : Int32), .unset] [(.ref b27)]))
  obtain ⟨fs29, hr29, hrun29, hended29, hW29, hsame29⟩ := X28.leave (v := some (.ref b27)) (fun h => by rw [Bd.returns] at h; cases h)
  refine own_done (retOut X28 hx Bd.returns rfl (Or.inr (Or.inr (Or.inr (Or.inr ⟨rfl, rfl, rfl⟩)))) (hb hby d8_58) hr29) hrun29 hended29 ⟨_, _, rfl, ?_, ⟨_, rfl⟩, hW29, hsame29.mono (by decide) (by decide)⟩
  show Qc3_2 Z a1 k c0 c1 h0 n0 _ T28.heap _
  exact ⟨b27, k27, rfl, N28, Kt28, g_b27, sz_b27, r28_0⟩
theorem ef_cf_2 (m : MethodId) (x0 : Addr) (x1 : Int32) : entryFrame m #[(.ref x0), (.int x1)] 2 = mkF m 0 #[.val (.ref x0), .val (.int x1)] [] := by first | (simp [entryFrame, mkF, argsToLocals, Value.category]; done) | rfl
def Qcf_2 (Z : State) (a1 : Addr) (k : ClassId) (c0 : Int32) (c1 : Int32) (h0 : Heap) (n0 : Nat) (v : Option Value) (h : Heap) (L : List Loc) : Prop := v = some (.int (0 : Int32)) ∧ Fr n0 L ∧ h = h0
abbrev Gcf_2 (Z : State) (a1 : Addr) (k : ClassId) (c0 : Int32) (c1 : Int32) (h0 : Heap) (n0 : Nat) (s : State) : Outcome → State → Prop := fun o U' => ∃ v L, o = .returned v ∧ Qcf_2 Z a1 k c0 c1 h0 n0 v U'.heap L ∧ FrameEnd s o U' L ({ frames := 0, cells := 0, slots := 0, locals := 0 } : Room).cells ({ frames := 0, cells := 0, slots := 0, locals := 0 } : Room).slots
set_option maxRecDepth 65536 in
set_option maxHeartbeats 40000000 in
theorem rmcf_2 (l : Launch) (Z : State) (a0 : Array Value) (hw : ∀ d ∈ tables_1, d.before a0 Z = true) (ws : List Jvm.Cond) (a1 : Addr) (k : ClassId) (c0 : Int32) (c1 : Int32) (h0 : Heap) (n0 : Nat) (Z0 : n0 ≤ h0.size) (V_a1 : Arv Z h0 a1 k .byte (2 : Int32) [(.int (nar .byte (c0.toInt8.toInt32))), (.int (nar .byte (c1.toInt8.toInt32)))] (.int (0 : Int32))) :
    MetFree l (⟨"java/lang/StringUTF16", "coderFromArrayLen", "([BI)B"⟩ : MethodName) (head1 (Jvm.Cond.code (⟨"java/lang/StringUTF16", "coderFromArrayLen", "([BI)B"⟩ : MethodName) jdk_52_method_15_code 2 (some .byte) :: ws) ({ frames := 0, cells := 0, slots := 0, locals := 0 } : Room)) (fun a U => a = #[(.ref a1), (.int (2 : Int32))] ∧ Z.Warmed39 U.vm ∧ U.heap = h0) (fun _ _ _ _ _ => True) (fun _ U o U' => ∃ v L, o = .returned v ∧ Qcf_2 Z a1 k c0 c1 h0 n0 v U'.heap L ∧ FrameEnd U o U' L ({ frames := 0, cells := 0, slots := 0, locals := 0 } : Room).cells ({ frames := 0, cells := 0, slots := 0, locals := 0 } : Room).slots) := by
  refine MetFree.of_bodySF (plainFor_of_name pn_java_lang_StringUTF16) hisR ?_
  intro p e s m args below meth c s₁ Bd hml0 hP hK
  obtain ⟨rfl, hZ, hh⟩ := hP
  have hx := Bd.exec
  have hby := Bd.bytes
  have hml : c.maxLocals = 2 := hml0
  have hown : s.vm.findClass "java/lang/StringUTF16" = some m.cls := findClass_of_methodNamed Bd.named
  have hnm := (name_of_methodNamed Bd.named Bd.method).1
  have X0 : Stand p l e ({ frames := 0, cells := 0, slots := 0, locals := 0 } : Room) s m #[(.ref a1), (.int (2 : Int32))] below meth c s₁ [] 0 0 := Stand.of_body Bd
  have e0 : s₁.heap = h0 := by rw [← hh, Bd.state]; rfl
  have es0 : s.heap = h0 := hh
  have N0 := Fr.nil n0
  show own_Fin p e below (Gcf_2 Z a1 k c0 c1 h0 n0 s) (s₁.setTop (entryFrame m #[(.ref a1), (.int (2 : Int32))] 2))
  rw [ef_cf_2 m a1 (2 : Int32)]
  refine own_go (XS.iloadN X0.here hx rfl (hb hby d10_0) rfl (Steps.refl _)) ?_
  show own_Fin _ _ _ _ (s₁.setTop (mkF m 1 #[rv a1, iv (2 : Int32)] [(.int (2 : Int32))]))
  refine own_go (XS.aloadN X0.here hx rfl (hb hby d10_1) rfl rfl (Steps.refl _)) ?_
  show own_Fin _ _ _ _ (s₁.setTop (mkF m 2 #[rv a1, iv (2 : Int32)] [(.ref a1), (.int (2 : Int32))]))
  obtain ⟨cl30, Ar30, qa30, Sa30, Na30, Ha30, Ga30⟩ := id V_a1
  refine own_by (X0.arraylength hx (by rw [e0]; exact Ar30.1) (State.isArrayOf_alike hZ.alike Ar30.2.1) (g := (mkF m 2 #[rv a1, iv (2 : Int32)] [(.ref a1), (.int (2 : Int32))])) rfl rfl (hb hby d10_2)) ?_
  rw [len_of Sa30 Na30]
  show own_Fin _ _ _ _ (s₁.setTop (mkF m 3 #[rv a1, iv (2 : Int32)] [(.int (2 : Int32)), (.int (2 : Int32))]))
  refine own_go (XS.isub X0.here hx rfl (hb hby d10_3) rfl (Steps.refl _)) ?_
  show own_Fin _ _ _ _ (s₁.setTop (mkF m 4 #[rv a1, iv (2 : Int32)] [(.int (0 : Int32))]))
  refine own_go (XS.bipush X0.here hx rfl (hb hby d10_4) (Steps.refl _)) ?_
  show own_Fin _ _ _ _ (s₁.setTop (mkF m 6 #[rv a1, iv (2 : Int32)] [(.int (31 : Int32)), (.int (0 : Int32))]))
  refine own_go (XS.iushr X0.here hx rfl (hb hby d10_6) rfl (Steps.refl _)) ?_
  show own_Fin _ _ _ _ (s₁.setTop (mkF m 7 #[rv a1, iv (2 : Int32)] [(.int (((0 : Int32).toUInt32 >>> ((31 : Int32) &&& 31).toUInt32).toInt32))]))
  refine own_go (XS.i2b X0.here hx rfl (hb hby d10_7) rfl (Steps.refl _)) ?_
  show own_Fin _ _ _ _ (s₁.setTop (mkF m 8 #[rv a1, iv (2 : Int32)] [(.int ((((0 : Int32).toUInt32 >>> ((31 : Int32) &&& 31).toUInt32).toInt32).toInt8.toInt32))]))
  obtain ⟨fs31, hr31, hrun31, hended31, hW31, hsame31⟩ := X0.leave (v := some (.int ((((0 : Int32).toUInt32 >>> ((31 : Int32) &&& 31).toUInt32).toInt32).toInt8.toInt32))) (fun h => by rw [Bd.returns] at h; cases h)
  refine own_done (retN X0 hx (t := .byte) Bd.returns (by simp) (hb hby d10_8) hr31) hrun31 hended31 ⟨_, _, rfl, ?_, ⟨_, rfl⟩, hW31, hsame31.mono (by decide) (by decide)⟩
  show Qcf_2 Z a1 k c0 c1 h0 n0 _ s₁.heap _
  rw [e0]
  exact ⟨(by decide), N0, rfl⟩
theorem ef_i4_2 (m : MethodId) (x0 : Addr) (x1 : Addr) (x2 : Int32) (x3 : Int32) : entryFrame m #[(.ref x0), (.ref x1), (.int x2), (.int x3), .null] 6 = mkF m 0 #[.val (.ref x0), .val (.ref x1), .val (.int x2), .val (.int x3), .val .null, .unset] [] := by first | (simp [entryFrame, mkF, argsToLocals, Value.category]; done) | rfl
def Qi4_2 (Z : State) (a1 : Addr) (a2 : Addr) (k : ClassId) (cs : Int32) (c0 : Int32) (c1 : Int32) (h0 : Heap) (n0 : Nat) (v : Option Value) (h : Heap) (L : List Loc) : Prop := ∃ (b : Addr) (kb : ClassId), v = none ∧ Fr n0 L ∧ Keep h0 h [a1] ∧ n0 ≤ b ∧ h0.size ≤ b ∧ Exa Z h a1 "java/lang/String" ∧ Fld Z h a1 "java/lang/String" "value" "[B" (.ref b) ∧ Fld Z h a1 "java/lang/String" "coder" "B" (.int (0 : Int32)) ∧ Arv Z h b kb .byte (2 : Int32) [(.int (nar .byte (c0.toInt8.toInt32))), (.int (nar .byte (c1.toInt8.toInt32)))] (.int (0 : Int32))
abbrev Gi4_2 (Z : State) (a1 : Addr) (a2 : Addr) (k : ClassId) (cs : Int32) (c0 : Int32) (c1 : Int32) (h0 : Heap) (n0 : Nat) (s : State) : Outcome → State → Prop := fun o U' => ∃ v L, o = .returned v ∧ Qi4_2 Z a1 a2 k cs c0 c1 h0 n0 v U'.heap L ∧ FrameEnd s o U' L ({ frames := 2, cells := 1, slots := 2, locals := 48 } : Room).cells ({ frames := 2, cells := 1, slots := 2, locals := 48 } : Room).slots
set_option maxRecDepth 65536 in
set_option maxHeartbeats 40000000 in
theorem rmi4_2 (l : Launch) (Z : State) (a0 : Array Value) (hw : ∀ d ∈ tables_1, d.before a0 Z = true) (ws : List Jvm.Cond) (a1 : Addr) (a2 : Addr) (k : ClassId) (cs : Int32) (c0 : Int32) (c1 : Int32) (h0 : Heap) (n0 : Nat) (Z0 : n0 ≤ h0.size) (E_a1 : Exa Z h0 a1 "java/lang/String") (F_value_a1 : Fld Z h0 a1 "java/lang/String" "value" "[B" .null) (F_coder_a1 : Fld Z h0 a1 "java/lang/String" "coder" "B" (.int (0 : Int32))) (g_a1 : n0 ≤ a1) (O0 : Old Z n0 h0) (S_COMPACT_STRINGS : Sta Z Z.heap "java/lang/String" "COMPACT_STRINGS" "Z" (.int cs)) (hcs : ¬ cs = (0 : Int32)) (V_a2 : Arv Z h0 a2 k .char (2 : Int32) [(.int c0), (.int c1)] (.int (0 : Int32))) (hc0 : ¬ (255 : Int32) < c0) (hc1 : ¬ (255 : Int32) < c1) :
    MetFree l (⟨"java/lang/String", "<init>", "([CIILjava/lang/Void;)V"⟩ : MethodName) (head1 (Jvm.Cond.code (⟨"java/lang/String", "<init>", "([CIILjava/lang/Void;)V"⟩ : MethodName) jdk_42_method_149_code 6 none :: ws) ({ frames := 2, cells := 1, slots := 2, locals := 48 } : Room)) (fun a U => a = #[(.ref a1), (.ref a2), (.int (0 : Int32)), (.int (2 : Int32)), .null] ∧ Z.Warmed39 U.vm ∧ U.heap = h0) (fun _ _ _ _ _ => True) (fun _ U o U' => ∃ v L, o = .returned v ∧ Qi4_2 Z a1 a2 k cs c0 c1 h0 n0 v U'.heap L ∧ FrameEnd U o U' L ({ frames := 2, cells := 1, slots := 2, locals := 48 } : Room).cells ({ frames := 2, cells := 1, slots := 2, locals := 48 } : Room).slots) := by
  refine MetFree.of_bodySF (plainFor_of_name pn_java_lang_String) hisR ?_
  intro p e s m args below meth c s₁ Bd hml0 hP hK
  obtain ⟨rfl, hZ, hh⟩ := hP
  have hx := Bd.exec
  have hby := Bd.bytes
  have hml : c.maxLocals = 6 := hml0
  have hown : s.vm.findClass "java/lang/String" = some m.cls := findClass_of_methodNamed Bd.named
  have hnm := (name_of_methodNamed Bd.named Bd.method).1
  have X0 : Stand p l e ({ frames := 2, cells := 1, slots := 2, locals := 48 } : Room) s m #[(.ref a1), (.ref a2), (.int (0 : Int32)), (.int (2 : Int32)), .null] below meth c s₁ [] 0 0 := Stand.of_body Bd
  have e0 : s₁.heap = h0 := by rw [← hh, Bd.state]; rfl
  have es0 : s.heap = h0 := hh
  have N0 := Fr.nil n0
  show own_Fin p e below (Gi4_2 Z a1 a2 k cs c0 c1 h0 n0 s) (s₁.setTop (entryFrame m #[(.ref a1), (.ref a2), (.int (0 : Int32)), (.int (2 : Int32)), .null] 6))
  rw [ef_i4_2 m a1 a2 (0 : Int32) (2 : Int32)]
  have Kz := Keep.refl h0 [a1]
  refine own_go (XS.aloadN X0.here hx rfl (hb hby d3_0) rfl rfl (Steps.refl _)) ?_
  show own_Fin _ _ _ _ (s₁.setTop (mkF m 1 #[rv a1, rv a2, iv (0 : Int32), iv (2 : Int32), .val .null, .unset] [(.ref a1)]))
  obtain ⟨T32, X32, e32, st32⟩ := initO X0 hx hZ hown (hw _ (List.mem_of_getElem? (i := 15) rfl)) (hw _ (List.mem_of_getElem? (i := 16) rfl)) (hw _ (List.mem_of_getElem? (i := 17) rfl)) e0 (g := (mkF m 1 #[rv a1, rv a2, iv (0 : Int32), iv (2 : Int32), .val .null, .unset] [(.ref a1)])) rfl (by rw [hml]; rfl) rfl (hb hby d3_1) (by decide) (W := 0) (by show 2 * 0 + _ ≤ _; exact Nat.le_of_eq rfl) (by decide)
  refine own_by st32 ?_
  show own_Fin _ _ _ _ (T32.setTop (mkF m 4 #[rv a1, rv a2, iv (0 : Int32), iv (2 : Int32), .val .null, .unset] []))
  refine own_go (XS.iloadN X32.here hx rfl (hb hby d3_4) rfl (Steps.refl _)) ?_
  show own_Fin _ _ _ _ (T32.setTop (mkF m 5 #[rv a1, rv a2, iv (0 : Int32), iv (2 : Int32), .val .null, .unset] [(.int (2 : Int32))]))
  refine own_go (XS.ifYes X32.here hx rfl (pc0 := 5) (pc' := 27) rfl (hb hby d3_5) rfl ((if0 _ _).trans (feq (by decide : ¬ ((2 : Int32) = (0 : Int32)))).2) (by decide) (by decide) (Steps.refl _)) ?_
  show own_Fin _ _ _ _ (T32.setTop (mkF m 27 #[rv a1, rv a2, iv (0 : Int32), iv (2 : Int32), .val .null, .unset] []))
  obtain ⟨T33, X33, e33, st33⟩ := getS2 X32 hx hZ hown (host := "") (Or.inl (hw _ (List.mem_of_getElem? (i := 51) rfl))) Via.refl e32 (S_COMPACT_STRINGS.ext O0.2) (g := (mkF m 27 #[rv a1, rv a2, iv (0 : Int32), iv (2 : Int32), .val .null, .unset] [])) rfl (hb hby d3_27)
  refine own_by st33 ?_
  show own_Fin _ _ _ _ (T33.setTop (mkF m 30 #[rv a1, rv a2, iv (0 : Int32), iv (2 : Int32), .val .null, .unset] [(.int cs)]))
  refine own_go (XS.ifNo X33.here hx rfl (hb hby d3_30) rfl ((if0 _ _).trans (feq (show ¬ (cs = (0 : Int32)) from hcs)).1) (Steps.refl _)) ?_
  show own_Fin _ _ _ _ (T33.setTop (mkF m 33 #[rv a1, rv a2, iv (0 : Int32), iv (2 : Int32), .val .null, .unset] []))
  refine own_go (XS.aloadN X33.here hx rfl (hb hby d3_33) rfl rfl (Steps.refl _)) ?_
  show own_Fin _ _ _ _ (T33.setTop (mkF m 34 #[rv a1, rv a2, iv (0 : Int32), iv (2 : Int32), .val .null, .unset] [(.ref a2)]))
  refine own_go (XS.iloadN X33.here hx rfl (hb hby d3_34) rfl (Steps.refl _)) ?_
  show own_Fin _ _ _ _ (T33.setTop (mkF m 35 #[rv a1, rv a2, iv (0 : Int32), iv (2 : Int32), .val .null, .unset] [(.int (0 : Int32)), (.ref a2)]))
  refine own_go (XS.iloadN X33.here hx rfl (hb hby d3_35) rfl (Steps.refl _)) ?_
  show own_Fin _ _ _ _ (T33.setTop (mkF m 36 #[rv a1, rv a2, iv (0 : Int32), iv (2 : Int32), .val .null, .unset] [(.int (2 : Int32)), (.int (0 : Int32)), (.ref a2)]))
  obtain ⟨_, _, ⟨T34, L34, k34, n34⟩, -, X34, ⟨Lc34, hQ34, l34, y34, z34⟩, st34⟩ := Jvm.LawKit.callS X33 hx (y := (⟨"java/lang/StringUTF16", "compress", "([CII)[B"⟩ : MethodName)) hown (mvT hZ (hw _ (List.mem_of_getElem? (i := 52) rfl))) (mvT hZ (hw _ (List.mem_of_getElem? (i := 53) rfl))) (mvT hZ (hw _ (List.mem_of_getElem? (i := 54) rfl))) (mvT hZ (hw _ (List.mem_of_getElem? (i := 55) rfl))) (by decide) (backOf (W := 0) (rmc3_2 l Z a0 hw [] a2 k c0 c1 h0 n0 Z0 V_a2 hc0 hc1) hZ (hw _ (List.mem_of_getElem? (i := 55) rfl)) (hw _ (List.mem_of_getElem? (i := 54) rfl)) (by decide) (by decide)) (g := (mkF m 36 #[rv a1, rv a2, iv (0 : Int32), iv (2 : Int32), .val .null, .unset] [(.int (2 : Int32)), (.int (0 : Int32)), (.ref a2)])) rfl (by rw [hml]; rfl) (argsL := [(.ref a2), (.int (0 : Int32)), (.int (2 : Int32))]) (rest := []) (lenOf pd__28__5b_CII_29__5b_B rfl) rfl (by show 2 * 0 + _ ≤ _; exact Nat.le_of_eq rfl) (hb hby d3_36) (fun _ hv => ⟨rfl, e33, (by decide : 0 + 1 ≤ _), (by decide : 0 + 2 ≤ _)⟩)
  dsimp only [Pt.U, Pt.locs, Pt.cells, Pt.slots] at X34 l34 y34 z34 st34 hQ34
  subst l34 y34 z34
  refine own_by st34 ?_
  obtain ⟨b_34, kb_34, rfl, Nq34, K34, g_b_34, sb_b_34, r34_0⟩ := hQ34
  have ne_a1_b_34 : a1 ≠ b_34 := Nat.ne_of_lt (Nat.lt_of_lt_of_le E_a1.lt sb_b_34)
  have ne_a2_b_34 : a2 ≠ b_34 := Nat.ne_of_lt (Nat.lt_of_lt_of_le V_a2.lt sb_b_34)
  have sz_b_34 : h0.size ≤ b_34 := Nat.le_trans Kz.1 sb_b_34
  have Od34 := O0.keep K34 all0
  have E_a1_34 := E_a1.keep K34
  have F_value_a1_34 := F_value_a1.keep K34 nin0
  have F_coder_a1_34 := F_coder_a1.keep K34 nin0
  have V_a2_34 := V_a2.keep K34 nin0
  have Z34 : n0 ≤ T34.heap.size := Nat.le_trans Z0 K34.1
  have Kt34 := Kz.trans K34 all0
  have N34 := Fr.app N0 Nq34
  show own_Fin _ _ _ _ (T34.setTop (mkF m 39 #[rv a1, rv a2, iv (0 : Int32), iv (2 : Int32), .val .null, .unset] [(.ref b_34)]))
  refine own_go (XS.astore X34.here hx rfl (hb hby d3_39) rfl rfl rfl (Steps.refl _)) ?_
  show own_Fin _ _ _ _ (T34.setTop (mkF m 41 #[rv a1, rv a2, iv (0 : Int32), iv (2 : Int32), .val .null, rv b_34] []))
  refine own_go (XS.aloadN X34.here hx rfl (hb hby d3_41) rfl rfl (Steps.refl _)) ?_
  show own_Fin _ _ _ _ (T34.setTop (mkF m 42 #[rv a1, rv a2, iv (0 : Int32), iv (2 : Int32), .val .null, rv b_34] [(.ref a1)]))
  refine own_go (XS.aload X34.here hx rfl (hb hby d3_42) rfl rfl (Steps.refl _)) ?_
  show own_Fin _ _ _ _ (T34.setTop (mkF m 44 #[rv a1, rv a2, iv (0 : Int32), iv (2 : Int32), .val .null, rv b_34] [(.ref b_34), (.ref a1)]))
  refine own_go (XS.iloadN X34.here hx rfl (hb hby d3_44) rfl (Steps.refl _)) ?_
  show own_Fin _ _ _ _ (T34.setTop (mkF m 45 #[rv a1, rv a2, iv (0 : Int32), iv (2 : Int32), .val .null, rv b_34] [(.int (2 : Int32)), (.ref b_34), (.ref a1)]))
  obtain ⟨_, _, ⟨T35, L35, k35, n35⟩, -, X35, ⟨Lc35, hQ35, l35, y35, z35⟩, st35⟩ := Jvm.LawKit.callS X34 hx (y := (⟨"java/lang/StringUTF16", "coderFromArrayLen", "([BI)B"⟩ : MethodName)) hown (mvT hZ (hw _ (List.mem_of_getElem? (i := 59) rfl))) (mvT hZ (hw _ (List.mem_of_getElem? (i := 60) rfl))) (mvT hZ (hw _ (List.mem_of_getElem? (i := 54) rfl))) (mvT hZ (hw _ (List.mem_of_getElem? (i := 61) rfl))) (by decide) (backOf (W := 1) (rmcf_2 l Z a0 hw [] b_34 kb_34 c0 c1 T34.heap n0 Z34 r34_0) hZ (hw _ (List.mem_of_getElem? (i := 61) rfl)) (hw _ (List.mem_of_getElem? (i := 54) rfl)) (by decide) (by decide)) (g := (mkF m 45 #[rv a1, rv a2, iv (0 : Int32), iv (2 : Int32), .val .null, rv b_34] [(.int (2 : Int32)), (.ref b_34), (.ref a1)])) rfl (by rw [hml]; rfl) (argsL := [(.ref b_34), (.int (2 : Int32))]) (rest := [(.ref a1)]) (lenOf pd__28__5b_BI_29_B rfl) rfl (by show 2 * 0 + _ ≤ _; exact Nat.le_of_eq rfl) (hb hby d3_45) (fun _ hv => ⟨rfl, rfl, (by decide : 1 + 0 ≤ _), (by decide : 2 + 0 ≤ _)⟩)
  dsimp only [Pt.U, Pt.locs, Pt.cells, Pt.slots] at X35 l35 y35 z35 st35 hQ35
  subst l35 y35 z35
  obtain ⟨rfl, Nq35, e35⟩ := hQ35
  refine own_by st35 ?_
  have N35 := Fr.app N34 Nq35
  show own_Fin _ _ _ _ (T35.setTop (mkF m 48 #[rv a1, rv a2, iv (0 : Int32), iv (2 : Int32), .val .null, rv b_34] [(.int (0 : Int32)), (.ref a1)]))
  obtain ⟨T36, h36, X36, e36, W36, st36⟩ := putFN X35 hx hZ hown (hw _ (List.mem_of_getElem? (i := 25) rfl)) Via.refl e35 F_coder_a1_34 E_a1_34 (Or.inr ⟨(hw _ (List.mem_of_getElem? (i := 21) rfl)), rfl, hnm⟩) (hw _ (List.mem_of_getElem? (i := 5) rfl)) (ty := .byte) (v' := (.int (nar .byte (0 : Int32)))) (by decide) rfl (fits_nar_byte _) (g := (mkF m 48 #[rv a1, rv a2, iv (0 : Int32), iv (2 : Int32), .val .null, rv b_34] [(.int (0 : Int32)), (.ref a1)])) rfl rfl (hb hby d3_48)
  refine own_by st36 ?_
  have F_coder_a1_36 := F_coder_a1_34.same W36
  have Od36 := Od34.wr W36 g_a1
  have E_a1_36 := E_a1_34.wr W36
  have F_value_a1_36 := F_value_a1_34.other W36 (Or.inr (slot_ne (Or.inr (hw _ (List.mem_of_getElem? (i := 20) rfl))) (Or.inr (hw _ (List.mem_of_getElem? (i := 21) rfl))) (by decide) (t := (.array .byte)) (t' := .byte) (by decide) (by decide)))
  have V_a2_36 := V_a2_34.other W36 (Ne.symm (Exa.neArv E_a1_34 V_a2_34 (hw _ (List.mem_of_getElem? (i := 5) rfl))))
  have r34_0_36 := r34_0.other W36 (Ne.symm ne_a1_b_34)
  have N36 := Fr.snoc X36 N35 g_a1
  have Z36 : n0 ≤ h36.size := Nat.le_trans Z34 (Keep.of_wr W36).1
  have K36 := Kt34.wr W36 (Or.inl (List.mem_of_getElem? (i := 0) rfl))
  show own_Fin _ _ _ _ (T36.setTop (mkF m 51 #[rv a1, rv a2, iv (0 : Int32), iv (2 : Int32), .val .null, rv b_34] []))
  refine own_go (XS.aloadN X36.here hx rfl (hb hby d3_51) rfl rfl (Steps.refl _)) ?_
  show own_Fin _ _ _ _ (T36.setTop (mkF m 52 #[rv a1, rv a2, iv (0 : Int32), iv (2 : Int32), .val .null, rv b_34] [(.ref a1)]))
  refine own_go (XS.aload X36.here hx rfl (hb hby d3_52) rfl rfl (Steps.refl _)) ?_
  show own_Fin _ _ _ _ (T36.setTop (mkF m 54 #[rv a1, rv a2, iv (0 : Int32), iv (2 : Int32), .val .null, rv b_34] [(.ref b_34), (.ref a1)]))
  obtain ⟨T37, h37, X37, e37, W37, st37⟩ := putF X36 hx hZ hown (host := "") (Or.inl (hw _ (List.mem_of_getElem? (i := 24) rfl))) Via.refl e36 F_value_a1_36 E_a1_36 (Or.inr ⟨(hw _ (List.mem_of_getElem? (i := 20) rfl)), rfl, hnm⟩) (hw _ (List.mem_of_getElem? (i := 5) rfl)) (ty := (.array .byte)) (by decide) rfl rfl (g := (mkF m 54 #[rv a1, rv a2, iv (0 : Int32), iv (2 : Int32), .val .null, rv b_34] [(.ref b_34), (.ref a1)])) rfl rfl (hb hby d3_54)
  refine own_by st37 ?_
  have F_value_a1_37 := F_value_a1_36.same W37
  have Od37 := Od36.wr W37 g_a1
  have E_a1_37 := E_a1_36.wr W37
  have F_coder_a1_37 := F_coder_a1_36.other W37 (Or.inr (slot_ne (Or.inr (hw _ (List.mem_of_getElem? (i := 21) rfl))) (Or.inr (hw _ (List.mem_of_getElem? (i := 20) rfl))) (by decide) (t := .byte) (t' := (.array .byte)) (by decide) (by decide)))
  have V_a2_37 := V_a2_36.other W37 (Ne.symm (Exa.neArv E_a1_36 V_a2_36 (hw _ (List.mem_of_getElem? (i := 5) rfl))))
  have r34_0_37 := r34_0_36.other W37 (Ne.symm ne_a1_b_34)
  have N37 := Fr.snoc X37 N36 g_a1
  have Z37 : n0 ≤ h37.size := Nat.le_trans Z36 (Keep.of_wr W37).1
  have K37 := K36.wr W37 (Or.inl (List.mem_of_getElem? (i := 0) rfl))
  show own_Fin _ _ _ _ (T37.setTop (mkF m 57 #[rv a1, rv a2, iv (0 : Int32), iv (2 : Int32), .val .null, rv b_34] []))
  obtain ⟨fs38, hr38, hrun38, hended38, hW38, hsame38⟩ := X37.leave (v := none) (fun _ => rfl)
  refine own_done (X37.returnOut hx Bd.returns (hb hby d3_57) hr38) hrun38 hended38 ⟨_, _, rfl, ?_, ⟨_, rfl⟩, hW38, hsame38.mono (by decide) (by decide)⟩
  show Qi4_2 Z a1 a2 k cs c0 c1 h0 n0 _ T37.heap _
  rw [e37]
  exact ⟨b_34, kb_34, rfl, N37, K37, g_b_34, sz_b_34, E_a1_37, F_value_a1_37, F_coder_a1_37, r34_0_37⟩
theorem ef_str_2 (m : MethodId) (x0 : Addr) (x1 : Addr) : entryFrame m #[(.ref x0), (.ref x1)] 2 = mkF m 0 #[.val (.ref x0), .val (.ref x1)] [] := by first | (simp [entryFrame, mkF, argsToLocals, Value.category]; done) | rfl
def Qstr_2 (Z : State) (a1 : Addr) (a2 : Addr) (k : ClassId) (cs : Int32) (c0 : Int32) (c1 : Int32) (h0 : Heap) (n0 : Nat) (v : Option Value) (h : Heap) (L : List Loc) : Prop := ∃ (b : Addr) (kb : ClassId), v = none ∧ Fr n0 L ∧ Keep h0 h [a1] ∧ n0 ≤ b ∧ h0.size ≤ b ∧ Exa Z h a1 "java/lang/String" ∧ Fld Z h a1 "java/lang/String" "value" "[B" (.ref b) ∧ Fld Z h a1 "java/lang/String" "coder" "B" (.int (0 : Int32)) ∧ Arv Z h b kb .byte (2 : Int32) [(.int (nar .byte (c0.toInt8.toInt32))), (.int (nar .byte (c1.toInt8.toInt32)))] (.int (0 : Int32))
abbrev Gstr_2 (Z : State) (a1 : Addr) (a2 : Addr) (k : ClassId) (cs : Int32) (c0 : Int32) (c1 : Int32) (h0 : Heap) (n0 : Nat) (s : State) : Outcome → State → Prop := fun o U' => ∃ v L, o = .returned v ∧ Qstr_2 Z a1 a2 k cs c0 c1 h0 n0 v U'.heap L ∧ FrameEnd s o U' L ({ frames := 3, cells := 1, slots := 2, locals := 68 } : Room).cells ({ frames := 3, cells := 1, slots := 2, locals := 68 } : Room).slots
set_option maxRecDepth 65536 in
set_option maxHeartbeats 40000000 in
theorem rmstr_2 (l : Launch) (Z : State) (a0 : Array Value) (hw : ∀ d ∈ tables_1, d.before a0 Z = true) (ws : List Jvm.Cond) (a1 : Addr) (a2 : Addr) (k : ClassId) (cs : Int32) (c0 : Int32) (c1 : Int32) (h0 : Heap) (n0 : Nat) (Z0 : n0 ≤ h0.size) (E_a1 : Exa Z h0 a1 "java/lang/String") (F_value_a1 : Fld Z h0 a1 "java/lang/String" "value" "[B" .null) (F_coder_a1 : Fld Z h0 a1 "java/lang/String" "coder" "B" (.int (0 : Int32))) (g_a1 : n0 ≤ a1) (O0 : Old Z n0 h0) (S_COMPACT_STRINGS : Sta Z Z.heap "java/lang/String" "COMPACT_STRINGS" "Z" (.int cs)) (hcs : ¬ cs = (0 : Int32)) (V_a2 : Arv Z h0 a2 k .char (2 : Int32) [(.int c0), (.int c1)] (.int (0 : Int32))) (hc0 : ¬ (255 : Int32) < c0) (hc1 : ¬ (255 : Int32) < c1) :
    MetFree l (⟨"java/lang/String", "<init>", "([C)V"⟩ : MethodName) (head1 (Jvm.Cond.code (⟨"java/lang/String", "<init>", "([C)V"⟩ : MethodName) jdk_42_method_3_code 2 none :: ws) ({ frames := 3, cells := 1, slots := 2, locals := 68 } : Room)) (fun a U => a = #[(.ref a1), (.ref a2)] ∧ Z.Warmed39 U.vm ∧ U.heap = h0) (fun _ _ _ _ _ => True) (fun _ U o U' => ∃ v L, o = .returned v ∧ Qstr_2 Z a1 a2 k cs c0 c1 h0 n0 v U'.heap L ∧ FrameEnd U o U' L ({ frames := 3, cells := 1, slots := 2, locals := 68 } : Room).cells ({ frames := 3, cells := 1, slots := 2, locals := 68 } : Room).slots) := by
  refine MetFree.of_bodySF (plainFor_of_name pn_java_lang_String) hisR ?_
  intro p e s m args below meth c s₁ Bd hml0 hP hK
  obtain ⟨rfl, hZ, hh⟩ := hP
  have hx := Bd.exec
  have hby := Bd.bytes
  have hml : c.maxLocals = 2 := hml0
  have hown : s.vm.findClass "java/lang/String" = some m.cls := findClass_of_methodNamed Bd.named
  have hnm := (name_of_methodNamed Bd.named Bd.method).1
  have X0 : Stand p l e ({ frames := 3, cells := 1, slots := 2, locals := 68 } : Room) s m #[(.ref a1), (.ref a2)] below meth c s₁ [] 0 0 := Stand.of_body Bd
  have e0 : s₁.heap = h0 := by rw [← hh, Bd.state]; rfl
  have es0 : s.heap = h0 := hh
  have N0 := Fr.nil n0
  show own_Fin p e below (Gstr_2 Z a1 a2 k cs c0 c1 h0 n0 s) (s₁.setTop (entryFrame m #[(.ref a1), (.ref a2)] 2))
  rw [ef_str_2 m a1 a2]
  have Kz := Keep.refl h0 [a1]
  refine own_go (XS.aloadN X0.here hx rfl (hb hby d2_0) rfl rfl (Steps.refl _)) ?_
  show own_Fin _ _ _ _ (s₁.setTop (mkF m 1 #[rv a1, rv a2] [(.ref a1)]))
  refine own_go (XS.aloadN X0.here hx rfl (hb hby d2_1) rfl rfl (Steps.refl _)) ?_
  show own_Fin _ _ _ _ (s₁.setTop (mkF m 2 #[rv a1, rv a2] [(.ref a2), (.ref a1)]))
  refine own_go (XS.iconst X0.here hx rfl (hb hby d2_2) (Steps.refl _)) ?_
  show own_Fin _ _ _ _ (s₁.setTop (mkF m 3 #[rv a1, rv a2] [(.int (0 : Int32)), (.ref a2), (.ref a1)]))
  refine own_go (XS.aloadN X0.here hx rfl (hb hby d2_3) rfl rfl (Steps.refl _)) ?_
  show own_Fin _ _ _ _ (s₁.setTop (mkF m 4 #[rv a1, rv a2] [(.ref a2), (.int (0 : Int32)), (.ref a2), (.ref a1)]))
  obtain ⟨cl39, Ar39, qa39, Sa39, Na39, Ha39, Ga39⟩ := id V_a2
  refine own_by (X0.arraylength hx (by rw [e0]; exact Ar39.1) (State.isArrayOf_alike hZ.alike Ar39.2.1) (g := (mkF m 4 #[rv a1, rv a2] [(.ref a2), (.int (0 : Int32)), (.ref a2), (.ref a1)])) rfl rfl (hb hby d2_4)) ?_
  rw [len_of Sa39 Na39]
  show own_Fin _ _ _ _ (s₁.setTop (mkF m 5 #[rv a1, rv a2] [(.int (2 : Int32)), (.int (0 : Int32)), (.ref a2), (.ref a1)]))
  refine own_go (XS.aconstNull X0.here hx rfl (hb hby d2_5) (Steps.refl _)) ?_
  show own_Fin _ _ _ _ (s₁.setTop (mkF m 6 #[rv a1, rv a2] [.null, (.int (2 : Int32)), (.int (0 : Int32)), (.ref a2), (.ref a1)]))
  obtain ⟨_, _, ⟨T40, L40, k40, n40⟩, -, X40, ⟨Lc40, hQ40, l40, y40, z40⟩, st40⟩ := X0.specialBack hx (y := (⟨"java/lang/String", "<init>", "([CIILjava/lang/Void;)V"⟩ : MethodName)) rfl hown (mvT hZ (hw _ (List.mem_of_getElem? (i := 11) rfl))) (mvT hZ (hw _ (List.mem_of_getElem? (i := 12) rfl))) (mvT hZ (hw _ (List.mem_of_getElem? (i := 14) rfl))) (by decide) (backOf (W := 0) (rmi4_2 l Z a0 hw [] a1 a2 k cs c0 c1 h0 n0 Z0 E_a1 F_value_a1 F_coder_a1 g_a1 O0 S_COMPACT_STRINGS hcs V_a2 hc0 hc1) hZ (hw _ (List.mem_of_getElem? (i := 14) rfl)) (hw _ (List.mem_of_getElem? (i := 6) rfl)) (by decide) (by decide)) (g := (mkF m 6 #[rv a1, rv a2] [.null, (.int (2 : Int32)), (.int (0 : Int32)), (.ref a2), (.ref a1)])) rfl (by rw [hml]; rfl) (Steps.refl _) (a := a1) (argsL := [(.ref a2), (.int (0 : Int32)), (.int (2 : Int32)), .null]) (rest := []) (lenOf pd__28__5b_CIILjava_2f_lang_2f_Void_3b__29_V rfl) rfl (by show 2 * 0 + _ ≤ _; exact Nat.le_of_eq rfl) (hb hby d2_6) (fun _ hv => ⟨rfl, e0, (by decide : 0 + 1 ≤ _), (by decide : 0 + 2 ≤ _)⟩)
  dsimp only [Pt.U, Pt.locs, Pt.cells, Pt.slots] at X40 l40 y40 z40 st40 hQ40
  subst l40 y40 z40
  refine own_go st40 ?_
  obtain ⟨b_40, kb_40, rfl, Nq40, K40, g_b_40, sb_b_40, r40_0, r40_1, r40_2, r40_3⟩ := hQ40
  have ne_a1_b_40 : a1 ≠ b_40 := Nat.ne_of_lt (Nat.lt_of_lt_of_le E_a1.lt sb_b_40)
  have ne_a2_b_40 : a2 ≠ b_40 := Nat.ne_of_lt (Nat.lt_of_lt_of_le V_a2.lt sb_b_40)
  have sz_b_40 : h0.size ≤ b_40 := Nat.le_trans Kz.1 sb_b_40
  have Od40 := O0.keep K40 (allS g_a1 all0)
  have E_a1_40 := E_a1.keep K40
  have V_a2_40 := V_a2.keep K40 (ninS (Ne.symm (Exa.neArv E_a1 V_a2 (hw _ (List.mem_of_getElem? (i := 5) rfl)))) nin0)
  have Z40 : n0 ≤ T40.heap.size := Nat.le_trans Z0 K40.1
  have Kt40 := Kz.trans K40 (allS (P := fun x => x ∈ _ ∨ _ ≤ x) (Or.inl (List.mem_of_getElem? (i := 0) rfl)) all0)
  have N40 := Fr.app N0 Nq40
  show own_Fin _ _ _ _ (T40.setTop (mkF m 9 #[rv a1, rv a2] []))
  obtain ⟨fs41, hr41, hrun41, hended41, hW41, hsame41⟩ := X40.leave (v := none) (fun _ => rfl)
  refine own_done (X40.returnOut hx Bd.returns (hb hby d2_9) hr41) hrun41 hended41 ⟨_, _, rfl, ?_, ⟨_, rfl⟩, hW41, hsame41.mono (by decide) (by decide)⟩
  show Qstr_2 Z a1 a2 k cs c0 c1 h0 n0 _ T40.heap _
  exact ⟨b_40, kb_40, rfl, N40, Kt40, g_b_40, sz_b_40, r40_0, r40_1, r40_2, r40_3⟩
theorem ef_i4_0 (m : MethodId) (x0 : Addr) (x1 : Addr) (x2 : Int32) (x3 : Int32) : entryFrame m #[(.ref x0), (.ref x1), (.int x2), (.int x3), .null] 6 = mkF m 0 #[.val (.ref x0), .val (.ref x1), .val (.int x2), .val (.int x3), .val .null, .unset] [] := by first | (simp [entryFrame, mkF, argsToLocals, Value.category]; done) | rfl
def Qi4_0 (Z : State) (a1 : Addr) (a2 : Addr) (k : ClassId) (h0 : Heap) (n0 : Nat) (v : Option Value) (h : Heap) (L : List Loc) : Prop := v = none ∧ Fr n0 L ∧ Keep h0 h [a1] ∧ Exa Z h a1 "java/lang/String"
abbrev Gi4_0 (Z : State) (a1 : Addr) (a2 : Addr) (k : ClassId) (h0 : Heap) (n0 : Nat) (s : State) : Outcome → State → Prop := fun o U' => ∃ v L, o = .returned v ∧ (Qi4_0 Z a1 a2 k h0 n0 v U'.heap L ∧ own_K Z U'.heap U'.vm) ∧ ReturnedEndW s o U' L ({ frames := 1, cells := 2, slots := 4, locals := 12 } : Room).cells ({ frames := 1, cells := 2, slots := 4, locals := 12 } : Room).slots
set_option maxRecDepth 65536 in
set_option maxHeartbeats 40000000 in
theorem rmi4_0 (l : Launch) (Z : State) (a0 : Array Value) (hw : ∀ d ∈ tables_1, d.before a0 Z = true) (ws : List Jvm.Cond) (a1 : Addr) (a2 : Addr) (k : ClassId) (h0 : Heap) (n0 : Nat) (Z0 : n0 ≤ h0.size) (E_a1 : Exa Z h0 a1 "java/lang/String") (F_value_a1 : Fld Z h0 a1 "java/lang/String" "value" "[B" .null) (F_coder_a1 : Fld Z h0 a1 "java/lang/String" "coder" "B" (.int (0 : Int32))) (g_a1 : n0 ≤ a1) (O0 : Old Z n0 h0) (V_a2 : Arv Z h0 a2 k .char (0 : Int32) [] (.int (0 : Int32))) (hh7 : Jvm.Lit.constHeld Z "java/lang/String" 7) (hcw : Jvm.Lit.compactW.before a0 Z = true) :
    MetFree l (⟨"java/lang/String", "<init>", "([CIILjava/lang/Void;)V"⟩ : MethodName) (head1 (Jvm.Cond.code (⟨"java/lang/String", "<init>", "([CIILjava/lang/Void;)V"⟩ : MethodName) jdk_42_method_149_code 6 none :: ws) ({ frames := 1, cells := 2, slots := 4, locals := 12 } : Room)) (fun a U => a = #[(.ref a1), (.ref a2), (.int (0 : Int32)), (.int (0 : Int32)), .null] ∧ (Z.Warmed39 U.vm ∧ own_K Z h0 U.vm) ∧ U.heap = h0) (fun _ _ _ _ _ => True) (fun _ U o U' => ∃ v L, o = .returned v ∧ (Qi4_0 Z a1 a2 k h0 n0 v U'.heap L ∧ own_K Z U'.heap U'.vm) ∧ ReturnedEndW U o U' L ({ frames := 1, cells := 2, slots := 4, locals := 12 } : Room).cells ({ frames := 1, cells := 2, slots := 4, locals := 12 } : Room).slots) := by
  refine MetFree.of_bodySF (plainFor_of_name pn_java_lang_String) hisR ?_
  intro p e s m args below meth c s₁ Bd hml0 hP hK
  obtain ⟨rfl, ⟨hZ, hK0⟩, hh⟩ := hP
  have hx := Bd.exec
  have hby := Bd.bytes
  have hml : c.maxLocals = 6 := hml0
  have hown : s.vm.findClass "java/lang/String" = some m.cls := findClass_of_methodNamed Bd.named
  have hnm := (name_of_methodNamed Bd.named Bd.method).1
  have X0 : Stand p l e ({ frames := 1, cells := 2, slots := 4, locals := 12 } : Room) s m #[(.ref a1), (.ref a2), (.int (0 : Int32)), (.int (0 : Int32)), .null] below meth c s₁ [] 0 0 := Stand.of_body Bd
  have e0 : s₁.heap = h0 := by rw [← hh, Bd.state]; rfl
  have es0 : s.heap = h0 := hh
  have N0 := Fr.nil n0
  show own_Fin p e below (Gi4_0 Z a1 a2 k h0 n0 s) (s₁.setTop (entryFrame m #[(.ref a1), (.ref a2), (.int (0 : Int32)), (.int (0 : Int32)), .null] 6))
  rw [ef_i4_0 m a1 a2 (0 : Int32) (0 : Int32)]
  have X0w : Stand p l e ({ frames := 1, cells := 2, slots := 4, locals := 12 } : Room) (s.setVm s.vm) m #[(.ref a1), (.ref a2), (.int (0 : Int32)), (.int (0 : Int32)), .null] below meth c s₁ [] 0 0 := X0
  have hS0 : s.Since s.vm 0 := (State.WarmedH.refl s).since 0
  have hk0 : 0 ≤ h0.size := Nat.zero_le _
  have Kz := Keep.refl h0 [a1]
  have wS : ∀ a ∈ Bundle.stringAtoms, a.before a0 Z = true := by
    intro d hd
    simp only [Bundle.stringAtoms, List.mem_cons, List.not_mem_nil, or_false] at hd
    rcases hd with rfl | rfl | rfl | rfl | rfl | rfl | rfl
    · exact (hw _ (List.mem_of_getElem? (i := 6) rfl))
    · exact (hw _ (List.mem_of_getElem? (i := 5) rfl))
    · exact (hw _ (List.mem_of_getElem? (i := 19) rfl))
    · exact (hw _ (List.mem_of_getElem? (i := 20) rfl))
    · exact (hw _ (List.mem_of_getElem? (i := 21) rfl))
    · exact (hw _ (List.mem_of_getElem? (i := 22) rfl))
    · exact (hw _ (List.mem_of_getElem? (i := 23) rfl))
  refine own_go (XS.aloadN X0w.here hx rfl (hb hby d3_0) rfl rfl (Steps.refl _)) ?_
  show own_Fin _ _ _ _ (s₁.setTop (mkF m 1 #[rv a1, rv a2, iv (0 : Int32), iv (0 : Int32), .val .null, .unset] [(.ref a1)]))
  obtain ⟨T42, X42, e42, st42⟩ := initO X0w hx hZ hown (hw _ (List.mem_of_getElem? (i := 15) rfl)) (hw _ (List.mem_of_getElem? (i := 16) rfl)) (hw _ (List.mem_of_getElem? (i := 17) rfl)) e0 (g := (mkF m 1 #[rv a1, rv a2, iv (0 : Int32), iv (0 : Int32), .val .null, .unset] [(.ref a1)])) rfl (by rw [hml]; rfl) rfl (hb hby d3_1) (by decide) (W := 0) (by show 2 * 0 + _ ≤ _; exact Nat.le_of_eq rfl) (by decide)
  refine own_by st42 ?_
  show own_Fin _ _ _ _ (T42.setTop (mkF m 4 #[rv a1, rv a2, iv (0 : Int32), iv (0 : Int32), .val .null, .unset] []))
  refine own_go (XS.iloadN X42.here hx rfl (hb hby d3_4) rfl (Steps.refl _)) ?_
  show own_Fin _ _ _ _ (T42.setTop (mkF m 5 #[rv a1, rv a2, iv (0 : Int32), iv (0 : Int32), .val .null, .unset] [(.int (0 : Int32))]))
  refine own_go (XS.ifNo X42.here hx rfl (hb hby d3_5) rfl ((if0 _ _).trans (teq (by decide : (0 : Int32) = (0 : Int32))).2) (Steps.refl _)) ?_
  show own_Fin _ _ _ _ (T42.setTop (mkF m 8 #[rv a1, rv a2, iv (0 : Int32), iv (0 : Int32), .val .null, .unset] []))
  refine own_go (XS.aloadN X42.here hx rfl (hb hby d3_8) rfl rfl (Steps.refl _)) ?_
  show own_Fin _ _ _ _ (T42.setTop (mkF m 9 #[rv a1, rv a2, iv (0 : Int32), iv (0 : Int32), .val .null, .unset] [(.ref a1)]))
  obtain ⟨a43, T43, h43, k43, b43, vm43, X43, e43, E43, hS43, hk43, hZ43, hown43, Ex43, Fc43, Fv43, Li43, st43⟩ := own_ldcK (s := s) (vm0 := s.vm) X42 hx hZ hown (hw _ (List.mem_of_getElem? (i := 18) rfl)) wS e42 hS0 hk0 (fun b cl q => by rw [es0]; exact O0.2.2 b cl q) hK0 hh7 hcw (g := (mkF m 9 #[rv a1, rv a2, iv (0 : Int32), iv (0 : Int32), .val .null, .unset] [(.ref a1)])) rfl (hb hby d3_9) (by decide) (by decide)
  refine own_by st43 ?_
  have Od43 := O0.ext E43
  have E_a1_43 := E_a1.ext E43
  have F_value_a1_43 := F_value_a1.ext E43
  have F_coder_a1_43 := F_coder_a1.ext E43
  have V_a2_43 := V_a2.ext E43
  have Z43 : n0 ≤ h43.size := Nat.le_trans Z0 E43.1
  have K43 := Kz.ext E43
  show own_Fin _ _ _ _ (T43.setTop (mkF m 11 #[rv a1, rv a2, iv (0 : Int32), iv (0 : Int32), .val .null, .unset] [(.ref a43), (.ref a1)]))
  have ne_a1_a43 : a1 ≠ a43 := Fld.ne F_value_a1_43 Fv43 (fun q => by cases q)
  obtain ⟨T44, X44, e44, st44⟩ := getF X43 hx hZ43 hown43 (host := "") (Or.inl (hw _ (List.mem_of_getElem? (i := 24) rfl))) Via.refl e43 Fv43 (g := (mkF m 11 #[rv a1, rv a2, iv (0 : Int32), iv (0 : Int32), .val .null, .unset] [(.ref a43), (.ref a1)])) rfl rfl (hb hby d3_11)
  refine own_by st44 ?_
  show own_Fin _ _ _ _ (T44.setTop (mkF m 14 #[rv a1, rv a2, iv (0 : Int32), iv (0 : Int32), .val .null, .unset] [(.ref b43), (.ref a1)]))
  obtain ⟨T45, h45, X45, e45, W45, st45⟩ := putF X44 hx hZ43 hown43 (host := "") (Or.inl (hw _ (List.mem_of_getElem? (i := 24) rfl))) Via.refl e44 F_value_a1_43 E_a1_43 (Or.inr ⟨(hw _ (List.mem_of_getElem? (i := 20) rfl)), rfl, hnm⟩) (hw _ (List.mem_of_getElem? (i := 5) rfl)) (ty := (.array .byte)) (by decide) rfl rfl (g := (mkF m 14 #[rv a1, rv a2, iv (0 : Int32), iv (0 : Int32), .val .null, .unset] [(.ref b43), (.ref a1)])) rfl rfl (hb hby d3_14)
  refine own_by st45 ?_
  have F_value_a1_45 := F_value_a1_43.same W45
  have Od45 := Od43.wr W45 g_a1
  have E_a1_45 := E_a1_43.wr W45
  have F_coder_a1_45 := F_coder_a1_43.other W45 (Or.inr (slot_ne (Or.inr (hw _ (List.mem_of_getElem? (i := 21) rfl))) (Or.inr (hw _ (List.mem_of_getElem? (i := 20) rfl))) (by decide) (t := .byte) (t' := (.array .byte)) (by decide) (by decide)))
  have V_a2_45 := V_a2_43.other W45 (Ne.symm (Exa.neArv E_a1_43 V_a2_43 (hw _ (List.mem_of_getElem? (i := 5) rfl))))
  have Ex43_45 := Ex43.wr W45
  have Fc43_45 := Fc43.other W45 (Or.inl (Ne.symm ne_a1_a43))
  have Fv43_45 := Fv43.other W45 (Or.inl (Ne.symm ne_a1_a43))
  have N45 := Fr.snoc X45 N0 g_a1
  have Z45 : n0 ≤ h45.size := Nat.le_trans Z43 (Keep.of_wr W45).1
  have hk45 : k43 ≤ h45.size := Nat.le_trans hk43 (Keep.of_wr W45).1
  have K45 := K43.wr W45 (Or.inl (List.mem_of_getElem? (i := 0) rfl))
  show own_Fin _ _ _ _ (T45.setTop (mkF m 17 #[rv a1, rv a2, iv (0 : Int32), iv (0 : Int32), .val .null, .unset] []))
  refine own_go (XS.aloadN X45.here hx rfl (hb hby d3_17) rfl rfl (Steps.refl _)) ?_
  show own_Fin _ _ _ _ (T45.setTop (mkF m 18 #[rv a1, rv a2, iv (0 : Int32), iv (0 : Int32), .val .null, .unset] [(.ref a1)]))
  refine own_by (ldcAgain (s := s) (vm0 := vm43) X45 hx hZ43 hown43 (hw _ (List.mem_of_getElem? (i := 18) rfl)) Li43 (g := (mkF m 18 #[rv a1, rv a2, iv (0 : Int32), iv (0 : Int32), .val .null, .unset] [(.ref a1)])) rfl (hb hby d3_18)) ?_
  show own_Fin _ _ _ _ (T45.setTop (mkF m 20 #[rv a1, rv a2, iv (0 : Int32), iv (0 : Int32), .val .null, .unset] [(.ref a43), (.ref a1)]))
  obtain ⟨T46, X46, e46, st46⟩ := getF X45 hx hZ43 hown43 (host := "") (Or.inl (hw _ (List.mem_of_getElem? (i := 25) rfl))) Via.refl e45 Fc43_45 (g := (mkF m 20 #[rv a1, rv a2, iv (0 : Int32), iv (0 : Int32), .val .null, .unset] [(.ref a43), (.ref a1)])) rfl rfl (hb hby d3_20)
  refine own_by st46 ?_
  show own_Fin _ _ _ _ (T46.setTop (mkF m 23 #[rv a1, rv a2, iv (0 : Int32), iv (0 : Int32), .val .null, .unset] [(.int (0 : Int32)), (.ref a1)]))
  obtain ⟨T47, h47, X47, e47, W47, st47⟩ := putFN X46 hx hZ43 hown43 (hw _ (List.mem_of_getElem? (i := 25) rfl)) Via.refl e46 F_coder_a1_45 E_a1_45 (Or.inr ⟨(hw _ (List.mem_of_getElem? (i := 21) rfl)), rfl, hnm⟩) (hw _ (List.mem_of_getElem? (i := 5) rfl)) (ty := .byte) (v' := (.int (nar .byte (0 : Int32)))) (by decide) rfl (fits_nar_byte _) (g := (mkF m 23 #[rv a1, rv a2, iv (0 : Int32), iv (0 : Int32), .val .null, .unset] [(.int (0 : Int32)), (.ref a1)])) rfl rfl (hb hby d3_23)
  refine own_by st47 ?_
  have F_coder_a1_47 := F_coder_a1_45.same W47
  have Od47 := Od45.wr W47 g_a1
  have E_a1_47 := E_a1_45.wr W47
  have F_value_a1_47 := F_value_a1_45.other W47 (Or.inr (slot_ne (Or.inr (hw _ (List.mem_of_getElem? (i := 20) rfl))) (Or.inr (hw _ (List.mem_of_getElem? (i := 21) rfl))) (by decide) (t := (.array .byte)) (t' := .byte) (by decide) (by decide)))
  have V_a2_47 := V_a2_45.other W47 (Ne.symm (Exa.neArv E_a1_45 V_a2_45 (hw _ (List.mem_of_getElem? (i := 5) rfl))))
  have Ex43_47 := Ex43_45.wr W47
  have Fc43_47 := Fc43_45.other W47 (Or.inl (Ne.symm ne_a1_a43))
  have Fv43_47 := Fv43_45.other W47 (Or.inl (Ne.symm ne_a1_a43))
  have N47 := Fr.snoc X47 N45 g_a1
  have Z47 : n0 ≤ h47.size := Nat.le_trans Z45 (Keep.of_wr W47).1
  have hk47 : k43 ≤ h47.size := Nat.le_trans hk45 (Keep.of_wr W47).1
  have K47 := K45.wr W47 (Or.inl (List.mem_of_getElem? (i := 0) rfl))
  show own_Fin _ _ _ _ (T47.setTop (mkF m 26 #[rv a1, rv a2, iv (0 : Int32), iv (0 : Int32), .val .null, .unset] []))
  obtain ⟨fs48, hr48, hrun48, hended48, hRW48⟩ := X47.leaveW (s := s) hS43 (n := k43) (by rw [e47]; exact hk47) (v := none) (fun _ => rfl)
  refine own_done (X47.returnOut hx Bd.returns (hb hby d3_26) hr48) hrun48 hended48 ⟨_, _, rfl, ?_, hRW48.1, hRW48.2.1, hRW48.2.2.1, hRW48.2.2.2.mono (by decide) (by decide)⟩
  show (Qi4_0 Z a1 a2 k h0 n0 _ T47.heap _ ∧ own_K Z T47.heap T47.vm)
  rw [e47]
  exact ⟨⟨rfl, N47, K47, E_a1_47⟩, own_K.warm (s := s) (vm0 := vm43) (Or.inr ⟨a43, b43, Li43, Ex43_47, Fc43_47, Fv43_47⟩) X47.warmed⟩
theorem ef_str_0 (m : MethodId) (x0 : Addr) (x1 : Addr) : entryFrame m #[(.ref x0), (.ref x1)] 2 = mkF m 0 #[.val (.ref x0), .val (.ref x1)] [] := by first | (simp [entryFrame, mkF, argsToLocals, Value.category]; done) | rfl
def Qstr_0 (Z : State) (a1 : Addr) (a2 : Addr) (k : ClassId) (h0 : Heap) (n0 : Nat) (v : Option Value) (h : Heap) (L : List Loc) : Prop := v = none ∧ Fr n0 L ∧ Keep h0 h [a1] ∧ Exa Z h a1 "java/lang/String"
abbrev Gstr_0 (Z : State) (a1 : Addr) (a2 : Addr) (k : ClassId) (h0 : Heap) (n0 : Nat) (s : State) : Outcome → State → Prop := fun o U' => ∃ v L, o = .returned v ∧ (Qstr_0 Z a1 a2 k h0 n0 v U'.heap L ∧ own_K Z U'.heap U'.vm) ∧ ReturnedEndW s o U' L ({ frames := 2, cells := 2, slots := 4, locals := 40 } : Room).cells ({ frames := 2, cells := 2, slots := 4, locals := 40 } : Room).slots
set_option maxRecDepth 65536 in
set_option maxHeartbeats 40000000 in
theorem rmstr_0 (l : Launch) (Z : State) (a0 : Array Value) (hw : ∀ d ∈ tables_1, d.before a0 Z = true) (ws : List Jvm.Cond) (a1 : Addr) (a2 : Addr) (k : ClassId) (h0 : Heap) (n0 : Nat) (Z0 : n0 ≤ h0.size) (E_a1 : Exa Z h0 a1 "java/lang/String") (F_value_a1 : Fld Z h0 a1 "java/lang/String" "value" "[B" .null) (F_coder_a1 : Fld Z h0 a1 "java/lang/String" "coder" "B" (.int (0 : Int32))) (g_a1 : n0 ≤ a1) (O0 : Old Z n0 h0) (V_a2 : Arv Z h0 a2 k .char (0 : Int32) [] (.int (0 : Int32))) (hh7 : Jvm.Lit.constHeld Z "java/lang/String" 7) (hcw : Jvm.Lit.compactW.before a0 Z = true) :
    MetFree l (⟨"java/lang/String", "<init>", "([C)V"⟩ : MethodName) (head1 (Jvm.Cond.code (⟨"java/lang/String", "<init>", "([C)V"⟩ : MethodName) jdk_42_method_3_code 2 none :: ws) ({ frames := 2, cells := 2, slots := 4, locals := 40 } : Room)) (fun a U => a = #[(.ref a1), (.ref a2)] ∧ (Z.Warmed39 U.vm ∧ own_K Z h0 U.vm) ∧ U.heap = h0) (fun _ _ _ _ _ => True) (fun _ U o U' => ∃ v L, o = .returned v ∧ (Qstr_0 Z a1 a2 k h0 n0 v U'.heap L ∧ own_K Z U'.heap U'.vm) ∧ ReturnedEndW U o U' L ({ frames := 2, cells := 2, slots := 4, locals := 40 } : Room).cells ({ frames := 2, cells := 2, slots := 4, locals := 40 } : Room).slots) := by
  refine MetFree.of_bodySF (plainFor_of_name pn_java_lang_String) hisR ?_
  intro p e s m args below meth c s₁ Bd hml0 hP hK
  obtain ⟨rfl, ⟨hZ, hK0⟩, hh⟩ := hP
  have hx := Bd.exec
  have hby := Bd.bytes
  have hml : c.maxLocals = 2 := hml0
  have hown : s.vm.findClass "java/lang/String" = some m.cls := findClass_of_methodNamed Bd.named
  have hnm := (name_of_methodNamed Bd.named Bd.method).1
  have X0 : Stand p l e ({ frames := 2, cells := 2, slots := 4, locals := 40 } : Room) s m #[(.ref a1), (.ref a2)] below meth c s₁ [] 0 0 := Stand.of_body Bd
  have e0 : s₁.heap = h0 := by rw [← hh, Bd.state]; rfl
  have es0 : s.heap = h0 := hh
  have N0 := Fr.nil n0
  show own_Fin p e below (Gstr_0 Z a1 a2 k h0 n0 s) (s₁.setTop (entryFrame m #[(.ref a1), (.ref a2)] 2))
  rw [ef_str_0 m a1 a2]
  have X0w : Stand p l e ({ frames := 2, cells := 2, slots := 4, locals := 40 } : Room) (s.setVm s.vm) m #[(.ref a1), (.ref a2)] below meth c s₁ [] 0 0 := X0
  have hS0 : s.Since s.vm 0 := (State.WarmedH.refl s).since 0
  have hk0 : 0 ≤ h0.size := Nat.zero_le _
  have Kz := Keep.refl h0 [a1]
  refine own_go (XS.aloadN X0w.here hx rfl (hb hby d2_0) rfl rfl (Steps.refl _)) ?_
  show own_Fin _ _ _ _ (s₁.setTop (mkF m 1 #[rv a1, rv a2] [(.ref a1)]))
  refine own_go (XS.aloadN X0w.here hx rfl (hb hby d2_1) rfl rfl (Steps.refl _)) ?_
  show own_Fin _ _ _ _ (s₁.setTop (mkF m 2 #[rv a1, rv a2] [(.ref a2), (.ref a1)]))
  refine own_go (XS.iconst X0w.here hx rfl (hb hby d2_2) (Steps.refl _)) ?_
  show own_Fin _ _ _ _ (s₁.setTop (mkF m 3 #[rv a1, rv a2] [(.int (0 : Int32)), (.ref a2), (.ref a1)]))
  refine own_go (XS.aloadN X0w.here hx rfl (hb hby d2_3) rfl rfl (Steps.refl _)) ?_
  show own_Fin _ _ _ _ (s₁.setTop (mkF m 4 #[rv a1, rv a2] [(.ref a2), (.int (0 : Int32)), (.ref a2), (.ref a1)]))
  obtain ⟨cl49, Ar49, qa49, Sa49, Na49, Ha49, Ga49⟩ := id V_a2
  refine own_by (X0w.arraylength hx (by rw [e0]; exact Ar49.1) (State.isArrayOf_alike hZ.alike Ar49.2.1) (g := (mkF m 4 #[rv a1, rv a2] [(.ref a2), (.int (0 : Int32)), (.ref a2), (.ref a1)])) rfl rfl (hb hby d2_4)) ?_
  rw [len_of Sa49 Na49]
  show own_Fin _ _ _ _ (s₁.setTop (mkF m 5 #[rv a1, rv a2] [(.int (0 : Int32)), (.int (0 : Int32)), (.ref a2), (.ref a1)]))
  refine own_go (XS.aconstNull X0w.here hx rfl (hb hby d2_5) (Steps.refl _)) ?_
  show own_Fin _ _ _ _ (s₁.setTop (mkF m 6 #[rv a1, rv a2] [.null, (.int (0 : Int32)), (.int (0 : Int32)), (.ref a2), (.ref a1)]))
  obtain ⟨_, _, ⟨T50, L50, k50, n50⟩, -, X50, hs250, hgr50, ⟨Lc50, ⟨hQ50, hK50⟩, l50, y50, z50⟩, st50⟩ := X0w.specialBackS hx (y := (⟨"java/lang/String", "<init>", "([CIILjava/lang/Void;)V"⟩ : MethodName)) rfl hown (mvT hZ (hw _ (List.mem_of_getElem? (i := 11) rfl))) (mvT hZ (hw _ (List.mem_of_getElem? (i := 12) rfl))) (mvT hZ (hw _ (List.mem_of_getElem? (i := 14) rfl))) (by decide) (own_backK (W := 0) (rmi4_0 l Z a0 hw [] a1 a2 k h0 n0 Z0 E_a1 F_value_a1 F_coder_a1 g_a1 O0 V_a2 hh7 hcw) hZ (hw _ (List.mem_of_getElem? (i := 14) rfl)) (hw _ (List.mem_of_getElem? (i := 6) rfl)) (by decide) (by decide)) (g := (mkF m 6 #[rv a1, rv a2] [.null, (.int (0 : Int32)), (.int (0 : Int32)), (.ref a2), (.ref a1)])) rfl (by rw [hml]; rfl) (Steps.refl _) (a := a1) (argsL := [(.ref a2), (.int (0 : Int32)), (.int (0 : Int32)), .null]) (rest := []) (lenOf pd__28__5b_CIILjava_2f_lang_2f_Void_3b__29_V rfl) rfl (by show 2 * 0 + _ ≤ _; exact Nat.le_of_eq rfl) (hb hby d2_6) (fun _ hv => ⟨rfl, e0, (by decide : 0 + 2 ≤ _), (by decide : 0 + 4 ≤ _), own_K.warm hK0 hv⟩)
  dsimp only [Pt.U, Pt.locs, Pt.cells, Pt.slots] at X50 l50 y50 z50 st50 hQ50 hs250 hgr50 hK50
  subst l50 y50 z50
  obtain ⟨Xr50, hS50, hZ50, hown50⟩ := rebS hS0 (show 0 ≤ s₁.heap.size by rw [e0]; exact hk0) X50 hs250 hgr50 hZ hown
  refine own_go st50 ?_
  obtain ⟨rfl, Nq50, K50, r50_0⟩ := hQ50
  have Od50 := O0.keep K50 (allS g_a1 all0)
  have E_a1_50 := E_a1.keep K50
  have V_a2_50 := V_a2.keep K50 (ninS (Ne.symm (Exa.neArv E_a1 V_a2 (hw _ (List.mem_of_getElem? (i := 5) rfl)))) nin0)
  have Z50 : n0 ≤ T50.heap.size := Nat.le_trans Z0 K50.1
  have hk50 : 0 ≤ T50.heap.size := Nat.le_trans hk0 K50.1
  have Kt50 := Kz.trans K50 (allS (P := fun x => x ∈ _ ∨ _ ≤ x) (Or.inl (List.mem_of_getElem? (i := 0) rfl)) all0)
  have hkr50 : T50.heap.size ≤ T50.heap.size := Nat.le_refl _
  have N50 := Fr.app N0 Nq50
  show own_Fin _ _ _ _ (T50.setTop (mkF m 9 #[rv a1, rv a2] []))
  obtain ⟨fs51, hr51, hrun51, hended51, hRW51⟩ := Xr50.leaveW (s := s) hS50 (n := T50.heap.size) hkr50 (v := none) (fun _ => rfl)
  refine own_done (Xr50.returnOut hx Bd.returns (hb hby d2_9) hr51) hrun51 hended51 ⟨_, _, rfl, ?_, hRW51.1, hRW51.2.1, hRW51.2.2.1, hRW51.2.2.2.mono (by decide) (by decide)⟩
  show (Qstr_0 Z a1 a2 k h0 n0 _ T50.heap _ ∧ own_K Z T50.heap T50.vm)
  exact ⟨⟨rfl, N50, Kt50, r50_0⟩, own_K.warm (s := s) (vm0 := T50.vm) hK50 Xr50.warmed⟩
theorem d1_0 : decode method_2_code 0 = .ok (.iload_n 0, 1) := by decide +kernel
theorem d1_1 : decode method_2_code 1 = .ok (.bipush 16, 2) := by decide +kernel
theorem d1_3 : decode method_2_code 3 = .ok (.iushr, 1) := by decide +kernel
theorem d1_4 : decode method_2_code 4 = .ok (.iconst 3, 1) := by decide +kernel
theorem d1_5 : decode method_2_code 5 = .ok (.iand, 1) := by decide +kernel
theorem d1_6 : decode method_2_code 6 = .ok (.istore_n 1, 1) := by decide +kernel
theorem d1_7 : decode method_2_code 7 = .ok (.iload_n 1, 1) := by decide +kernel
theorem d1_8 : decode method_2_code 8 = .ok (.ifCond .ne 14, 3) := by decide +kernel
theorem d1_11 : decode method_2_code 11 = .ok (.new 7, 3) := by decide +kernel
theorem d1_14 : decode method_2_code 14 = .ok (.dup, 1) := by decide +kernel
theorem d1_15 : decode method_2_code 15 = .ok (.iconst 0, 1) := by decide +kernel
theorem d1_16 : decode method_2_code 16 = .ok (.newarray .char, 2) := by decide +kernel
theorem d1_18 : decode method_2_code 18 = .ok (.invokespecial 9, 3) := by decide +kernel
theorem d1_21 : decode method_2_code 21 = .ok (.areturn, 1) := by decide +kernel
theorem d1_22 : decode method_2_code 22 = .ok (.iload_n 1, 1) := by decide +kernel
theorem d1_23 : decode method_2_code 23 = .ok (.iconst 1, 1) := by decide +kernel
theorem d1_24 : decode method_2_code 24 = .ok (.if_icmp .ne 25, 3) := by decide +kernel
theorem d1_27 : decode method_2_code 27 = .ok (.iconst 1, 1) := by decide +kernel
theorem d1_28 : decode method_2_code 28 = .ok (.newarray .char, 2) := by decide +kernel
theorem d1_30 : decode method_2_code 30 = .ok (.astore_n 2, 1) := by decide +kernel
theorem d1_31 : decode method_2_code 31 = .ok (.aload_n 2, 1) := by decide +kernel
theorem d1_32 : decode method_2_code 32 = .ok (.iconst 0, 1) := by decide +kernel
theorem d1_33 : decode method_2_code 33 = .ok (.iload_n 0, 1) := by decide +kernel
theorem d1_34 : decode method_2_code 34 = .ok (.sipush 255, 3) := by decide +kernel
theorem d1_37 : decode method_2_code 37 = .ok (.iand, 1) := by decide +kernel
theorem d1_38 : decode method_2_code 38 = .ok (.i2c, 1) := by decide +kernel
theorem d1_39 : decode method_2_code 39 = .ok (.castore, 1) := by decide +kernel
theorem d1_40 : decode method_2_code 40 = .ok (.new 7, 3) := by decide +kernel
theorem d1_43 : decode method_2_code 43 = .ok (.dup, 1) := by decide +kernel
theorem d1_44 : decode method_2_code 44 = .ok (.aload_n 2, 1) := by decide +kernel
theorem d1_45 : decode method_2_code 45 = .ok (.invokespecial 9, 3) := by decide +kernel
theorem d1_48 : decode method_2_code 48 = .ok (.areturn, 1) := by decide +kernel
theorem d1_49 : decode method_2_code 49 = .ok (.iconst 2, 1) := by decide +kernel
theorem d1_50 : decode method_2_code 50 = .ok (.newarray .char, 2) := by decide +kernel
theorem d1_52 : decode method_2_code 52 = .ok (.astore_n 2, 1) := by decide +kernel
theorem d1_53 : decode method_2_code 53 = .ok (.aload_n 2, 1) := by decide +kernel
theorem d1_54 : decode method_2_code 54 = .ok (.iconst 0, 1) := by decide +kernel
theorem d1_55 : decode method_2_code 55 = .ok (.iload_n 0, 1) := by decide +kernel
theorem d1_56 : decode method_2_code 56 = .ok (.sipush 255, 3) := by decide +kernel
theorem d1_59 : decode method_2_code 59 = .ok (.iand, 1) := by decide +kernel
theorem d1_60 : decode method_2_code 60 = .ok (.i2c, 1) := by decide +kernel
theorem d1_61 : decode method_2_code 61 = .ok (.castore, 1) := by decide +kernel
theorem d1_62 : decode method_2_code 62 = .ok (.aload_n 2, 1) := by decide +kernel
theorem d1_63 : decode method_2_code 63 = .ok (.iconst 1, 1) := by decide +kernel
theorem d1_64 : decode method_2_code 64 = .ok (.iload_n 0, 1) := by decide +kernel
theorem d1_65 : decode method_2_code 65 = .ok (.bipush 8, 2) := by decide +kernel
theorem d1_67 : decode method_2_code 67 = .ok (.iushr, 1) := by decide +kernel
theorem d1_68 : decode method_2_code 68 = .ok (.sipush 255, 3) := by decide +kernel
theorem d1_71 : decode method_2_code 71 = .ok (.iand, 1) := by decide +kernel
theorem d1_72 : decode method_2_code 72 = .ok (.i2c, 1) := by decide +kernel
theorem d1_73 : decode method_2_code 73 = .ok (.castore, 1) := by decide +kernel
theorem d1_74 : decode method_2_code 74 = .ok (.new 7, 3) := by decide +kernel
theorem d1_77 : decode method_2_code 77 = .ok (.dup, 1) := by decide +kernel
theorem d1_78 : decode method_2_code 78 = .ok (.aload_n 2, 1) := by decide +kernel
theorem d1_79 : decode method_2_code 79 = .ok (.invokespecial 9, 3) := by decide +kernel
theorem d1_82 : decode method_2_code 82 = .ok (.areturn, 1) := by decide +kernel
theorem pn_com_example_pryority_pryority_UriReferenceIsAbsolutePinLaw : plainName "com/example/pryority/pryority/UriReferenceIsAbsolutePinLaw" = true := by first | (simp [plainName, overriddenIn]; done) | decide +kernel
theorem ef_dr (m : MethodId) (x0 : Int32) : entryFrame m #[(.int x0)] 3 = mkF m 0 #[.val (.int x0), .unset, .unset] [] := by first | (simp [entryFrame, mkF, argsToLocals, Value.category]; done) | rfl
def Qdr (Z : State) (p1 : Int32) (cs : Int32) (h0 : Heap) (n0 : Nat) (v : Option Value) (h : Heap) (L : List Loc) : Prop := ∃ (r : Addr), v = some (.ref r) ∧ Fr n0 L ∧ Keep h0 h [] ∧ n0 ≤ r ∧ h0.size ≤ r ∧ Exa Z h r "java/lang/String"
abbrev Gdr (Z : State) (p1 : Int32) (cs : Int32) (h0 : Heap) (n0 : Nat) (s : State) : Outcome → State → Prop := fun o U' => ∃ v L, o = .returned v ∧ (Qdr Z p1 cs h0 n0 v U'.heap L ∧ own_K Z U'.heap U'.vm) ∧ ReturnedEndW s o U' L ({ frames := 4, cells := 4, slots := 10, locals := 96 } : Room).cells ({ frames := 4, cells := 4, slots := 10, locals := 96 } : Room).slots
theorem pd__28__5b_C_29_V : parseMethodDescriptor "([C)V" = some ⟨[(.array .char)], none⟩ := by decide +kernel
set_option maxRecDepth 65536 in
set_option maxHeartbeats 40000000 in
theorem rmdr (l : Launch) (Z : State) (a0 : Array Value) (hw : ∀ d ∈ tables_1, d.before a0 Z = true) (ws : List Jvm.Cond) (p1 : Int32) (cs : Int32) (h0 : Heap) (n0 : Nat) (Z0 : n0 ≤ h0.size) (O0 : Old Z n0 h0) (S_COMPACT_STRINGS : Sta Z Z.heap "java/lang/String" "COMPACT_STRINGS" "Z" (.int cs)) (hcs : ¬ cs = (0 : Int32)) (hh7 : Jvm.Lit.constHeld Z "java/lang/String" 7) (hcw : Jvm.Lit.compactW.before a0 Z = true) :
    MetFree l (⟨"com/example/pryority/pryority/UriReferenceIsAbsolutePinLaw", "draw", "(I)Ljava/lang/String;"⟩ : MethodName) (head1 (Jvm.Cond.code (⟨"com/example/pryority/pryority/UriReferenceIsAbsolutePinLaw", "draw", "(I)Ljava/lang/String;"⟩ : MethodName) method_2_code 3 (some (.object "java/lang/String")) :: ws) ({ frames := 4, cells := 4, slots := 10, locals := 96 } : Room)) (fun a U => a = #[(.int p1)] ∧ (Z.Warmed39 U.vm ∧ own_K Z h0 U.vm) ∧ U.heap = h0) (fun _ _ _ _ _ => True) (fun _ U o U' => ∃ v L, o = .returned v ∧ (Qdr Z p1 cs h0 n0 v U'.heap L ∧ own_K Z U'.heap U'.vm) ∧ ReturnedEndW U o U' L ({ frames := 4, cells := 4, slots := 10, locals := 96 } : Room).cells ({ frames := 4, cells := 4, slots := 10, locals := 96 } : Room).slots) := by
  refine MetFree.of_bodySF (plainFor_of_name pn_com_example_pryority_pryority_UriReferenceIsAbsolutePinLaw) hisR ?_
  intro p e s m args below meth c s₁ Bd hml0 hP hK
  obtain ⟨rfl, ⟨hZ, hK0⟩, hh⟩ := hP
  have hx := Bd.exec
  have hby := Bd.bytes
  have hml : c.maxLocals = 3 := hml0
  have hown : s.vm.findClass "com/example/pryority/pryority/UriReferenceIsAbsolutePinLaw" = some m.cls := findClass_of_methodNamed Bd.named
  have hnm := (name_of_methodNamed Bd.named Bd.method).1
  have X0 : Stand p l e ({ frames := 4, cells := 4, slots := 10, locals := 96 } : Room) s m #[(.int p1)] below meth c s₁ [] 0 0 := Stand.of_body Bd
  have e0 : s₁.heap = h0 := by rw [← hh, Bd.state]; rfl
  have es0 : s.heap = h0 := hh
  have N0 := Fr.nil n0
  show own_Fin p e below (Gdr Z p1 cs h0 n0 s) (s₁.setTop (entryFrame m #[(.int p1)] 3))
  rw [ef_dr m p1]
  have X0w : Stand p l e ({ frames := 4, cells := 4, slots := 10, locals := 96 } : Room) (s.setVm s.vm) m #[(.int p1)] below meth c s₁ [] 0 0 := X0
  have hS0 : s.Since s.vm 0 := (State.WarmedH.refl s).since 0
  have hk0 : 0 ≤ h0.size := Nat.zero_le _
  have Kz := Keep.refl h0 []
  refine own_go (XS.iloadN X0w.here hx rfl (hb hby d1_0) rfl (Steps.refl _)) ?_
  show own_Fin _ _ _ _ (s₁.setTop (mkF m 1 #[iv p1, .unset, .unset] [(.int p1)]))
  refine own_go (XS.bipush X0w.here hx rfl (hb hby d1_1) (Steps.refl _)) ?_
  show own_Fin _ _ _ _ (s₁.setTop (mkF m 3 #[iv p1, .unset, .unset] [(.int (16 : Int32)), (.int p1)]))
  refine own_go (XS.iushr X0w.here hx rfl (hb hby d1_3) rfl (Steps.refl _)) ?_
  show own_Fin _ _ _ _ (s₁.setTop (mkF m 4 #[iv p1, .unset, .unset] [(.int ((p1.toUInt32 >>> ((16 : Int32) &&& 31).toUInt32).toInt32))]))
  refine own_go (XS.iconst X0w.here hx rfl (hb hby d1_4) (Steps.refl _)) ?_
  show own_Fin _ _ _ _ (s₁.setTop (mkF m 5 #[iv p1, .unset, .unset] [(.int (3 : Int32)), (.int ((p1.toUInt32 >>> ((16 : Int32) &&& 31).toUInt32).toInt32))]))
  refine own_go (XS.iand X0w.here hx rfl (hb hby d1_5) rfl (Steps.refl _)) ?_
  show own_Fin _ _ _ _ (s₁.setTop (mkF m 6 #[iv p1, .unset, .unset] [(.int (((p1.toUInt32 >>> ((16 : Int32) &&& 31).toUInt32).toInt32) &&& (3 : Int32)))]))
  refine own_go (XS.istoreN X0w.here hx rfl (hb hby d1_6) rfl rfl (Steps.refl _)) ?_
  show own_Fin _ _ _ _ (s₁.setTop (mkF m 7 #[iv p1, iv (((p1.toUInt32 >>> ((16 : Int32) &&& 31).toUInt32).toInt32) &&& (3 : Int32)), .unset] []))
  generalize hz_v1_52 : (((p1.toUInt32 >>> ((16 : Int32) &&& 31).toUInt32).toInt32) &&& (3 : Int32)) = v1_52
  refine own_go (XS.iloadN X0w.here hx rfl (hb hby d1_7) rfl (Steps.refl _)) ?_
  show own_Fin _ _ _ _ (s₁.setTop (mkF m 8 #[iv p1, iv v1_52, .unset] [(.int v1_52)]))
  by_cases c8_53 : v1_52 = (0 : Int32)
  · refine own_go (XS.ifNo X0w.here hx rfl (hb hby d1_8) rfl ((if0 _ _).trans (teq c8_53).2) (Steps.refl _)) ?_
    show own_Fin _ _ _ _ (s₁.setTop (mkF m 11 #[iv p1, iv v1_52, .unset] []))
    obtain ⟨T54, h54, X54, e54, E54, A54, D54, U54, st54⟩ := newO X0w hx hZ hown (hw _ (List.mem_of_getElem? (i := 4) rfl)) (hw _ (List.mem_of_getElem? (i := 5) rfl)) (hw _ (List.mem_of_getElem? (i := 6) rfl)) e0 (g := (mkF m 11 #[iv p1, iv v1_52, .unset] [])) rfl (hb hby d1_11) (by decide) (by decide)
    obtain ⟨b54, g54⟩ : ∃ z, z = h0.size := ⟨_, rfl⟩
    rw [← g54] at A54 D54 U54 st54
    refine own_by st54 ?_
    have Od54 := O0.ext E54
    have g_b54 : n0 ≤ b54 := Nat.le_trans Z0 (Nat.le_of_eq g54.symm)
    have sz_b54 : h0.size ≤ b54 := Nat.le_trans Kz.1 (Nat.le_of_eq g54.symm)
    have K54 := Kz.ext E54
    have Z54 : n0 ≤ h54.size := Nat.le_trans Z0 E54.1
    have hk54 : 0 ≤ h54.size := Nat.le_trans hk0 E54.1
    have E_b54 := A54
    have F_value_b54 : Fld Z h54 b54 "java/lang/String" "value" "[B" .null := D54 (Or.inr (hw _ (List.mem_of_getElem? (i := 20) rfl))) (ty := (.array .byte)) (by decide)
    have F_coder_b54 : Fld Z h54 b54 "java/lang/String" "coder" "B" (.int (0 : Int32)) := D54 (Or.inr (hw _ (List.mem_of_getElem? (i := 21) rfl))) (ty := .byte) (by decide)
    show own_Fin _ _ _ _ (T54.setTop (mkF m 14 #[iv p1, iv v1_52, .unset] [(.ref b54)]))
    refine own_go (XS.dup X54.here hx rfl (hb hby d1_14) rfl rfl (Steps.refl _)) ?_
    show own_Fin _ _ _ _ (T54.setTop (mkF m 15 #[iv p1, iv v1_52, .unset] [(.ref b54), (.ref b54)]))
    refine own_go (XS.iconst X54.here hx rfl (hb hby d1_15) (Steps.refl _)) ?_
    show own_Fin _ _ _ _ (T54.setTop (mkF m 16 #[iv p1, iv v1_52, .unset] [(.int (0 : Int32)), (.ref b54), (.ref b54)]))
    obtain ⟨T55, h55, k55, X55, e55, E55, A55, st55⟩ := newP X54 hx hZ (hw _ (List.mem_of_getElem? (i := 7) rfl)) e54 (g := (mkF m 16 #[iv p1, iv v1_52, .unset] [(.int (0 : Int32)), (.ref b54), (.ref b54)])) rfl (hb hby d1_16) rfl (by decide) (cap := 0) (by decide) (by decide) (by decide) (by decide)
    obtain ⟨b55, g55⟩ : ∃ z, z = h54.size := ⟨_, rfl⟩
    rw [← g55] at A55 st55
    refine own_by st55 ?_
    have ne_b54_b55 : b54 ≠ b55 := Nat.ne_of_lt (Nat.lt_of_lt_of_eq E_b54.lt g55.symm)
    have Od55 := Od54.ext E55
    have E_b54_55 := E_b54.ext E55
    have F_value_b54_55 := F_value_b54.ext E55
    have F_coder_b54_55 := F_coder_b54.ext E55
    have g_b55 : n0 ≤ b55 := Nat.le_trans Z54 (Nat.le_of_eq g55.symm)
    have sz_b55 : h0.size ≤ b55 := Nat.le_trans K54.1 (Nat.le_of_eq g55.symm)
    have K55 := K54.ext E55
    have Z55 : n0 ≤ h55.size := Nat.le_trans Z54 E55.1
    have hk55 : 0 ≤ h55.size := Nat.le_trans hk54 E55.1
    have V_b55 : Arv Z h55 b55 k55 .char (0 : Int32) [] (.int (0 : Int32)) := (Arv.new A55 (by decide)).pad (pad_rep [] (.int (0 : Int32)) 0)
    show own_Fin _ _ _ _ (T55.setTop (mkF m 18 #[iv p1, iv v1_52, .unset] [(.ref b55), (.ref b54), (.ref b54)]))
    obtain ⟨_, _, ⟨T56, L56, k56, n56⟩, -, X56, hs256, hgr56, ⟨Lc56, ⟨hQ56, hK56⟩, l56, y56, z56⟩, st56⟩ := X55.specialBackS hx (y := (⟨"java/lang/String", "<init>", "([C)V"⟩ : MethodName)) rfl hown (mvT hZ (hw _ (List.mem_of_getElem? (i := 8) rfl))) (mvT hZ (hw _ (List.mem_of_getElem? (i := 9) rfl))) (mvT hZ (hw _ (List.mem_of_getElem? (i := 10) rfl))) (by decide) (own_backK (W := 1) (rmstr_0 l Z a0 hw [] b54 b55 k55 h55 n0 Z55 E_b54_55 F_value_b54_55 F_coder_b54_55 g_b54 Od55 V_b55 hh7 hcw) hZ (hw _ (List.mem_of_getElem? (i := 10) rfl)) (hw _ (List.mem_of_getElem? (i := 6) rfl)) (by decide) (by decide)) (g := (mkF m 18 #[iv p1, iv v1_52, .unset] [(.ref b55), (.ref b54), (.ref b54)])) rfl (by rw [hml]; rfl) (Steps.refl _) (a := b54) (argsL := [(.ref b55)]) (rest := [(.ref b54)]) (lenOf pd__28__5b_C_29_V rfl) rfl (by show 2 * 0 + _ ≤ _; exact Nat.le_of_eq rfl) (hb hby d1_18) (fun _ hv => ⟨rfl, e55, (by decide : 2 + 2 ≤ _), (by decide : 4 + 4 ≤ _), own_K.warm (own_K.keep hK0 K55) hv⟩)
    dsimp only [Pt.U, Pt.locs, Pt.cells, Pt.slots] at X56 l56 y56 z56 st56 hQ56 hs256 hgr56 hK56
    subst l56 y56 z56
    obtain ⟨Xr56, hS56, hZ56, hown56⟩ := rebS hS0 (show 0 ≤ T55.heap.size by rw [e55]; exact hk55) X56 hs256 hgr56 hZ hown
    refine own_go st56 ?_
    obtain ⟨rfl, Nq56, K56, r56_0⟩ := hQ56
    have Od56 := Od55.keep K56 (allS g_b54 all0)
    have E_b54_56 := E_b54_55.keep K56
    have V_b55_56 := V_b55.keep K56 (ninS (Ne.symm ne_b54_b55) nin0)
    have Z56 : n0 ≤ T56.heap.size := Nat.le_trans Z55 K56.1
    have hk56 : 0 ≤ T56.heap.size := Nat.le_trans hk55 K56.1
    have Kt56 := K55.trans K56 (allS (P := fun x => x ∈ _ ∨ _ ≤ x) (Or.inr sz_b54) all0)
    have hkr56 : T56.heap.size ≤ T56.heap.size := Nat.le_refl _
    have N56 := Fr.app N0 Nq56
    show own_Fin _ _ _ _ (T56.setTop (mkF m 21 #[iv p1, iv v1_52, .unset] [(.ref b54)]))
    obtain ⟨fs57, hr57, hrun57, hended57, hRW57⟩ := Xr56.leaveW (s := s) hS56 (n := T56.heap.size) hkr56 (v := some (.ref b54)) (fun h => by rw [Bd.returns] at h; cases h)
    refine own_done (retOut Xr56 hx Bd.returns rfl (Or.inr (Or.inr (Or.inr (Or.inr ⟨rfl, rfl, rfl⟩)))) (hb hby d1_21) hr57) hrun57 hended57 ⟨_, _, rfl, ?_, hRW57.1, hRW57.2.1, hRW57.2.2.1, hRW57.2.2.2.mono (by decide) (by decide)⟩
    show (Qdr Z p1 cs h0 n0 _ T56.heap _ ∧ own_K Z T56.heap T56.vm)
    exact ⟨⟨b54, rfl, N56, Kt56, g_b54, sz_b54, r56_0⟩, own_K.warm (s := s) (vm0 := T56.vm) hK56 Xr56.warmed⟩
  · refine own_go (XS.ifYes X0w.here hx rfl (pc0 := 8) (pc' := 22) rfl (hb hby d1_8) rfl ((if0 _ _).trans (feq c8_53).2) (by decide) (by decide) (Steps.refl _)) ?_
    show own_Fin _ _ _ _ (s₁.setTop (mkF m 22 #[iv p1, iv v1_52, .unset] []))
    refine own_go (XS.iloadN X0w.here hx rfl (hb hby d1_22) rfl (Steps.refl _)) ?_
    show own_Fin _ _ _ _ (s₁.setTop (mkF m 23 #[iv p1, iv v1_52, .unset] [(.int v1_52)]))
    refine own_go (XS.iconst X0w.here hx rfl (hb hby d1_23) (Steps.refl _)) ?_
    show own_Fin _ _ _ _ (s₁.setTop (mkF m 24 #[iv p1, iv v1_52, .unset] [(.int (1 : Int32)), (.int v1_52)]))
    by_cases c24_58 : v1_52 = (1 : Int32)
    · refine own_go (XS.icmpNo X0w.here hx rfl (hb hby d1_24) rfl (teq c24_58).2 (Steps.refl _)) ?_
      show own_Fin _ _ _ _ (s₁.setTop (mkF m 27 #[iv p1, iv v1_52, .unset] []))
      refine own_go (XS.iconst X0w.here hx rfl (hb hby d1_27) (Steps.refl _)) ?_
      show own_Fin _ _ _ _ (s₁.setTop (mkF m 28 #[iv p1, iv v1_52, .unset] [(.int (1 : Int32))]))
      obtain ⟨T59, h59, k59, X59, e59, E59, A59, st59⟩ := newP X0w hx hZ (hw _ (List.mem_of_getElem? (i := 7) rfl)) e0 (g := (mkF m 28 #[iv p1, iv v1_52, .unset] [(.int (1 : Int32))])) rfl (hb hby d1_28) rfl (by decide) (cap := 1) (by decide) (by decide) (by decide) (by decide)
      obtain ⟨b59, g59⟩ : ∃ z, z = h0.size := ⟨_, rfl⟩
      rw [← g59] at A59 st59
      refine own_by st59 ?_
      have Od59 := O0.ext E59
      have g_b59 : n0 ≤ b59 := Nat.le_trans Z0 (Nat.le_of_eq g59.symm)
      have sz_b59 : h0.size ≤ b59 := Nat.le_trans Kz.1 (Nat.le_of_eq g59.symm)
      have K59 := Kz.ext E59
      have Z59 : n0 ≤ h59.size := Nat.le_trans Z0 E59.1
      have hk59 : 0 ≤ h59.size := Nat.le_trans hk0 E59.1
      have V_b59 : Arv Z h59 b59 k59 .char (1 : Int32) [(.int (0 : Int32))] (.int (0 : Int32)) := (Arv.new A59 (by decide)).pad (pad_rep [] (.int (0 : Int32)) 1)
      show own_Fin _ _ _ _ (T59.setTop (mkF m 30 #[iv p1, iv v1_52, .unset] [(.ref b59)]))
      refine own_go (XS.astoreN X59.here hx rfl (hb hby d1_30) rfl rfl rfl (Steps.refl _)) ?_
      show own_Fin _ _ _ _ (T59.setTop (mkF m 31 #[iv p1, iv v1_52, rv b59] []))
      refine own_go (XS.aloadN X59.here hx rfl (hb hby d1_31) rfl rfl (Steps.refl _)) ?_
      show own_Fin _ _ _ _ (T59.setTop (mkF m 32 #[iv p1, iv v1_52, rv b59] [(.ref b59)]))
      refine own_go (XS.iconst X59.here hx rfl (hb hby d1_32) (Steps.refl _)) ?_
      show own_Fin _ _ _ _ (T59.setTop (mkF m 33 #[iv p1, iv v1_52, rv b59] [(.int (0 : Int32)), (.ref b59)]))
      refine own_go (XS.iloadN X59.here hx rfl (hb hby d1_33) rfl (Steps.refl _)) ?_
      show own_Fin _ _ _ _ (T59.setTop (mkF m 34 #[iv p1, iv v1_52, rv b59] [(.int p1), (.int (0 : Int32)), (.ref b59)]))
      refine own_go (XS.sipush X59.here hx rfl (hb hby d1_34) (Steps.refl _)) ?_
      show own_Fin _ _ _ _ (T59.setTop (mkF m 37 #[iv p1, iv v1_52, rv b59] [(.int (255 : Int32)), (.int p1), (.int (0 : Int32)), (.ref b59)]))
      refine own_go (XS.iand X59.here hx rfl (hb hby d1_37) rfl (Steps.refl _)) ?_
      show own_Fin _ _ _ _ (T59.setTop (mkF m 38 #[iv p1, iv v1_52, rv b59] [(.int (p1 &&& (255 : Int32))), (.int (0 : Int32)), (.ref b59)]))
      refine own_go (XS.i2c X59.here hx rfl (hb hby d1_38) rfl (Steps.refl _)) ?_
      show own_Fin _ _ _ _ (T59.setTop (mkF m 39 #[iv p1, iv v1_52, rv b59] [(.int ((p1 &&& (255 : Int32)).toUInt32.toUInt16.toUInt32.toInt32)), (.int (0 : Int32)), (.ref b59)]))
      obtain ⟨cl60, Ar60, qa60, Sa60, Na60, Ha60, Ga60⟩ := id V_b59
      have hin60 : ¬ ((0 : Int32) < 0 ∨ cl60.slots.size ≤ ((0 : Int32)).toNatClampNeg) := inb_of Sa60 ⟨by decide, by decide⟩
      obtain ⟨T61, h61, X61, e61, W61, st61⟩ := stC X59 hx hZ e59 Ar60 (j := (0 : Int32)) hin60 (g := (mkF m 39 #[iv p1, iv v1_52, rv b59] [(.int ((p1 &&& (255 : Int32)).toUInt32.toUInt16.toUInt32.toInt32)), (.int (0 : Int32)), (.ref b59)])) rfl rfl (hb hby d1_39)
      refine own_by st61 ?_
      have hnr61 : nar .char ((p1 &&& (255 : Int32)).toUInt32.toUInt16.toUInt32.toInt32) = (p1 &&& (255 : Int32)) := own_nc _
      rw [hnr61] at W61
      have V_b59_61 : Arv Z h61 b59 k59 .char (1 : Int32) [(.int (p1 &&& (255 : Int32)))] (.int (0 : Int32)) := Arv.set Ar60 qa60 Sa60 Na60 Ha60 Ga60 (hnr61 ▸ fits_nar_char ((p1 &&& (255 : Int32)).toUInt32.toUInt16.toUInt32.toInt32)) W61 0 rfl (Nat.le_of_ble_eq_true rfl)
      have Od61 := Od59.wr W61 g_b59
      have N61 := Fr.snoc X61 N0 g_b59
      have Z61 : n0 ≤ h61.size := Nat.le_trans Z59 (Keep.of_wr W61).1
      have hk61 : 0 ≤ h61.size := Nat.le_trans hk59 (Keep.of_wr W61).1
      have K61 := K59.wr W61 (Or.inr sz_b59)
      show own_Fin _ _ _ _ (T61.setTop (mkF m 40 #[iv p1, iv v1_52, rv b59] []))
      obtain ⟨T62, h62, X62, e62, E62, A62, D62, U62, st62⟩ := newO X61 hx hZ hown (hw _ (List.mem_of_getElem? (i := 4) rfl)) (hw _ (List.mem_of_getElem? (i := 5) rfl)) (hw _ (List.mem_of_getElem? (i := 6) rfl)) e61 (g := (mkF m 40 #[iv p1, iv v1_52, rv b59] [])) rfl (hb hby d1_40) (by decide) (by decide)
      obtain ⟨b62, g62⟩ : ∃ z, z = h61.size := ⟨_, rfl⟩
      rw [← g62] at A62 D62 U62 st62
      refine own_by st62 ?_
      have ne_b59_b62 : b59 ≠ b62 := Nat.ne_of_lt (Nat.lt_of_lt_of_eq V_b59_61.lt g62.symm)
      have Od62 := Od61.ext E62
      have V_b59_62 := V_b59_61.ext E62
      have g_b62 : n0 ≤ b62 := Nat.le_trans Z61 (Nat.le_of_eq g62.symm)
      have sz_b62 : h0.size ≤ b62 := Nat.le_trans K61.1 (Nat.le_of_eq g62.symm)
      have K62 := K61.ext E62
      have Z62 : n0 ≤ h62.size := Nat.le_trans Z61 E62.1
      have hk62 : 0 ≤ h62.size := Nat.le_trans hk61 E62.1
      have E_b62 := A62
      have F_value_b62 : Fld Z h62 b62 "java/lang/String" "value" "[B" .null := D62 (Or.inr (hw _ (List.mem_of_getElem? (i := 20) rfl))) (ty := (.array .byte)) (by decide)
      have F_coder_b62 : Fld Z h62 b62 "java/lang/String" "coder" "B" (.int (0 : Int32)) := D62 (Or.inr (hw _ (List.mem_of_getElem? (i := 21) rfl))) (ty := .byte) (by decide)
      show own_Fin _ _ _ _ (T62.setTop (mkF m 43 #[iv p1, iv v1_52, rv b59] [(.ref b62)]))
      refine own_go (XS.dup X62.here hx rfl (hb hby d1_43) rfl rfl (Steps.refl _)) ?_
      show own_Fin _ _ _ _ (T62.setTop (mkF m 44 #[iv p1, iv v1_52, rv b59] [(.ref b62), (.ref b62)]))
      refine own_go (XS.aloadN X62.here hx rfl (hb hby d1_44) rfl rfl (Steps.refl _)) ?_
      show own_Fin _ _ _ _ (T62.setTop (mkF m 45 #[iv p1, iv v1_52, rv b59] [(.ref b59), (.ref b62), (.ref b62)]))
      obtain ⟨_, _, ⟨T63, L63, k63, n63⟩, -, X63, ⟨Lc63, hQ63, l63, y63, z63⟩, st63⟩ := X62.specialBack hx (y := (⟨"java/lang/String", "<init>", "([C)V"⟩ : MethodName)) rfl hown (mvT hZ (hw _ (List.mem_of_getElem? (i := 8) rfl))) (mvT hZ (hw _ (List.mem_of_getElem? (i := 9) rfl))) (mvT hZ (hw _ (List.mem_of_getElem? (i := 10) rfl))) (by decide) (backOf (W := 1) (rmstr_1 l Z a0 hw [] b62 b59 k59 cs (p1 &&& (255 : Int32)) h62 n0 Z62 E_b62 F_value_b62 F_coder_b62 g_b62 Od62 S_COMPACT_STRINGS hcs V_b59_62 (own_lt p1)) hZ (hw _ (List.mem_of_getElem? (i := 10) rfl)) (hw _ (List.mem_of_getElem? (i := 6) rfl)) (by decide) (by decide)) (g := (mkF m 45 #[iv p1, iv v1_52, rv b59] [(.ref b59), (.ref b62), (.ref b62)])) rfl (by rw [hml]; rfl) (Steps.refl _) (a := b62) (argsL := [(.ref b59)]) (rest := [(.ref b62)]) (lenOf pd__28__5b_C_29_V rfl) rfl (by show 2 * 0 + _ ≤ _; exact Nat.le_of_eq rfl) (hb hby d1_45) (fun _ hv => ⟨rfl, e62, (by decide : 2 + 1 ≤ _), (by decide : 5 + 1 ≤ _)⟩)
      dsimp only [Pt.U, Pt.locs, Pt.cells, Pt.slots] at X63 l63 y63 z63 st63 hQ63
      subst l63 y63 z63
      refine own_go st63 ?_
      obtain ⟨b_63, kb_63, rfl, Nq63, K63, g_b_63, sb_b_63, r63_0, r63_1, r63_2, r63_3⟩ := hQ63
      have ne_b59_b_63 : b59 ≠ b_63 := Nat.ne_of_lt (Nat.lt_of_lt_of_le V_b59_62.lt sb_b_63)
      have ne_b62_b_63 : b62 ≠ b_63 := Nat.ne_of_lt (Nat.lt_of_lt_of_le E_b62.lt sb_b_63)
      have sz_b_63 : h0.size ≤ b_63 := Nat.le_trans K62.1 sb_b_63
      have Od63 := Od62.keep K63 (allS g_b62 all0)
      have V_b59_63 := V_b59_62.keep K63 (ninS ne_b59_b62 nin0)
      have E_b62_63 := E_b62.keep K63
      have Z63 : n0 ≤ T63.heap.size := Nat.le_trans Z62 K63.1
      have hk63 : 0 ≤ T63.heap.size := Nat.le_trans hk62 K63.1
      have Kt63 := K62.trans K63 (allS (P := fun x => x ∈ _ ∨ _ ≤ x) (Or.inr sz_b62) all0)
      have N63 := Fr.app N61 Nq63
      show own_Fin _ _ _ _ (T63.setTop (mkF m 48 #[iv p1, iv v1_52, rv b59] [(.ref b62)]))
      obtain ⟨fs64, hr64, hrun64, hended64, hRW64⟩ := X63.leaveW (s := s) hS0 (n := 0) hk63 (v := some (.ref b62)) (fun h => by rw [Bd.returns] at h; cases h)
      refine own_done (retOut X63 hx Bd.returns rfl (Or.inr (Or.inr (Or.inr (Or.inr ⟨rfl, rfl, rfl⟩)))) (hb hby d1_48) hr64) hrun64 hended64 ⟨_, _, rfl, ?_, hRW64.1, hRW64.2.1, hRW64.2.2.1, hRW64.2.2.2.mono (by decide) (by decide)⟩
      show (Qdr Z p1 cs h0 n0 _ T63.heap _ ∧ own_K Z T63.heap T63.vm)
      exact ⟨⟨b62, rfl, N63, Kt63, g_b62, sz_b62, r63_0⟩, own_K.warm (s := s) (vm0 := s.vm) (own_K.keep hK0 Kt63) X63.warmed⟩
    · refine own_go (XS.icmpYes X0w.here hx rfl (pc0 := 24) (pc' := 49) rfl (hb hby d1_24) rfl (feq c24_58).2 (by decide) (by decide) (Steps.refl _)) ?_
      show own_Fin _ _ _ _ (s₁.setTop (mkF m 49 #[iv p1, iv v1_52, .unset] []))
      refine own_go (XS.iconst X0w.here hx rfl (hb hby d1_49) (Steps.refl _)) ?_
      show own_Fin _ _ _ _ (s₁.setTop (mkF m 50 #[iv p1, iv v1_52, .unset] [(.int (2 : Int32))]))
      obtain ⟨T65, h65, k65, X65, e65, E65, A65, st65⟩ := newP X0w hx hZ (hw _ (List.mem_of_getElem? (i := 7) rfl)) e0 (g := (mkF m 50 #[iv p1, iv v1_52, .unset] [(.int (2 : Int32))])) rfl (hb hby d1_50) rfl (by decide) (cap := 2) (by decide) (by decide) (by decide) (by decide)
      obtain ⟨b65, g65⟩ : ∃ z, z = h0.size := ⟨_, rfl⟩
      rw [← g65] at A65 st65
      refine own_by st65 ?_
      have Od65 := O0.ext E65
      have g_b65 : n0 ≤ b65 := Nat.le_trans Z0 (Nat.le_of_eq g65.symm)
      have sz_b65 : h0.size ≤ b65 := Nat.le_trans Kz.1 (Nat.le_of_eq g65.symm)
      have K65 := Kz.ext E65
      have Z65 : n0 ≤ h65.size := Nat.le_trans Z0 E65.1
      have hk65 : 0 ≤ h65.size := Nat.le_trans hk0 E65.1
      have V_b65 : Arv Z h65 b65 k65 .char (2 : Int32) [(.int (0 : Int32)), (.int (0 : Int32))] (.int (0 : Int32)) := (Arv.new A65 (by decide)).pad (pad_rep [] (.int (0 : Int32)) 2)
      show own_Fin _ _ _ _ (T65.setTop (mkF m 52 #[iv p1, iv v1_52, .unset] [(.ref b65)]))
      refine own_go (XS.astoreN X65.here hx rfl (hb hby d1_52) rfl rfl rfl (Steps.refl _)) ?_
      show own_Fin _ _ _ _ (T65.setTop (mkF m 53 #[iv p1, iv v1_52, rv b65] []))
      refine own_go (XS.aloadN X65.here hx rfl (hb hby d1_53) rfl rfl (Steps.refl _)) ?_
      show own_Fin _ _ _ _ (T65.setTop (mkF m 54 #[iv p1, iv v1_52, rv b65] [(.ref b65)]))
      refine own_go (XS.iconst X65.here hx rfl (hb hby d1_54) (Steps.refl _)) ?_
      show own_Fin _ _ _ _ (T65.setTop (mkF m 55 #[iv p1, iv v1_52, rv b65] [(.int (0 : Int32)), (.ref b65)]))
      refine own_go (XS.iloadN X65.here hx rfl (hb hby d1_55) rfl (Steps.refl _)) ?_
      show own_Fin _ _ _ _ (T65.setTop (mkF m 56 #[iv p1, iv v1_52, rv b65] [(.int p1), (.int (0 : Int32)), (.ref b65)]))
      refine own_go (XS.sipush X65.here hx rfl (hb hby d1_56) (Steps.refl _)) ?_
      show own_Fin _ _ _ _ (T65.setTop (mkF m 59 #[iv p1, iv v1_52, rv b65] [(.int (255 : Int32)), (.int p1), (.int (0 : Int32)), (.ref b65)]))
      refine own_go (XS.iand X65.here hx rfl (hb hby d1_59) rfl (Steps.refl _)) ?_
      show own_Fin _ _ _ _ (T65.setTop (mkF m 60 #[iv p1, iv v1_52, rv b65] [(.int (p1 &&& (255 : Int32))), (.int (0 : Int32)), (.ref b65)]))
      refine own_go (XS.i2c X65.here hx rfl (hb hby d1_60) rfl (Steps.refl _)) ?_
      show own_Fin _ _ _ _ (T65.setTop (mkF m 61 #[iv p1, iv v1_52, rv b65] [(.int ((p1 &&& (255 : Int32)).toUInt32.toUInt16.toUInt32.toInt32)), (.int (0 : Int32)), (.ref b65)]))
      obtain ⟨cl66, Ar66, qa66, Sa66, Na66, Ha66, Ga66⟩ := id V_b65
      have hin66 : ¬ ((0 : Int32) < 0 ∨ cl66.slots.size ≤ ((0 : Int32)).toNatClampNeg) := inb_of Sa66 ⟨by decide, by decide⟩
      obtain ⟨T67, h67, X67, e67, W67, st67⟩ := stC X65 hx hZ e65 Ar66 (j := (0 : Int32)) hin66 (g := (mkF m 61 #[iv p1, iv v1_52, rv b65] [(.int ((p1 &&& (255 : Int32)).toUInt32.toUInt16.toUInt32.toInt32)), (.int (0 : Int32)), (.ref b65)])) rfl rfl (hb hby d1_61)
      refine own_by st67 ?_
      have hnr67 : nar .char ((p1 &&& (255 : Int32)).toUInt32.toUInt16.toUInt32.toInt32) = (p1 &&& (255 : Int32)) := own_nc _
      rw [hnr67] at W67
      have V_b65_67 : Arv Z h67 b65 k65 .char (2 : Int32) [(.int (p1 &&& (255 : Int32))), (.int (0 : Int32))] (.int (0 : Int32)) := Arv.set Ar66 qa66 Sa66 Na66 Ha66 Ga66 (hnr67 ▸ fits_nar_char ((p1 &&& (255 : Int32)).toUInt32.toUInt16.toUInt32.toInt32)) W67 0 rfl (Nat.le_of_ble_eq_true rfl)
      have Od67 := Od65.wr W67 g_b65
      have N67 := Fr.snoc X67 N0 g_b65
      have Z67 : n0 ≤ h67.size := Nat.le_trans Z65 (Keep.of_wr W67).1
      have hk67 : 0 ≤ h67.size := Nat.le_trans hk65 (Keep.of_wr W67).1
      have K67 := K65.wr W67 (Or.inr sz_b65)
      show own_Fin _ _ _ _ (T67.setTop (mkF m 62 #[iv p1, iv v1_52, rv b65] []))
      refine own_go (XS.aloadN X67.here hx rfl (hb hby d1_62) rfl rfl (Steps.refl _)) ?_
      show own_Fin _ _ _ _ (T67.setTop (mkF m 63 #[iv p1, iv v1_52, rv b65] [(.ref b65)]))
      refine own_go (XS.iconst X67.here hx rfl (hb hby d1_63) (Steps.refl _)) ?_
      show own_Fin _ _ _ _ (T67.setTop (mkF m 64 #[iv p1, iv v1_52, rv b65] [(.int (1 : Int32)), (.ref b65)]))
      refine own_go (XS.iloadN X67.here hx rfl (hb hby d1_64) rfl (Steps.refl _)) ?_
      show own_Fin _ _ _ _ (T67.setTop (mkF m 65 #[iv p1, iv v1_52, rv b65] [(.int p1), (.int (1 : Int32)), (.ref b65)]))
      refine own_go (XS.bipush X67.here hx rfl (hb hby d1_65) (Steps.refl _)) ?_
      show own_Fin _ _ _ _ (T67.setTop (mkF m 67 #[iv p1, iv v1_52, rv b65] [(.int (8 : Int32)), (.int p1), (.int (1 : Int32)), (.ref b65)]))
      refine own_go (XS.iushr X67.here hx rfl (hb hby d1_67) rfl (Steps.refl _)) ?_
      show own_Fin _ _ _ _ (T67.setTop (mkF m 68 #[iv p1, iv v1_52, rv b65] [(.int ((p1.toUInt32 >>> ((8 : Int32) &&& 31).toUInt32).toInt32)), (.int (1 : Int32)), (.ref b65)]))
      refine own_go (XS.sipush X67.here hx rfl (hb hby d1_68) (Steps.refl _)) ?_
      show own_Fin _ _ _ _ (T67.setTop (mkF m 71 #[iv p1, iv v1_52, rv b65] [(.int (255 : Int32)), (.int ((p1.toUInt32 >>> ((8 : Int32) &&& 31).toUInt32).toInt32)), (.int (1 : Int32)), (.ref b65)]))
      refine own_go (XS.iand X67.here hx rfl (hb hby d1_71) rfl (Steps.refl _)) ?_
      show own_Fin _ _ _ _ (T67.setTop (mkF m 72 #[iv p1, iv v1_52, rv b65] [(.int (((p1.toUInt32 >>> ((8 : Int32) &&& 31).toUInt32).toInt32) &&& (255 : Int32))), (.int (1 : Int32)), (.ref b65)]))
      refine own_go (XS.i2c X67.here hx rfl (hb hby d1_72) rfl (Steps.refl _)) ?_
      show own_Fin _ _ _ _ (T67.setTop (mkF m 73 #[iv p1, iv v1_52, rv b65] [(.int ((((p1.toUInt32 >>> ((8 : Int32) &&& 31).toUInt32).toInt32) &&& (255 : Int32)).toUInt32.toUInt16.toUInt32.toInt32)), (.int (1 : Int32)), (.ref b65)]))
      obtain ⟨cl68, Ar68, qa68, Sa68, Na68, Ha68, Ga68⟩ := id V_b65_67
      have hin68 : ¬ ((1 : Int32) < 0 ∨ cl68.slots.size ≤ ((1 : Int32)).toNatClampNeg) := inb_of Sa68 ⟨by decide, by decide⟩
      obtain ⟨T69, h69, X69, e69, W69, st69⟩ := stC X67 hx hZ e67 Ar68 (j := (1 : Int32)) hin68 (g := (mkF m 73 #[iv p1, iv v1_52, rv b65] [(.int ((((p1.toUInt32 >>> ((8 : Int32) &&& 31).toUInt32).toInt32) &&& (255 : Int32)).toUInt32.toUInt16.toUInt32.toInt32)), (.int (1 : Int32)), (.ref b65)])) rfl rfl (hb hby d1_73)
      refine own_by st69 ?_
      have hnr69 : nar .char ((((p1.toUInt32 >>> ((8 : Int32) &&& 31).toUInt32).toInt32) &&& (255 : Int32)).toUInt32.toUInt16.toUInt32.toInt32) = (((p1.toUInt32 >>> ((8 : Int32) &&& 31).toUInt32).toInt32) &&& (255 : Int32)) := own_nc _
      rw [hnr69] at W69
      have V_b65_69 : Arv Z h69 b65 k65 .char (2 : Int32) [(.int (p1 &&& (255 : Int32))), (.int (((p1.toUInt32 >>> ((8 : Int32) &&& 31).toUInt32).toInt32) &&& (255 : Int32)))] (.int (0 : Int32)) := Arv.set Ar68 qa68 Sa68 Na68 Ha68 Ga68 (hnr69 ▸ fits_nar_char ((((p1.toUInt32 >>> ((8 : Int32) &&& 31).toUInt32).toInt32) &&& (255 : Int32)).toUInt32.toUInt16.toUInt32.toInt32)) W69 1 rfl (Nat.le_of_ble_eq_true rfl)
      have Od69 := Od67.wr W69 g_b65
      have N69 := Fr.snoc X69 N67 g_b65
      have Z69 : n0 ≤ h69.size := Nat.le_trans Z67 (Keep.of_wr W69).1
      have hk69 : 0 ≤ h69.size := Nat.le_trans hk67 (Keep.of_wr W69).1
      have K69 := K67.wr W69 (Or.inr sz_b65)
      show own_Fin _ _ _ _ (T69.setTop (mkF m 74 #[iv p1, iv v1_52, rv b65] []))
      obtain ⟨T70, h70, X70, e70, E70, A70, D70, U70, st70⟩ := newO X69 hx hZ hown (hw _ (List.mem_of_getElem? (i := 4) rfl)) (hw _ (List.mem_of_getElem? (i := 5) rfl)) (hw _ (List.mem_of_getElem? (i := 6) rfl)) e69 (g := (mkF m 74 #[iv p1, iv v1_52, rv b65] [])) rfl (hb hby d1_74) (by decide) (by decide)
      obtain ⟨b70, g70⟩ : ∃ z, z = h69.size := ⟨_, rfl⟩
      rw [← g70] at A70 D70 U70 st70
      refine own_by st70 ?_
      have ne_b65_b70 : b65 ≠ b70 := Nat.ne_of_lt (Nat.lt_of_lt_of_eq V_b65_69.lt g70.symm)
      have Od70 := Od69.ext E70
      have V_b65_70 := V_b65_69.ext E70
      have g_b70 : n0 ≤ b70 := Nat.le_trans Z69 (Nat.le_of_eq g70.symm)
      have sz_b70 : h0.size ≤ b70 := Nat.le_trans K69.1 (Nat.le_of_eq g70.symm)
      have K70 := K69.ext E70
      have Z70 : n0 ≤ h70.size := Nat.le_trans Z69 E70.1
      have hk70 : 0 ≤ h70.size := Nat.le_trans hk69 E70.1
      have E_b70 := A70
      have F_value_b70 : Fld Z h70 b70 "java/lang/String" "value" "[B" .null := D70 (Or.inr (hw _ (List.mem_of_getElem? (i := 20) rfl))) (ty := (.array .byte)) (by decide)
      have F_coder_b70 : Fld Z h70 b70 "java/lang/String" "coder" "B" (.int (0 : Int32)) := D70 (Or.inr (hw _ (List.mem_of_getElem? (i := 21) rfl))) (ty := .byte) (by decide)
      show own_Fin _ _ _ _ (T70.setTop (mkF m 77 #[iv p1, iv v1_52, rv b65] [(.ref b70)]))
      refine own_go (XS.dup X70.here hx rfl (hb hby d1_77) rfl rfl (Steps.refl _)) ?_
      show own_Fin _ _ _ _ (T70.setTop (mkF m 78 #[iv p1, iv v1_52, rv b65] [(.ref b70), (.ref b70)]))
      refine own_go (XS.aloadN X70.here hx rfl (hb hby d1_78) rfl rfl (Steps.refl _)) ?_
      show own_Fin _ _ _ _ (T70.setTop (mkF m 79 #[iv p1, iv v1_52, rv b65] [(.ref b65), (.ref b70), (.ref b70)]))
      obtain ⟨_, _, ⟨T71, L71, k71, n71⟩, -, X71, ⟨Lc71, hQ71, l71, y71, z71⟩, st71⟩ := X70.specialBack hx (y := (⟨"java/lang/String", "<init>", "([C)V"⟩ : MethodName)) rfl hown (mvT hZ (hw _ (List.mem_of_getElem? (i := 8) rfl))) (mvT hZ (hw _ (List.mem_of_getElem? (i := 9) rfl))) (mvT hZ (hw _ (List.mem_of_getElem? (i := 10) rfl))) (by decide) (backOf (W := 1) (rmstr_2 l Z a0 hw [] b70 b65 k65 cs (p1 &&& (255 : Int32)) (((p1.toUInt32 >>> ((8 : Int32) &&& 31).toUInt32).toInt32) &&& (255 : Int32)) h70 n0 Z70 E_b70 F_value_b70 F_coder_b70 g_b70 Od70 S_COMPACT_STRINGS hcs V_b65_70 (own_lt p1) (own_lt ((p1.toUInt32 >>> ((8 : Int32) &&& 31).toUInt32).toInt32))) hZ (hw _ (List.mem_of_getElem? (i := 10) rfl)) (hw _ (List.mem_of_getElem? (i := 6) rfl)) (by decide) (by decide)) (g := (mkF m 79 #[iv p1, iv v1_52, rv b65] [(.ref b65), (.ref b70), (.ref b70)])) rfl (by rw [hml]; rfl) (Steps.refl _) (a := b70) (argsL := [(.ref b65)]) (rest := [(.ref b70)]) (lenOf pd__28__5b_C_29_V rfl) rfl (by show 2 * 0 + _ ≤ _; exact Nat.le_of_eq rfl) (hb hby d1_79) (fun _ hv => ⟨rfl, e70, (by decide : 2 + 1 ≤ _), (by decide : 6 + 2 ≤ _)⟩)
      dsimp only [Pt.U, Pt.locs, Pt.cells, Pt.slots] at X71 l71 y71 z71 st71 hQ71
      subst l71 y71 z71
      refine own_go st71 ?_
      obtain ⟨b_71, kb_71, rfl, Nq71, K71, g_b_71, sb_b_71, r71_0, r71_1, r71_2, r71_3⟩ := hQ71
      have ne_b65_b_71 : b65 ≠ b_71 := Nat.ne_of_lt (Nat.lt_of_lt_of_le V_b65_70.lt sb_b_71)
      have ne_b70_b_71 : b70 ≠ b_71 := Nat.ne_of_lt (Nat.lt_of_lt_of_le E_b70.lt sb_b_71)
      have sz_b_71 : h0.size ≤ b_71 := Nat.le_trans K70.1 sb_b_71
      have Od71 := Od70.keep K71 (allS g_b70 all0)
      have V_b65_71 := V_b65_70.keep K71 (ninS ne_b65_b70 nin0)
      have E_b70_71 := E_b70.keep K71
      have Z71 : n0 ≤ T71.heap.size := Nat.le_trans Z70 K71.1
      have hk71 : 0 ≤ T71.heap.size := Nat.le_trans hk70 K71.1
      have Kt71 := K70.trans K71 (allS (P := fun x => x ∈ _ ∨ _ ≤ x) (Or.inr sz_b70) all0)
      have N71 := Fr.app N69 Nq71
      show own_Fin _ _ _ _ (T71.setTop (mkF m 82 #[iv p1, iv v1_52, rv b65] [(.ref b70)]))
      obtain ⟨fs72, hr72, hrun72, hended72, hRW72⟩ := X71.leaveW (s := s) hS0 (n := 0) hk71 (v := some (.ref b70)) (fun h => by rw [Bd.returns] at h; cases h)
      refine own_done (retOut X71 hx Bd.returns rfl (Or.inr (Or.inr (Or.inr (Or.inr ⟨rfl, rfl, rfl⟩)))) (hb hby d1_82) hr72) hrun72 hended72 ⟨_, _, rfl, ?_, hRW72.1, hRW72.2.1, hRW72.2.2.1, hRW72.2.2.2.mono (by decide) (by decide)⟩
      show (Qdr Z p1 cs h0 n0 _ T71.heap _ ∧ own_K Z T71.heap T71.vm)
      exact ⟨⟨b70, rfl, N71, Kt71, g_b70, sz_b70, r71_0⟩, own_K.warm (s := s) (vm0 := s.vm) (own_K.keep hK0 Kt71) X71.warmed⟩
theorem d6_0 : decode jdk_30_method_1_code 0 = .ok (.aload_n 0, 1) := by decide +kernel
theorem d6_1 : decode jdk_30_method_1_code 1 = .ok (.invokespecial 1, 3) := by decide +kernel
theorem d6_4 : decode jdk_30_method_1_code 4 = .ok (.return_, 1) := by decide +kernel
theorem pn_java_lang_Record : plainName "java/lang/Record" = true := by first | (simp [plainName, overriddenIn]; done) | decide +kernel
theorem ef_rec (m : MethodId) (x0 : Addr) : entryFrame m #[(.ref x0)] 1 = mkF m 0 #[.val (.ref x0)] [] := by first | (simp [entryFrame, mkF, argsToLocals, Value.category]; done) | rfl
def Qrec (Z : State) (a1 : Addr) (h0 : Heap) (n0 : Nat) (v : Option Value) (h : Heap) (L : List Loc) : Prop := v = none ∧ Fr n0 L ∧ h = h0
abbrev Grec (Z : State) (a1 : Addr) (h0 : Heap) (n0 : Nat) (s : State) : Outcome → State → Prop := fun o U' => ∃ v L, o = .returned v ∧ Qrec Z a1 h0 n0 v U'.heap L ∧ FrameEnd s o U' L ({ frames := 1, cells := 0, slots := 0, locals := 12 } : Room).cells ({ frames := 1, cells := 0, slots := 0, locals := 12 } : Room).slots
set_option maxRecDepth 65536 in
set_option maxHeartbeats 40000000 in
theorem rmrec (l : Launch) (Z : State) (a0 : Array Value) (hw : ∀ d ∈ tables_1, d.before a0 Z = true) (ws : List Jvm.Cond) (a1 : Addr) (h0 : Heap) (n0 : Nat) (Z0 : n0 ≤ h0.size)  :
    MetFree l (⟨"java/lang/Record", "<init>", "()V"⟩ : MethodName) (head1 (Jvm.Cond.code (⟨"java/lang/Record", "<init>", "()V"⟩ : MethodName) jdk_30_method_1_code 1 none :: ws) ({ frames := 1, cells := 0, slots := 0, locals := 12 } : Room)) (fun a U => a = #[(.ref a1)] ∧ Z.Warmed39 U.vm ∧ U.heap = h0) (fun _ _ _ _ _ => True) (fun _ U o U' => ∃ v L, o = .returned v ∧ Qrec Z a1 h0 n0 v U'.heap L ∧ FrameEnd U o U' L ({ frames := 1, cells := 0, slots := 0, locals := 12 } : Room).cells ({ frames := 1, cells := 0, slots := 0, locals := 12 } : Room).slots) := by
  refine MetFree.of_bodySF (plainFor_of_name pn_java_lang_Record) hisR ?_
  intro p e s m args below meth c s₁ Bd hml0 hP hK
  obtain ⟨rfl, hZ, hh⟩ := hP
  have hx := Bd.exec
  have hby := Bd.bytes
  have hml : c.maxLocals = 1 := hml0
  have hown : s.vm.findClass "java/lang/Record" = some m.cls := findClass_of_methodNamed Bd.named
  have hnm := (name_of_methodNamed Bd.named Bd.method).1
  have X0 : Stand p l e ({ frames := 1, cells := 0, slots := 0, locals := 12 } : Room) s m #[(.ref a1)] below meth c s₁ [] 0 0 := Stand.of_body Bd
  have e0 : s₁.heap = h0 := by rw [← hh, Bd.state]; rfl
  have es0 : s.heap = h0 := hh
  have N0 := Fr.nil n0
  show own_Fin p e below (Grec Z a1 h0 n0 s) (s₁.setTop (entryFrame m #[(.ref a1)] 1))
  rw [ef_rec m a1]
  refine own_go (XS.aloadN X0.here hx rfl (hb hby d6_0) rfl rfl (Steps.refl _)) ?_
  show own_Fin _ _ _ _ (s₁.setTop (mkF m 1 #[rv a1] [(.ref a1)]))
  obtain ⟨T73, X73, e73, st73⟩ := initO X0 hx hZ hown (hw _ (List.mem_of_getElem? (i := 37) rfl)) (hw _ (List.mem_of_getElem? (i := 16) rfl)) (hw _ (List.mem_of_getElem? (i := 17) rfl)) e0 (g := (mkF m 1 #[rv a1] [(.ref a1)])) rfl (by rw [hml]; rfl) rfl (hb hby d6_1) (by decide) (W := 0) (by show 2 * 0 + _ ≤ _; exact Nat.le_of_eq rfl) (by decide)
  refine own_by st73 ?_
  show own_Fin _ _ _ _ (T73.setTop (mkF m 4 #[rv a1] []))
  obtain ⟨fs74, hr74, hrun74, hended74, hW74, hsame74⟩ := X73.leave (v := none) (fun _ => rfl)
  refine own_done (X73.returnOut hx Bd.returns (hb hby d6_4) hr74) hrun74 hended74 ⟨_, _, rfl, ?_, ⟨_, rfl⟩, hW74, hsame74.mono (by decide) (by decide)⟩
  show Qrec Z a1 h0 n0 _ T73.heap _
  rw [e73]
  exact ⟨rfl, N0, rfl⟩
theorem d5_0 : decode prog_14_method_1_code 0 = .ok (.aload_n 0, 1) := by decide +kernel
theorem d5_1 : decode prog_14_method_1_code 1 = .ok (.invokespecial 1, 3) := by decide +kernel
theorem d5_4 : decode prog_14_method_1_code 4 = .ok (.aload_n 0, 1) := by decide +kernel
theorem d5_5 : decode prog_14_method_1_code 5 = .ok (.aload_n 1, 1) := by decide +kernel
theorem d5_6 : decode prog_14_method_1_code 6 = .ok (.putfield 7, 3) := by decide +kernel
theorem d5_9 : decode prog_14_method_1_code 9 = .ok (.aload_n 0, 1) := by decide +kernel
theorem d5_10 : decode prog_14_method_1_code 10 = .ok (.aload_n 2, 1) := by decide +kernel
theorem d5_11 : decode prog_14_method_1_code 11 = .ok (.putfield 13, 3) := by decide +kernel
theorem d5_14 : decode prog_14_method_1_code 14 = .ok (.aload_n 0, 1) := by decide +kernel
theorem d5_15 : decode prog_14_method_1_code 15 = .ok (.aload_n 3, 1) := by decide +kernel
theorem d5_16 : decode prog_14_method_1_code 16 = .ok (.putfield 16, 3) := by decide +kernel
theorem d5_19 : decode prog_14_method_1_code 19 = .ok (.aload_n 0, 1) := by decide +kernel
theorem d5_20 : decode prog_14_method_1_code 20 = .ok (.aload 4, 2) := by decide +kernel
theorem d5_22 : decode prog_14_method_1_code 22 = .ok (.putfield 19, 3) := by decide +kernel
theorem d5_25 : decode prog_14_method_1_code 25 = .ok (.return_, 1) := by decide +kernel
theorem pn_com_example_pryority_pryority_UriReference : plainName "com/example/pryority/pryority/UriReference" = true := by first | (simp [plainName, overriddenIn]; done) | decide +kernel
theorem ef_ui_0 (m : MethodId) (x0 : Addr) (x3 : Addr) : entryFrame m #[(.ref x0), .null, .null, (.ref x3), .null] 5 = mkF m 0 #[.val (.ref x0), .val .null, .val .null, .val (.ref x3), .val .null] [] := by first | (simp [entryFrame, mkF, argsToLocals, Value.category]; done) | rfl
def Qui_0 (Z : State) (a1 : Addr) (a4 : Addr) (h0 : Heap) (n0 : Nat) (v : Option Value) (h : Heap) (L : List Loc) : Prop := v = none ∧ Fr n0 L ∧ Keep h0 h [a1] ∧ Exa Z h a1 "com/example/pryority/pryority/UriReference" ∧ Fld Z h a1 "com/example/pryority/pryority/UriReference" "scheme" "Ljava/lang/String;" .null ∧ Fld Z h a1 "com/example/pryority/pryority/UriReference" "authority" "Ljava/lang/String;" .null ∧ Fld Z h a1 "com/example/pryority/pryority/UriReference" "path" "Ljava/lang/String;" (.ref a4) ∧ Fld Z h a1 "com/example/pryority/pryority/UriReference" "query" "Ljava/lang/String;" .null
abbrev Gui_0 (Z : State) (a1 : Addr) (a4 : Addr) (h0 : Heap) (n0 : Nat) (s : State) : Outcome → State → Prop := fun o U' => ∃ v L, o = .returned v ∧ Qui_0 Z a1 a4 h0 n0 v U'.heap L ∧ FrameEnd s o U' L ({ frames := 2, cells := 0, slots := 0, locals := 28 } : Room).cells ({ frames := 2, cells := 0, slots := 0, locals := 28 } : Room).slots
theorem pd__28__29_V : parseMethodDescriptor "()V" = some ⟨[], none⟩ := by decide +kernel
set_option maxRecDepth 65536 in
set_option maxHeartbeats 40000000 in
theorem rmui_0 (l : Launch) (Z : State) (a0 : Array Value) (hw : ∀ d ∈ tables_1, d.before a0 Z = true) (ws : List Jvm.Cond) (a1 : Addr) (a4 : Addr) (h0 : Heap) (n0 : Nat) (Z0 : n0 ≤ h0.size) (E_a1 : Exa Z h0 a1 "com/example/pryority/pryority/UriReference") (F_scheme_a1 : Fld Z h0 a1 "com/example/pryority/pryority/UriReference" "scheme" "Ljava/lang/String;" .null) (F_authority_a1 : Fld Z h0 a1 "com/example/pryority/pryority/UriReference" "authority" "Ljava/lang/String;" .null) (F_path_a1 : Fld Z h0 a1 "com/example/pryority/pryority/UriReference" "path" "Ljava/lang/String;" .null) (F_query_a1 : Fld Z h0 a1 "com/example/pryority/pryority/UriReference" "query" "Ljava/lang/String;" .null) (g_a1 : n0 ≤ a1) :
    MetFree l (⟨"com/example/pryority/pryority/UriReference", "<init>", "(Ljava/lang/String;Ljava/lang/String;Ljava/lang/String;Ljava/lang/String;)V"⟩ : MethodName) (head1 (Jvm.Cond.code (⟨"com/example/pryority/pryority/UriReference", "<init>", "(Ljava/lang/String;Ljava/lang/String;Ljava/lang/String;Ljava/lang/String;)V"⟩ : MethodName) prog_14_method_1_code 5 none :: ws) ({ frames := 2, cells := 0, slots := 0, locals := 28 } : Room)) (fun a U => a = #[(.ref a1), .null, .null, (.ref a4), .null] ∧ Z.Warmed39 U.vm ∧ U.heap = h0) (fun _ _ _ _ _ => True) (fun _ U o U' => ∃ v L, o = .returned v ∧ Qui_0 Z a1 a4 h0 n0 v U'.heap L ∧ FrameEnd U o U' L ({ frames := 2, cells := 0, slots := 0, locals := 28 } : Room).cells ({ frames := 2, cells := 0, slots := 0, locals := 28 } : Room).slots) := by
  refine MetFree.of_bodySF (plainFor_of_name pn_com_example_pryority_pryority_UriReference) hisR ?_
  intro p e s m args below meth c s₁ Bd hml0 hP hK
  obtain ⟨rfl, hZ, hh⟩ := hP
  have hx := Bd.exec
  have hby := Bd.bytes
  have hml : c.maxLocals = 5 := hml0
  have hown : s.vm.findClass "com/example/pryority/pryority/UriReference" = some m.cls := findClass_of_methodNamed Bd.named
  have hnm := (name_of_methodNamed Bd.named Bd.method).1
  have X0 : Stand p l e ({ frames := 2, cells := 0, slots := 0, locals := 28 } : Room) s m #[(.ref a1), .null, .null, (.ref a4), .null] below meth c s₁ [] 0 0 := Stand.of_body Bd
  have e0 : s₁.heap = h0 := by rw [← hh, Bd.state]; rfl
  have es0 : s.heap = h0 := hh
  have N0 := Fr.nil n0
  show own_Fin p e below (Gui_0 Z a1 a4 h0 n0 s) (s₁.setTop (entryFrame m #[(.ref a1), .null, .null, (.ref a4), .null] 5))
  rw [ef_ui_0 m a1 a4]
  have Kz := Keep.refl h0 [a1]
  refine own_go (XS.aloadN X0.here hx rfl (hb hby d5_0) rfl rfl (Steps.refl _)) ?_
  show own_Fin _ _ _ _ (s₁.setTop (mkF m 1 #[rv a1, .val .null, .val .null, rv a4, .val .null] [(.ref a1)]))
  obtain ⟨_, _, ⟨T75, L75, k75, n75⟩, -, X75, ⟨Lc75, hQ75, l75, y75, z75⟩, st75⟩ := X0.specialBack hx (y := (⟨"java/lang/Record", "<init>", "()V"⟩ : MethodName)) rfl hown (mvT hZ (hw _ (List.mem_of_getElem? (i := 32) rfl))) (mvT hZ (hw _ (List.mem_of_getElem? (i := 33) rfl))) (mvT hZ (hw _ (List.mem_of_getElem? (i := 36) rfl))) (by decide) (backOf (W := 0) (rmrec l Z a0 hw [] a1 h0 n0 Z0) hZ (hw _ (List.mem_of_getElem? (i := 36) rfl)) (hw _ (List.mem_of_getElem? (i := 35) rfl)) (by decide) (by decide)) (g := (mkF m 1 #[rv a1, .val .null, .val .null, rv a4, .val .null] [(.ref a1)])) rfl (by rw [hml]; rfl) (Steps.refl _) (a := a1) (argsL := []) (rest := []) (lenOf pd__28__29_V rfl) rfl (by show 2 * 0 + _ ≤ _; exact Nat.le_of_eq rfl) (hb hby d5_1) (fun _ hv => ⟨rfl, e0, (by decide : 0 + 0 ≤ _), (by decide : 0 + 0 ≤ _)⟩)
  dsimp only [Pt.U, Pt.locs, Pt.cells, Pt.slots] at X75 l75 y75 z75 st75 hQ75
  subst l75 y75 z75
  obtain ⟨rfl, Nq75, e75⟩ := hQ75
  refine own_go st75 ?_
  have N75 := Fr.app N0 Nq75
  show own_Fin _ _ _ _ (T75.setTop (mkF m 4 #[rv a1, .val .null, .val .null, rv a4, .val .null] []))
  refine own_go (XS.aloadN X75.here hx rfl (hb hby d5_4) rfl rfl (Steps.refl _)) ?_
  show own_Fin _ _ _ _ (T75.setTop (mkF m 5 #[rv a1, .val .null, .val .null, rv a4, .val .null] [(.ref a1)]))
  refine own_go (XS.aloadN X75.here hx rfl (hb hby d5_5) rfl rfl (Steps.refl _)) ?_
  show own_Fin _ _ _ _ (T75.setTop (mkF m 6 #[rv a1, .val .null, .val .null, rv a4, .val .null] [.null, (.ref a1)]))
  obtain ⟨T76, h76, X76, e76, W76, st76⟩ := putF X75 hx hZ hown (host := "") (Or.inl (hw _ (List.mem_of_getElem? (i := 38) rfl))) Via.refl e75 F_scheme_a1 E_a1 (Or.inr ⟨(hw _ (List.mem_of_getElem? (i := 39) rfl)), rfl, hnm⟩) (hw _ (List.mem_of_getElem? (i := 27) rfl)) (ty := (.object "java/lang/String")) (by decide) rfl rfl (g := (mkF m 6 #[rv a1, .val .null, .val .null, rv a4, .val .null] [.null, (.ref a1)])) rfl rfl (hb hby d5_6)
  refine own_by st76 ?_
  have F_scheme_a1_76 := F_scheme_a1.same W76
  have E_a1_76 := E_a1.wr W76
  have F_authority_a1_76 := F_authority_a1.other W76 (Or.inr (slot_ne (Or.inr (hw _ (List.mem_of_getElem? (i := 41) rfl))) (Or.inr (hw _ (List.mem_of_getElem? (i := 39) rfl))) (by decide) (t := (.object "java/lang/String")) (t' := (.object "java/lang/String")) (by decide) (by decide)))
  have F_path_a1_76 := F_path_a1.other W76 (Or.inr (slot_ne (Or.inr (hw _ (List.mem_of_getElem? (i := 43) rfl))) (Or.inr (hw _ (List.mem_of_getElem? (i := 39) rfl))) (by decide) (t := (.object "java/lang/String")) (t' := (.object "java/lang/String")) (by decide) (by decide)))
  have F_query_a1_76 := F_query_a1.other W76 (Or.inr (slot_ne (Or.inr (hw _ (List.mem_of_getElem? (i := 45) rfl))) (Or.inr (hw _ (List.mem_of_getElem? (i := 39) rfl))) (by decide) (t := (.object "java/lang/String")) (t' := (.object "java/lang/String")) (by decide) (by decide)))
  have N76 := Fr.snoc X76 N75 g_a1
  have Z76 : n0 ≤ h76.size := Nat.le_trans Z0 (Keep.of_wr W76).1
  have K76 := Kz.wr W76 (Or.inl (List.mem_of_getElem? (i := 0) rfl))
  show own_Fin _ _ _ _ (T76.setTop (mkF m 9 #[rv a1, .val .null, .val .null, rv a4, .val .null] []))
  refine own_go (XS.aloadN X76.here hx rfl (hb hby d5_9) rfl rfl (Steps.refl _)) ?_
  show own_Fin _ _ _ _ (T76.setTop (mkF m 10 #[rv a1, .val .null, .val .null, rv a4, .val .null] [(.ref a1)]))
  refine own_go (XS.aloadN X76.here hx rfl (hb hby d5_10) rfl rfl (Steps.refl _)) ?_
  show own_Fin _ _ _ _ (T76.setTop (mkF m 11 #[rv a1, .val .null, .val .null, rv a4, .val .null] [.null, (.ref a1)]))
  obtain ⟨T77, h77, X77, e77, W77, st77⟩ := putF X76 hx hZ hown (host := "") (Or.inl (hw _ (List.mem_of_getElem? (i := 40) rfl))) Via.refl e76 F_authority_a1_76 E_a1_76 (Or.inr ⟨(hw _ (List.mem_of_getElem? (i := 41) rfl)), rfl, hnm⟩) (hw _ (List.mem_of_getElem? (i := 27) rfl)) (ty := (.object "java/lang/String")) (by decide) rfl rfl (g := (mkF m 11 #[rv a1, .val .null, .val .null, rv a4, .val .null] [.null, (.ref a1)])) rfl rfl (hb hby d5_11)
  refine own_by st77 ?_
  have F_authority_a1_77 := F_authority_a1_76.same W77
  have E_a1_77 := E_a1_76.wr W77
  have F_scheme_a1_77 := F_scheme_a1_76.other W77 (Or.inr (slot_ne (Or.inr (hw _ (List.mem_of_getElem? (i := 39) rfl))) (Or.inr (hw _ (List.mem_of_getElem? (i := 41) rfl))) (by decide) (t := (.object "java/lang/String")) (t' := (.object "java/lang/String")) (by decide) (by decide)))
  have F_path_a1_77 := F_path_a1_76.other W77 (Or.inr (slot_ne (Or.inr (hw _ (List.mem_of_getElem? (i := 43) rfl))) (Or.inr (hw _ (List.mem_of_getElem? (i := 41) rfl))) (by decide) (t := (.object "java/lang/String")) (t' := (.object "java/lang/String")) (by decide) (by decide)))
  have F_query_a1_77 := F_query_a1_76.other W77 (Or.inr (slot_ne (Or.inr (hw _ (List.mem_of_getElem? (i := 45) rfl))) (Or.inr (hw _ (List.mem_of_getElem? (i := 41) rfl))) (by decide) (t := (.object "java/lang/String")) (t' := (.object "java/lang/String")) (by decide) (by decide)))
  have N77 := Fr.snoc X77 N76 g_a1
  have Z77 : n0 ≤ h77.size := Nat.le_trans Z76 (Keep.of_wr W77).1
  have K77 := K76.wr W77 (Or.inl (List.mem_of_getElem? (i := 0) rfl))
  show own_Fin _ _ _ _ (T77.setTop (mkF m 14 #[rv a1, .val .null, .val .null, rv a4, .val .null] []))
  refine own_go (XS.aloadN X77.here hx rfl (hb hby d5_14) rfl rfl (Steps.refl _)) ?_
  show own_Fin _ _ _ _ (T77.setTop (mkF m 15 #[rv a1, .val .null, .val .null, rv a4, .val .null] [(.ref a1)]))
  refine own_go (XS.aloadN X77.here hx rfl (hb hby d5_15) rfl rfl (Steps.refl _)) ?_
  show own_Fin _ _ _ _ (T77.setTop (mkF m 16 #[rv a1, .val .null, .val .null, rv a4, .val .null] [(.ref a4), (.ref a1)]))
  obtain ⟨T78, h78, X78, e78, W78, st78⟩ := putF X77 hx hZ hown (host := "") (Or.inl (hw _ (List.mem_of_getElem? (i := 42) rfl))) Via.refl e77 F_path_a1_77 E_a1_77 (Or.inr ⟨(hw _ (List.mem_of_getElem? (i := 43) rfl)), rfl, hnm⟩) (hw _ (List.mem_of_getElem? (i := 27) rfl)) (ty := (.object "java/lang/String")) (by decide) rfl rfl (g := (mkF m 16 #[rv a1, .val .null, .val .null, rv a4, .val .null] [(.ref a4), (.ref a1)])) rfl rfl (hb hby d5_16)
  refine own_by st78 ?_
  have F_path_a1_78 := F_path_a1_77.same W78
  have E_a1_78 := E_a1_77.wr W78
  have F_scheme_a1_78 := F_scheme_a1_77.other W78 (Or.inr (slot_ne (Or.inr (hw _ (List.mem_of_getElem? (i := 39) rfl))) (Or.inr (hw _ (List.mem_of_getElem? (i := 43) rfl))) (by decide) (t := (.object "java/lang/String")) (t' := (.object "java/lang/String")) (by decide) (by decide)))
  have F_authority_a1_78 := F_authority_a1_77.other W78 (Or.inr (slot_ne (Or.inr (hw _ (List.mem_of_getElem? (i := 41) rfl))) (Or.inr (hw _ (List.mem_of_getElem? (i := 43) rfl))) (by decide) (t := (.object "java/lang/String")) (t' := (.object "java/lang/String")) (by decide) (by decide)))
  have F_query_a1_78 := F_query_a1_77.other W78 (Or.inr (slot_ne (Or.inr (hw _ (List.mem_of_getElem? (i := 45) rfl))) (Or.inr (hw _ (List.mem_of_getElem? (i := 43) rfl))) (by decide) (t := (.object "java/lang/String")) (t' := (.object "java/lang/String")) (by decide) (by decide)))
  have N78 := Fr.snoc X78 N77 g_a1
  have Z78 : n0 ≤ h78.size := Nat.le_trans Z77 (Keep.of_wr W78).1
  have K78 := K77.wr W78 (Or.inl (List.mem_of_getElem? (i := 0) rfl))
  show own_Fin _ _ _ _ (T78.setTop (mkF m 19 #[rv a1, .val .null, .val .null, rv a4, .val .null] []))
  refine own_go (XS.aloadN X78.here hx rfl (hb hby d5_19) rfl rfl (Steps.refl _)) ?_
  show own_Fin _ _ _ _ (T78.setTop (mkF m 20 #[rv a1, .val .null, .val .null, rv a4, .val .null] [(.ref a1)]))
  refine own_go (XS.aload X78.here hx rfl (hb hby d5_20) rfl rfl (Steps.refl _)) ?_
  show own_Fin _ _ _ _ (T78.setTop (mkF m 22 #[rv a1, .val .null, .val .null, rv a4, .val .null] [.null, (.ref a1)]))
  obtain ⟨T79, h79, X79, e79, W79, st79⟩ := putF X78 hx hZ hown (host := "") (Or.inl (hw _ (List.mem_of_getElem? (i := 44) rfl))) Via.refl e78 F_query_a1_78 E_a1_78 (Or.inr ⟨(hw _ (List.mem_of_getElem? (i := 45) rfl)), rfl, hnm⟩) (hw _ (List.mem_of_getElem? (i := 27) rfl)) (ty := (.object "java/lang/String")) (by decide) rfl rfl (g := (mkF m 22 #[rv a1, .val .null, .val .null, rv a4, .val .null] [.null, (.ref a1)])) rfl rfl (hb hby d5_22)
  refine own_by st79 ?_
  have F_query_a1_79 := F_query_a1_78.same W79
  have E_a1_79 := E_a1_78.wr W79
  have F_scheme_a1_79 := F_scheme_a1_78.other W79 (Or.inr (slot_ne (Or.inr (hw _ (List.mem_of_getElem? (i := 39) rfl))) (Or.inr (hw _ (List.mem_of_getElem? (i := 45) rfl))) (by decide) (t := (.object "java/lang/String")) (t' := (.object "java/lang/String")) (by decide) (by decide)))
  have F_authority_a1_79 := F_authority_a1_78.other W79 (Or.inr (slot_ne (Or.inr (hw _ (List.mem_of_getElem? (i := 41) rfl))) (Or.inr (hw _ (List.mem_of_getElem? (i := 45) rfl))) (by decide) (t := (.object "java/lang/String")) (t' := (.object "java/lang/String")) (by decide) (by decide)))
  have F_path_a1_79 := F_path_a1_78.other W79 (Or.inr (slot_ne (Or.inr (hw _ (List.mem_of_getElem? (i := 43) rfl))) (Or.inr (hw _ (List.mem_of_getElem? (i := 45) rfl))) (by decide) (t := (.object "java/lang/String")) (t' := (.object "java/lang/String")) (by decide) (by decide)))
  have N79 := Fr.snoc X79 N78 g_a1
  have Z79 : n0 ≤ h79.size := Nat.le_trans Z78 (Keep.of_wr W79).1
  have K79 := K78.wr W79 (Or.inl (List.mem_of_getElem? (i := 0) rfl))
  show own_Fin _ _ _ _ (T79.setTop (mkF m 25 #[rv a1, .val .null, .val .null, rv a4, .val .null] []))
  obtain ⟨fs80, hr80, hrun80, hended80, hW80, hsame80⟩ := X79.leave (v := none) (fun _ => rfl)
  refine own_done (X79.returnOut hx Bd.returns (hb hby d5_25) hr80) hrun80 hended80 ⟨_, _, rfl, ?_, ⟨_, rfl⟩, hW80, hsame80.mono (by decide) (by decide)⟩
  show Qui_0 Z a1 a4 h0 n0 _ T79.heap _
  rw [e79]
  exact ⟨rfl, N79, K79, E_a1_79, F_scheme_a1_79, F_authority_a1_79, F_path_a1_79, F_query_a1_79⟩
theorem ef_ui_1 (m : MethodId) (x0 : Addr) (x1 : Addr) (x3 : Addr) : entryFrame m #[(.ref x0), (.ref x1), .null, (.ref x3), .null] 5 = mkF m 0 #[.val (.ref x0), .val (.ref x1), .val .null, .val (.ref x3), .val .null] [] := by first | (simp [entryFrame, mkF, argsToLocals, Value.category]; done) | rfl
def Qui_1 (Z : State) (a1 : Addr) (a2 : Addr) (a4 : Addr) (h0 : Heap) (n0 : Nat) (v : Option Value) (h : Heap) (L : List Loc) : Prop := v = none ∧ Fr n0 L ∧ Keep h0 h [a1] ∧ Exa Z h a1 "com/example/pryority/pryority/UriReference" ∧ Fld Z h a1 "com/example/pryority/pryority/UriReference" "scheme" "Ljava/lang/String;" (.ref a2) ∧ Fld Z h a1 "com/example/pryority/pryority/UriReference" "authority" "Ljava/lang/String;" .null ∧ Fld Z h a1 "com/example/pryority/pryority/UriReference" "path" "Ljava/lang/String;" (.ref a4) ∧ Fld Z h a1 "com/example/pryority/pryority/UriReference" "query" "Ljava/lang/String;" .null
abbrev Gui_1 (Z : State) (a1 : Addr) (a2 : Addr) (a4 : Addr) (h0 : Heap) (n0 : Nat) (s : State) : Outcome → State → Prop := fun o U' => ∃ v L, o = .returned v ∧ Qui_1 Z a1 a2 a4 h0 n0 v U'.heap L ∧ FrameEnd s o U' L ({ frames := 2, cells := 0, slots := 0, locals := 28 } : Room).cells ({ frames := 2, cells := 0, slots := 0, locals := 28 } : Room).slots
set_option maxRecDepth 65536 in
set_option maxHeartbeats 40000000 in
theorem rmui_1 (l : Launch) (Z : State) (a0 : Array Value) (hw : ∀ d ∈ tables_1, d.before a0 Z = true) (ws : List Jvm.Cond) (a1 : Addr) (a2 : Addr) (a4 : Addr) (h0 : Heap) (n0 : Nat) (Z0 : n0 ≤ h0.size) (E_a1 : Exa Z h0 a1 "com/example/pryority/pryority/UriReference") (F_scheme_a1 : Fld Z h0 a1 "com/example/pryority/pryority/UriReference" "scheme" "Ljava/lang/String;" .null) (F_authority_a1 : Fld Z h0 a1 "com/example/pryority/pryority/UriReference" "authority" "Ljava/lang/String;" .null) (F_path_a1 : Fld Z h0 a1 "com/example/pryority/pryority/UriReference" "path" "Ljava/lang/String;" .null) (F_query_a1 : Fld Z h0 a1 "com/example/pryority/pryority/UriReference" "query" "Ljava/lang/String;" .null) (g_a1 : n0 ≤ a1) :
    MetFree l (⟨"com/example/pryority/pryority/UriReference", "<init>", "(Ljava/lang/String;Ljava/lang/String;Ljava/lang/String;Ljava/lang/String;)V"⟩ : MethodName) (head1 (Jvm.Cond.code (⟨"com/example/pryority/pryority/UriReference", "<init>", "(Ljava/lang/String;Ljava/lang/String;Ljava/lang/String;Ljava/lang/String;)V"⟩ : MethodName) prog_14_method_1_code 5 none :: ws) ({ frames := 2, cells := 0, slots := 0, locals := 28 } : Room)) (fun a U => a = #[(.ref a1), (.ref a2), .null, (.ref a4), .null] ∧ Z.Warmed39 U.vm ∧ U.heap = h0) (fun _ _ _ _ _ => True) (fun _ U o U' => ∃ v L, o = .returned v ∧ Qui_1 Z a1 a2 a4 h0 n0 v U'.heap L ∧ FrameEnd U o U' L ({ frames := 2, cells := 0, slots := 0, locals := 28 } : Room).cells ({ frames := 2, cells := 0, slots := 0, locals := 28 } : Room).slots) := by
  refine MetFree.of_bodySF (plainFor_of_name pn_com_example_pryority_pryority_UriReference) hisR ?_
  intro p e s m args below meth c s₁ Bd hml0 hP hK
  obtain ⟨rfl, hZ, hh⟩ := hP
  have hx := Bd.exec
  have hby := Bd.bytes
  have hml : c.maxLocals = 5 := hml0
  have hown : s.vm.findClass "com/example/pryority/pryority/UriReference" = some m.cls := findClass_of_methodNamed Bd.named
  have hnm := (name_of_methodNamed Bd.named Bd.method).1
  have X0 : Stand p l e ({ frames := 2, cells := 0, slots := 0, locals := 28 } : Room) s m #[(.ref a1), (.ref a2), .null, (.ref a4), .null] below meth c s₁ [] 0 0 := Stand.of_body Bd
  have e0 : s₁.heap = h0 := by rw [← hh, Bd.state]; rfl
  have es0 : s.heap = h0 := hh
  have N0 := Fr.nil n0
  show own_Fin p e below (Gui_1 Z a1 a2 a4 h0 n0 s) (s₁.setTop (entryFrame m #[(.ref a1), (.ref a2), .null, (.ref a4), .null] 5))
  rw [ef_ui_1 m a1 a2 a4]
  have Kz := Keep.refl h0 [a1]
  refine own_go (XS.aloadN X0.here hx rfl (hb hby d5_0) rfl rfl (Steps.refl _)) ?_
  show own_Fin _ _ _ _ (s₁.setTop (mkF m 1 #[rv a1, rv a2, .val .null, rv a4, .val .null] [(.ref a1)]))
  obtain ⟨_, _, ⟨T81, L81, k81, n81⟩, -, X81, ⟨Lc81, hQ81, l81, y81, z81⟩, st81⟩ := X0.specialBack hx (y := (⟨"java/lang/Record", "<init>", "()V"⟩ : MethodName)) rfl hown (mvT hZ (hw _ (List.mem_of_getElem? (i := 32) rfl))) (mvT hZ (hw _ (List.mem_of_getElem? (i := 33) rfl))) (mvT hZ (hw _ (List.mem_of_getElem? (i := 36) rfl))) (by decide) (backOf (W := 0) (rmrec l Z a0 hw [] a1 h0 n0 Z0) hZ (hw _ (List.mem_of_getElem? (i := 36) rfl)) (hw _ (List.mem_of_getElem? (i := 35) rfl)) (by decide) (by decide)) (g := (mkF m 1 #[rv a1, rv a2, .val .null, rv a4, .val .null] [(.ref a1)])) rfl (by rw [hml]; rfl) (Steps.refl _) (a := a1) (argsL := []) (rest := []) (lenOf pd__28__29_V rfl) rfl (by show 2 * 0 + _ ≤ _; exact Nat.le_of_eq rfl) (hb hby d5_1) (fun _ hv => ⟨rfl, e0, (by decide : 0 + 0 ≤ _), (by decide : 0 + 0 ≤ _)⟩)
  dsimp only [Pt.U, Pt.locs, Pt.cells, Pt.slots] at X81 l81 y81 z81 st81 hQ81
  subst l81 y81 z81
  obtain ⟨rfl, Nq81, e81⟩ := hQ81
  refine own_go st81 ?_
  have N81 := Fr.app N0 Nq81
  show own_Fin _ _ _ _ (T81.setTop (mkF m 4 #[rv a1, rv a2, .val .null, rv a4, .val .null] []))
  refine own_go (XS.aloadN X81.here hx rfl (hb hby d5_4) rfl rfl (Steps.refl _)) ?_
  show own_Fin _ _ _ _ (T81.setTop (mkF m 5 #[rv a1, rv a2, .val .null, rv a4, .val .null] [(.ref a1)]))
  refine own_go (XS.aloadN X81.here hx rfl (hb hby d5_5) rfl rfl (Steps.refl _)) ?_
  show own_Fin _ _ _ _ (T81.setTop (mkF m 6 #[rv a1, rv a2, .val .null, rv a4, .val .null] [(.ref a2), (.ref a1)]))
  obtain ⟨T82, h82, X82, e82, W82, st82⟩ := putF X81 hx hZ hown (host := "") (Or.inl (hw _ (List.mem_of_getElem? (i := 38) rfl))) Via.refl e81 F_scheme_a1 E_a1 (Or.inr ⟨(hw _ (List.mem_of_getElem? (i := 39) rfl)), rfl, hnm⟩) (hw _ (List.mem_of_getElem? (i := 27) rfl)) (ty := (.object "java/lang/String")) (by decide) rfl rfl (g := (mkF m 6 #[rv a1, rv a2, .val .null, rv a4, .val .null] [(.ref a2), (.ref a1)])) rfl rfl (hb hby d5_6)
  refine own_by st82 ?_
  have F_scheme_a1_82 := F_scheme_a1.same W82
  have E_a1_82 := E_a1.wr W82
  have F_authority_a1_82 := F_authority_a1.other W82 (Or.inr (slot_ne (Or.inr (hw _ (List.mem_of_getElem? (i := 41) rfl))) (Or.inr (hw _ (List.mem_of_getElem? (i := 39) rfl))) (by decide) (t := (.object "java/lang/String")) (t' := (.object "java/lang/String")) (by decide) (by decide)))
  have F_path_a1_82 := F_path_a1.other W82 (Or.inr (slot_ne (Or.inr (hw _ (List.mem_of_getElem? (i := 43) rfl))) (Or.inr (hw _ (List.mem_of_getElem? (i := 39) rfl))) (by decide) (t := (.object "java/lang/String")) (t' := (.object "java/lang/String")) (by decide) (by decide)))
  have F_query_a1_82 := F_query_a1.other W82 (Or.inr (slot_ne (Or.inr (hw _ (List.mem_of_getElem? (i := 45) rfl))) (Or.inr (hw _ (List.mem_of_getElem? (i := 39) rfl))) (by decide) (t := (.object "java/lang/String")) (t' := (.object "java/lang/String")) (by decide) (by decide)))
  have N82 := Fr.snoc X82 N81 g_a1
  have Z82 : n0 ≤ h82.size := Nat.le_trans Z0 (Keep.of_wr W82).1
  have K82 := Kz.wr W82 (Or.inl (List.mem_of_getElem? (i := 0) rfl))
  show own_Fin _ _ _ _ (T82.setTop (mkF m 9 #[rv a1, rv a2, .val .null, rv a4, .val .null] []))
  refine own_go (XS.aloadN X82.here hx rfl (hb hby d5_9) rfl rfl (Steps.refl _)) ?_
  show own_Fin _ _ _ _ (T82.setTop (mkF m 10 #[rv a1, rv a2, .val .null, rv a4, .val .null] [(.ref a1)]))
  refine own_go (XS.aloadN X82.here hx rfl (hb hby d5_10) rfl rfl (Steps.refl _)) ?_
  show own_Fin _ _ _ _ (T82.setTop (mkF m 11 #[rv a1, rv a2, .val .null, rv a4, .val .null] [.null, (.ref a1)]))
  obtain ⟨T83, h83, X83, e83, W83, st83⟩ := putF X82 hx hZ hown (host := "") (Or.inl (hw _ (List.mem_of_getElem? (i := 40) rfl))) Via.refl e82 F_authority_a1_82 E_a1_82 (Or.inr ⟨(hw _ (List.mem_of_getElem? (i := 41) rfl)), rfl, hnm⟩) (hw _ (List.mem_of_getElem? (i := 27) rfl)) (ty := (.object "java/lang/String")) (by decide) rfl rfl (g := (mkF m 11 #[rv a1, rv a2, .val .null, rv a4, .val .null] [.null, (.ref a1)])) rfl rfl (hb hby d5_11)
  refine own_by st83 ?_
  have F_authority_a1_83 := F_authority_a1_82.same W83
  have E_a1_83 := E_a1_82.wr W83
  have F_scheme_a1_83 := F_scheme_a1_82.other W83 (Or.inr (slot_ne (Or.inr (hw _ (List.mem_of_getElem? (i := 39) rfl))) (Or.inr (hw _ (List.mem_of_getElem? (i := 41) rfl))) (by decide) (t := (.object "java/lang/String")) (t' := (.object "java/lang/String")) (by decide) (by decide)))
  have F_path_a1_83 := F_path_a1_82.other W83 (Or.inr (slot_ne (Or.inr (hw _ (List.mem_of_getElem? (i := 43) rfl))) (Or.inr (hw _ (List.mem_of_getElem? (i := 41) rfl))) (by decide) (t := (.object "java/lang/String")) (t' := (.object "java/lang/String")) (by decide) (by decide)))
  have F_query_a1_83 := F_query_a1_82.other W83 (Or.inr (slot_ne (Or.inr (hw _ (List.mem_of_getElem? (i := 45) rfl))) (Or.inr (hw _ (List.mem_of_getElem? (i := 41) rfl))) (by decide) (t := (.object "java/lang/String")) (t' := (.object "java/lang/String")) (by decide) (by decide)))
  have N83 := Fr.snoc X83 N82 g_a1
  have Z83 : n0 ≤ h83.size := Nat.le_trans Z82 (Keep.of_wr W83).1
  have K83 := K82.wr W83 (Or.inl (List.mem_of_getElem? (i := 0) rfl))
  show own_Fin _ _ _ _ (T83.setTop (mkF m 14 #[rv a1, rv a2, .val .null, rv a4, .val .null] []))
  refine own_go (XS.aloadN X83.here hx rfl (hb hby d5_14) rfl rfl (Steps.refl _)) ?_
  show own_Fin _ _ _ _ (T83.setTop (mkF m 15 #[rv a1, rv a2, .val .null, rv a4, .val .null] [(.ref a1)]))
  refine own_go (XS.aloadN X83.here hx rfl (hb hby d5_15) rfl rfl (Steps.refl _)) ?_
  show own_Fin _ _ _ _ (T83.setTop (mkF m 16 #[rv a1, rv a2, .val .null, rv a4, .val .null] [(.ref a4), (.ref a1)]))
  obtain ⟨T84, h84, X84, e84, W84, st84⟩ := putF X83 hx hZ hown (host := "") (Or.inl (hw _ (List.mem_of_getElem? (i := 42) rfl))) Via.refl e83 F_path_a1_83 E_a1_83 (Or.inr ⟨(hw _ (List.mem_of_getElem? (i := 43) rfl)), rfl, hnm⟩) (hw _ (List.mem_of_getElem? (i := 27) rfl)) (ty := (.object "java/lang/String")) (by decide) rfl rfl (g := (mkF m 16 #[rv a1, rv a2, .val .null, rv a4, .val .null] [(.ref a4), (.ref a1)])) rfl rfl (hb hby d5_16)
  refine own_by st84 ?_
  have F_path_a1_84 := F_path_a1_83.same W84
  have E_a1_84 := E_a1_83.wr W84
  have F_scheme_a1_84 := F_scheme_a1_83.other W84 (Or.inr (slot_ne (Or.inr (hw _ (List.mem_of_getElem? (i := 39) rfl))) (Or.inr (hw _ (List.mem_of_getElem? (i := 43) rfl))) (by decide) (t := (.object "java/lang/String")) (t' := (.object "java/lang/String")) (by decide) (by decide)))
  have F_authority_a1_84 := F_authority_a1_83.other W84 (Or.inr (slot_ne (Or.inr (hw _ (List.mem_of_getElem? (i := 41) rfl))) (Or.inr (hw _ (List.mem_of_getElem? (i := 43) rfl))) (by decide) (t := (.object "java/lang/String")) (t' := (.object "java/lang/String")) (by decide) (by decide)))
  have F_query_a1_84 := F_query_a1_83.other W84 (Or.inr (slot_ne (Or.inr (hw _ (List.mem_of_getElem? (i := 45) rfl))) (Or.inr (hw _ (List.mem_of_getElem? (i := 43) rfl))) (by decide) (t := (.object "java/lang/String")) (t' := (.object "java/lang/String")) (by decide) (by decide)))
  have N84 := Fr.snoc X84 N83 g_a1
  have Z84 : n0 ≤ h84.size := Nat.le_trans Z83 (Keep.of_wr W84).1
  have K84 := K83.wr W84 (Or.inl (List.mem_of_getElem? (i := 0) rfl))
  show own_Fin _ _ _ _ (T84.setTop (mkF m 19 #[rv a1, rv a2, .val .null, rv a4, .val .null] []))
  refine own_go (XS.aloadN X84.here hx rfl (hb hby d5_19) rfl rfl (Steps.refl _)) ?_
  show own_Fin _ _ _ _ (T84.setTop (mkF m 20 #[rv a1, rv a2, .val .null, rv a4, .val .null] [(.ref a1)]))
  refine own_go (XS.aload X84.here hx rfl (hb hby d5_20) rfl rfl (Steps.refl _)) ?_
  show own_Fin _ _ _ _ (T84.setTop (mkF m 22 #[rv a1, rv a2, .val .null, rv a4, .val .null] [.null, (.ref a1)]))
  obtain ⟨T85, h85, X85, e85, W85, st85⟩ := putF X84 hx hZ hown (host := "") (Or.inl (hw _ (List.mem_of_getElem? (i := 44) rfl))) Via.refl e84 F_query_a1_84 E_a1_84 (Or.inr ⟨(hw _ (List.mem_of_getElem? (i := 45) rfl)), rfl, hnm⟩) (hw _ (List.mem_of_getElem? (i := 27) rfl)) (ty := (.object "java/lang/String")) (by decide) rfl rfl (g := (mkF m 22 #[rv a1, rv a2, .val .null, rv a4, .val .null] [.null, (.ref a1)])) rfl rfl (hb hby d5_22)
  refine own_by st85 ?_
  have F_query_a1_85 := F_query_a1_84.same W85
  have E_a1_85 := E_a1_84.wr W85
  have F_scheme_a1_85 := F_scheme_a1_84.other W85 (Or.inr (slot_ne (Or.inr (hw _ (List.mem_of_getElem? (i := 39) rfl))) (Or.inr (hw _ (List.mem_of_getElem? (i := 45) rfl))) (by decide) (t := (.object "java/lang/String")) (t' := (.object "java/lang/String")) (by decide) (by decide)))
  have F_authority_a1_85 := F_authority_a1_84.other W85 (Or.inr (slot_ne (Or.inr (hw _ (List.mem_of_getElem? (i := 41) rfl))) (Or.inr (hw _ (List.mem_of_getElem? (i := 45) rfl))) (by decide) (t := (.object "java/lang/String")) (t' := (.object "java/lang/String")) (by decide) (by decide)))
  have F_path_a1_85 := F_path_a1_84.other W85 (Or.inr (slot_ne (Or.inr (hw _ (List.mem_of_getElem? (i := 43) rfl))) (Or.inr (hw _ (List.mem_of_getElem? (i := 45) rfl))) (by decide) (t := (.object "java/lang/String")) (t' := (.object "java/lang/String")) (by decide) (by decide)))
  have N85 := Fr.snoc X85 N84 g_a1
  have Z85 : n0 ≤ h85.size := Nat.le_trans Z84 (Keep.of_wr W85).1
  have K85 := K84.wr W85 (Or.inl (List.mem_of_getElem? (i := 0) rfl))
  show own_Fin _ _ _ _ (T85.setTop (mkF m 25 #[rv a1, rv a2, .val .null, rv a4, .val .null] []))
  obtain ⟨fs86, hr86, hrun86, hended86, hW86, hsame86⟩ := X85.leave (v := none) (fun _ => rfl)
  refine own_done (X85.returnOut hx Bd.returns (hb hby d5_25) hr86) hrun86 hended86 ⟨_, _, rfl, ?_, ⟨_, rfl⟩, hW86, hsame86.mono (by decide) (by decide)⟩
  show Qui_1 Z a1 a2 a4 h0 n0 _ T85.heap _
  rw [e85]
  exact ⟨rfl, N85, K85, E_a1_85, F_scheme_a1_85, F_authority_a1_85, F_path_a1_85, F_query_a1_85⟩
theorem ef_ui_2 (m : MethodId) (x0 : Addr) (x2 : Addr) (x3 : Addr) : entryFrame m #[(.ref x0), .null, (.ref x2), (.ref x3), .null] 5 = mkF m 0 #[.val (.ref x0), .val .null, .val (.ref x2), .val (.ref x3), .val .null] [] := by first | (simp [entryFrame, mkF, argsToLocals, Value.category]; done) | rfl
def Qui_2 (Z : State) (a1 : Addr) (a3 : Addr) (a4 : Addr) (h0 : Heap) (n0 : Nat) (v : Option Value) (h : Heap) (L : List Loc) : Prop := v = none ∧ Fr n0 L ∧ Keep h0 h [a1] ∧ Exa Z h a1 "com/example/pryority/pryority/UriReference" ∧ Fld Z h a1 "com/example/pryority/pryority/UriReference" "scheme" "Ljava/lang/String;" .null ∧ Fld Z h a1 "com/example/pryority/pryority/UriReference" "authority" "Ljava/lang/String;" (.ref a3) ∧ Fld Z h a1 "com/example/pryority/pryority/UriReference" "path" "Ljava/lang/String;" (.ref a4) ∧ Fld Z h a1 "com/example/pryority/pryority/UriReference" "query" "Ljava/lang/String;" .null
abbrev Gui_2 (Z : State) (a1 : Addr) (a3 : Addr) (a4 : Addr) (h0 : Heap) (n0 : Nat) (s : State) : Outcome → State → Prop := fun o U' => ∃ v L, o = .returned v ∧ Qui_2 Z a1 a3 a4 h0 n0 v U'.heap L ∧ FrameEnd s o U' L ({ frames := 2, cells := 0, slots := 0, locals := 28 } : Room).cells ({ frames := 2, cells := 0, slots := 0, locals := 28 } : Room).slots
set_option maxRecDepth 65536 in
set_option maxHeartbeats 40000000 in
theorem rmui_2 (l : Launch) (Z : State) (a0 : Array Value) (hw : ∀ d ∈ tables_1, d.before a0 Z = true) (ws : List Jvm.Cond) (a1 : Addr) (a3 : Addr) (a4 : Addr) (h0 : Heap) (n0 : Nat) (Z0 : n0 ≤ h0.size) (E_a1 : Exa Z h0 a1 "com/example/pryority/pryority/UriReference") (F_scheme_a1 : Fld Z h0 a1 "com/example/pryority/pryority/UriReference" "scheme" "Ljava/lang/String;" .null) (F_authority_a1 : Fld Z h0 a1 "com/example/pryority/pryority/UriReference" "authority" "Ljava/lang/String;" .null) (F_path_a1 : Fld Z h0 a1 "com/example/pryority/pryority/UriReference" "path" "Ljava/lang/String;" .null) (F_query_a1 : Fld Z h0 a1 "com/example/pryority/pryority/UriReference" "query" "Ljava/lang/String;" .null) (g_a1 : n0 ≤ a1) :
    MetFree l (⟨"com/example/pryority/pryority/UriReference", "<init>", "(Ljava/lang/String;Ljava/lang/String;Ljava/lang/String;Ljava/lang/String;)V"⟩ : MethodName) (head1 (Jvm.Cond.code (⟨"com/example/pryority/pryority/UriReference", "<init>", "(Ljava/lang/String;Ljava/lang/String;Ljava/lang/String;Ljava/lang/String;)V"⟩ : MethodName) prog_14_method_1_code 5 none :: ws) ({ frames := 2, cells := 0, slots := 0, locals := 28 } : Room)) (fun a U => a = #[(.ref a1), .null, (.ref a3), (.ref a4), .null] ∧ Z.Warmed39 U.vm ∧ U.heap = h0) (fun _ _ _ _ _ => True) (fun _ U o U' => ∃ v L, o = .returned v ∧ Qui_2 Z a1 a3 a4 h0 n0 v U'.heap L ∧ FrameEnd U o U' L ({ frames := 2, cells := 0, slots := 0, locals := 28 } : Room).cells ({ frames := 2, cells := 0, slots := 0, locals := 28 } : Room).slots) := by
  refine MetFree.of_bodySF (plainFor_of_name pn_com_example_pryority_pryority_UriReference) hisR ?_
  intro p e s m args below meth c s₁ Bd hml0 hP hK
  obtain ⟨rfl, hZ, hh⟩ := hP
  have hx := Bd.exec
  have hby := Bd.bytes
  have hml : c.maxLocals = 5 := hml0
  have hown : s.vm.findClass "com/example/pryority/pryority/UriReference" = some m.cls := findClass_of_methodNamed Bd.named
  have hnm := (name_of_methodNamed Bd.named Bd.method).1
  have X0 : Stand p l e ({ frames := 2, cells := 0, slots := 0, locals := 28 } : Room) s m #[(.ref a1), .null, (.ref a3), (.ref a4), .null] below meth c s₁ [] 0 0 := Stand.of_body Bd
  have e0 : s₁.heap = h0 := by rw [← hh, Bd.state]; rfl
  have es0 : s.heap = h0 := hh
  have N0 := Fr.nil n0
  show own_Fin p e below (Gui_2 Z a1 a3 a4 h0 n0 s) (s₁.setTop (entryFrame m #[(.ref a1), .null, (.ref a3), (.ref a4), .null] 5))
  rw [ef_ui_2 m a1 a3 a4]
  have Kz := Keep.refl h0 [a1]
  refine own_go (XS.aloadN X0.here hx rfl (hb hby d5_0) rfl rfl (Steps.refl _)) ?_
  show own_Fin _ _ _ _ (s₁.setTop (mkF m 1 #[rv a1, .val .null, rv a3, rv a4, .val .null] [(.ref a1)]))
  obtain ⟨_, _, ⟨T87, L87, k87, n87⟩, -, X87, ⟨Lc87, hQ87, l87, y87, z87⟩, st87⟩ := X0.specialBack hx (y := (⟨"java/lang/Record", "<init>", "()V"⟩ : MethodName)) rfl hown (mvT hZ (hw _ (List.mem_of_getElem? (i := 32) rfl))) (mvT hZ (hw _ (List.mem_of_getElem? (i := 33) rfl))) (mvT hZ (hw _ (List.mem_of_getElem? (i := 36) rfl))) (by decide) (backOf (W := 0) (rmrec l Z a0 hw [] a1 h0 n0 Z0) hZ (hw _ (List.mem_of_getElem? (i := 36) rfl)) (hw _ (List.mem_of_getElem? (i := 35) rfl)) (by decide) (by decide)) (g := (mkF m 1 #[rv a1, .val .null, rv a3, rv a4, .val .null] [(.ref a1)])) rfl (by rw [hml]; rfl) (Steps.refl _) (a := a1) (argsL := []) (rest := []) (lenOf pd__28__29_V rfl) rfl (by show 2 * 0 + _ ≤ _; exact Nat.le_of_eq rfl) (hb hby d5_1) (fun _ hv => ⟨rfl, e0, (by decide : 0 + 0 ≤ _), (by decide : 0 + 0 ≤ _)⟩)
  dsimp only [Pt.U, Pt.locs, Pt.cells, Pt.slots] at X87 l87 y87 z87 st87 hQ87
  subst l87 y87 z87
  obtain ⟨rfl, Nq87, e87⟩ := hQ87
  refine own_go st87 ?_
  have N87 := Fr.app N0 Nq87
  show own_Fin _ _ _ _ (T87.setTop (mkF m 4 #[rv a1, .val .null, rv a3, rv a4, .val .null] []))
  refine own_go (XS.aloadN X87.here hx rfl (hb hby d5_4) rfl rfl (Steps.refl _)) ?_
  show own_Fin _ _ _ _ (T87.setTop (mkF m 5 #[rv a1, .val .null, rv a3, rv a4, .val .null] [(.ref a1)]))
  refine own_go (XS.aloadN X87.here hx rfl (hb hby d5_5) rfl rfl (Steps.refl _)) ?_
  show own_Fin _ _ _ _ (T87.setTop (mkF m 6 #[rv a1, .val .null, rv a3, rv a4, .val .null] [.null, (.ref a1)]))
  obtain ⟨T88, h88, X88, e88, W88, st88⟩ := putF X87 hx hZ hown (host := "") (Or.inl (hw _ (List.mem_of_getElem? (i := 38) rfl))) Via.refl e87 F_scheme_a1 E_a1 (Or.inr ⟨(hw _ (List.mem_of_getElem? (i := 39) rfl)), rfl, hnm⟩) (hw _ (List.mem_of_getElem? (i := 27) rfl)) (ty := (.object "java/lang/String")) (by decide) rfl rfl (g := (mkF m 6 #[rv a1, .val .null, rv a3, rv a4, .val .null] [.null, (.ref a1)])) rfl rfl (hb hby d5_6)
  refine own_by st88 ?_
  have F_scheme_a1_88 := F_scheme_a1.same W88
  have E_a1_88 := E_a1.wr W88
  have F_authority_a1_88 := F_authority_a1.other W88 (Or.inr (slot_ne (Or.inr (hw _ (List.mem_of_getElem? (i := 41) rfl))) (Or.inr (hw _ (List.mem_of_getElem? (i := 39) rfl))) (by decide) (t := (.object "java/lang/String")) (t' := (.object "java/lang/String")) (by decide) (by decide)))
  have F_path_a1_88 := F_path_a1.other W88 (Or.inr (slot_ne (Or.inr (hw _ (List.mem_of_getElem? (i := 43) rfl))) (Or.inr (hw _ (List.mem_of_getElem? (i := 39) rfl))) (by decide) (t := (.object "java/lang/String")) (t' := (.object "java/lang/String")) (by decide) (by decide)))
  have F_query_a1_88 := F_query_a1.other W88 (Or.inr (slot_ne (Or.inr (hw _ (List.mem_of_getElem? (i := 45) rfl))) (Or.inr (hw _ (List.mem_of_getElem? (i := 39) rfl))) (by decide) (t := (.object "java/lang/String")) (t' := (.object "java/lang/String")) (by decide) (by decide)))
  have N88 := Fr.snoc X88 N87 g_a1
  have Z88 : n0 ≤ h88.size := Nat.le_trans Z0 (Keep.of_wr W88).1
  have K88 := Kz.wr W88 (Or.inl (List.mem_of_getElem? (i := 0) rfl))
  show own_Fin _ _ _ _ (T88.setTop (mkF m 9 #[rv a1, .val .null, rv a3, rv a4, .val .null] []))
  refine own_go (XS.aloadN X88.here hx rfl (hb hby d5_9) rfl rfl (Steps.refl _)) ?_
  show own_Fin _ _ _ _ (T88.setTop (mkF m 10 #[rv a1, .val .null, rv a3, rv a4, .val .null] [(.ref a1)]))
  refine own_go (XS.aloadN X88.here hx rfl (hb hby d5_10) rfl rfl (Steps.refl _)) ?_
  show own_Fin _ _ _ _ (T88.setTop (mkF m 11 #[rv a1, .val .null, rv a3, rv a4, .val .null] [(.ref a3), (.ref a1)]))
  obtain ⟨T89, h89, X89, e89, W89, st89⟩ := putF X88 hx hZ hown (host := "") (Or.inl (hw _ (List.mem_of_getElem? (i := 40) rfl))) Via.refl e88 F_authority_a1_88 E_a1_88 (Or.inr ⟨(hw _ (List.mem_of_getElem? (i := 41) rfl)), rfl, hnm⟩) (hw _ (List.mem_of_getElem? (i := 27) rfl)) (ty := (.object "java/lang/String")) (by decide) rfl rfl (g := (mkF m 11 #[rv a1, .val .null, rv a3, rv a4, .val .null] [(.ref a3), (.ref a1)])) rfl rfl (hb hby d5_11)
  refine own_by st89 ?_
  have F_authority_a1_89 := F_authority_a1_88.same W89
  have E_a1_89 := E_a1_88.wr W89
  have F_scheme_a1_89 := F_scheme_a1_88.other W89 (Or.inr (slot_ne (Or.inr (hw _ (List.mem_of_getElem? (i := 39) rfl))) (Or.inr (hw _ (List.mem_of_getElem? (i := 41) rfl))) (by decide) (t := (.object "java/lang/String")) (t' := (.object "java/lang/String")) (by decide) (by decide)))
  have F_path_a1_89 := F_path_a1_88.other W89 (Or.inr (slot_ne (Or.inr (hw _ (List.mem_of_getElem? (i := 43) rfl))) (Or.inr (hw _ (List.mem_of_getElem? (i := 41) rfl))) (by decide) (t := (.object "java/lang/String")) (t' := (.object "java/lang/String")) (by decide) (by decide)))
  have F_query_a1_89 := F_query_a1_88.other W89 (Or.inr (slot_ne (Or.inr (hw _ (List.mem_of_getElem? (i := 45) rfl))) (Or.inr (hw _ (List.mem_of_getElem? (i := 41) rfl))) (by decide) (t := (.object "java/lang/String")) (t' := (.object "java/lang/String")) (by decide) (by decide)))
  have N89 := Fr.snoc X89 N88 g_a1
  have Z89 : n0 ≤ h89.size := Nat.le_trans Z88 (Keep.of_wr W89).1
  have K89 := K88.wr W89 (Or.inl (List.mem_of_getElem? (i := 0) rfl))
  show own_Fin _ _ _ _ (T89.setTop (mkF m 14 #[rv a1, .val .null, rv a3, rv a4, .val .null] []))
  refine own_go (XS.aloadN X89.here hx rfl (hb hby d5_14) rfl rfl (Steps.refl _)) ?_
  show own_Fin _ _ _ _ (T89.setTop (mkF m 15 #[rv a1, .val .null, rv a3, rv a4, .val .null] [(.ref a1)]))
  refine own_go (XS.aloadN X89.here hx rfl (hb hby d5_15) rfl rfl (Steps.refl _)) ?_
  show own_Fin _ _ _ _ (T89.setTop (mkF m 16 #[rv a1, .val .null, rv a3, rv a4, .val .null] [(.ref a4), (.ref a1)]))
  obtain ⟨T90, h90, X90, e90, W90, st90⟩ := putF X89 hx hZ hown (host := "") (Or.inl (hw _ (List.mem_of_getElem? (i := 42) rfl))) Via.refl e89 F_path_a1_89 E_a1_89 (Or.inr ⟨(hw _ (List.mem_of_getElem? (i := 43) rfl)), rfl, hnm⟩) (hw _ (List.mem_of_getElem? (i := 27) rfl)) (ty := (.object "java/lang/String")) (by decide) rfl rfl (g := (mkF m 16 #[rv a1, .val .null, rv a3, rv a4, .val .null] [(.ref a4), (.ref a1)])) rfl rfl (hb hby d5_16)
  refine own_by st90 ?_
  have F_path_a1_90 := F_path_a1_89.same W90
  have E_a1_90 := E_a1_89.wr W90
  have F_scheme_a1_90 := F_scheme_a1_89.other W90 (Or.inr (slot_ne (Or.inr (hw _ (List.mem_of_getElem? (i := 39) rfl))) (Or.inr (hw _ (List.mem_of_getElem? (i := 43) rfl))) (by decide) (t := (.object "java/lang/String")) (t' := (.object "java/lang/String")) (by decide) (by decide)))
  have F_authority_a1_90 := F_authority_a1_89.other W90 (Or.inr (slot_ne (Or.inr (hw _ (List.mem_of_getElem? (i := 41) rfl))) (Or.inr (hw _ (List.mem_of_getElem? (i := 43) rfl))) (by decide) (t := (.object "java/lang/String")) (t' := (.object "java/lang/String")) (by decide) (by decide)))
  have F_query_a1_90 := F_query_a1_89.other W90 (Or.inr (slot_ne (Or.inr (hw _ (List.mem_of_getElem? (i := 45) rfl))) (Or.inr (hw _ (List.mem_of_getElem? (i := 43) rfl))) (by decide) (t := (.object "java/lang/String")) (t' := (.object "java/lang/String")) (by decide) (by decide)))
  have N90 := Fr.snoc X90 N89 g_a1
  have Z90 : n0 ≤ h90.size := Nat.le_trans Z89 (Keep.of_wr W90).1
  have K90 := K89.wr W90 (Or.inl (List.mem_of_getElem? (i := 0) rfl))
  show own_Fin _ _ _ _ (T90.setTop (mkF m 19 #[rv a1, .val .null, rv a3, rv a4, .val .null] []))
  refine own_go (XS.aloadN X90.here hx rfl (hb hby d5_19) rfl rfl (Steps.refl _)) ?_
  show own_Fin _ _ _ _ (T90.setTop (mkF m 20 #[rv a1, .val .null, rv a3, rv a4, .val .null] [(.ref a1)]))
  refine own_go (XS.aload X90.here hx rfl (hb hby d5_20) rfl rfl (Steps.refl _)) ?_
  show own_Fin _ _ _ _ (T90.setTop (mkF m 22 #[rv a1, .val .null, rv a3, rv a4, .val .null] [.null, (.ref a1)]))
  obtain ⟨T91, h91, X91, e91, W91, st91⟩ := putF X90 hx hZ hown (host := "") (Or.inl (hw _ (List.mem_of_getElem? (i := 44) rfl))) Via.refl e90 F_query_a1_90 E_a1_90 (Or.inr ⟨(hw _ (List.mem_of_getElem? (i := 45) rfl)), rfl, hnm⟩) (hw _ (List.mem_of_getElem? (i := 27) rfl)) (ty := (.object "java/lang/String")) (by decide) rfl rfl (g := (mkF m 22 #[rv a1, .val .null, rv a3, rv a4, .val .null] [.null, (.ref a1)])) rfl rfl (hb hby d5_22)
  refine own_by st91 ?_
  have F_query_a1_91 := F_query_a1_90.same W91
  have E_a1_91 := E_a1_90.wr W91
  have F_scheme_a1_91 := F_scheme_a1_90.other W91 (Or.inr (slot_ne (Or.inr (hw _ (List.mem_of_getElem? (i := 39) rfl))) (Or.inr (hw _ (List.mem_of_getElem? (i := 45) rfl))) (by decide) (t := (.object "java/lang/String")) (t' := (.object "java/lang/String")) (by decide) (by decide)))
  have F_authority_a1_91 := F_authority_a1_90.other W91 (Or.inr (slot_ne (Or.inr (hw _ (List.mem_of_getElem? (i := 41) rfl))) (Or.inr (hw _ (List.mem_of_getElem? (i := 45) rfl))) (by decide) (t := (.object "java/lang/String")) (t' := (.object "java/lang/String")) (by decide) (by decide)))
  have F_path_a1_91 := F_path_a1_90.other W91 (Or.inr (slot_ne (Or.inr (hw _ (List.mem_of_getElem? (i := 43) rfl))) (Or.inr (hw _ (List.mem_of_getElem? (i := 45) rfl))) (by decide) (t := (.object "java/lang/String")) (t' := (.object "java/lang/String")) (by decide) (by decide)))
  have N91 := Fr.snoc X91 N90 g_a1
  have Z91 : n0 ≤ h91.size := Nat.le_trans Z90 (Keep.of_wr W91).1
  have K91 := K90.wr W91 (Or.inl (List.mem_of_getElem? (i := 0) rfl))
  show own_Fin _ _ _ _ (T91.setTop (mkF m 25 #[rv a1, .val .null, rv a3, rv a4, .val .null] []))
  obtain ⟨fs92, hr92, hrun92, hended92, hW92, hsame92⟩ := X91.leave (v := none) (fun _ => rfl)
  refine own_done (X91.returnOut hx Bd.returns (hb hby d5_25) hr92) hrun92 hended92 ⟨_, _, rfl, ?_, ⟨_, rfl⟩, hW92, hsame92.mono (by decide) (by decide)⟩
  show Qui_2 Z a1 a3 a4 h0 n0 _ T91.heap _
  rw [e91]
  exact ⟨rfl, N91, K91, E_a1_91, F_scheme_a1_91, F_authority_a1_91, F_path_a1_91, F_query_a1_91⟩
theorem ef_ui_3 (m : MethodId) (x0 : Addr) (x1 : Addr) (x2 : Addr) (x3 : Addr) : entryFrame m #[(.ref x0), (.ref x1), (.ref x2), (.ref x3), .null] 5 = mkF m 0 #[.val (.ref x0), .val (.ref x1), .val (.ref x2), .val (.ref x3), .val .null] [] := by first | (simp [entryFrame, mkF, argsToLocals, Value.category]; done) | rfl
def Qui_3 (Z : State) (a1 : Addr) (a2 : Addr) (a3 : Addr) (a4 : Addr) (h0 : Heap) (n0 : Nat) (v : Option Value) (h : Heap) (L : List Loc) : Prop := v = none ∧ Fr n0 L ∧ Keep h0 h [a1] ∧ Exa Z h a1 "com/example/pryority/pryority/UriReference" ∧ Fld Z h a1 "com/example/pryority/pryority/UriReference" "scheme" "Ljava/lang/String;" (.ref a2) ∧ Fld Z h a1 "com/example/pryority/pryority/UriReference" "authority" "Ljava/lang/String;" (.ref a3) ∧ Fld Z h a1 "com/example/pryority/pryority/UriReference" "path" "Ljava/lang/String;" (.ref a4) ∧ Fld Z h a1 "com/example/pryority/pryority/UriReference" "query" "Ljava/lang/String;" .null
abbrev Gui_3 (Z : State) (a1 : Addr) (a2 : Addr) (a3 : Addr) (a4 : Addr) (h0 : Heap) (n0 : Nat) (s : State) : Outcome → State → Prop := fun o U' => ∃ v L, o = .returned v ∧ Qui_3 Z a1 a2 a3 a4 h0 n0 v U'.heap L ∧ FrameEnd s o U' L ({ frames := 2, cells := 0, slots := 0, locals := 28 } : Room).cells ({ frames := 2, cells := 0, slots := 0, locals := 28 } : Room).slots
set_option maxRecDepth 65536 in
set_option maxHeartbeats 40000000 in
theorem rmui_3 (l : Launch) (Z : State) (a0 : Array Value) (hw : ∀ d ∈ tables_1, d.before a0 Z = true) (ws : List Jvm.Cond) (a1 : Addr) (a2 : Addr) (a3 : Addr) (a4 : Addr) (h0 : Heap) (n0 : Nat) (Z0 : n0 ≤ h0.size) (E_a1 : Exa Z h0 a1 "com/example/pryority/pryority/UriReference") (F_scheme_a1 : Fld Z h0 a1 "com/example/pryority/pryority/UriReference" "scheme" "Ljava/lang/String;" .null) (F_authority_a1 : Fld Z h0 a1 "com/example/pryority/pryority/UriReference" "authority" "Ljava/lang/String;" .null) (F_path_a1 : Fld Z h0 a1 "com/example/pryority/pryority/UriReference" "path" "Ljava/lang/String;" .null) (F_query_a1 : Fld Z h0 a1 "com/example/pryority/pryority/UriReference" "query" "Ljava/lang/String;" .null) (g_a1 : n0 ≤ a1) :
    MetFree l (⟨"com/example/pryority/pryority/UriReference", "<init>", "(Ljava/lang/String;Ljava/lang/String;Ljava/lang/String;Ljava/lang/String;)V"⟩ : MethodName) (head1 (Jvm.Cond.code (⟨"com/example/pryority/pryority/UriReference", "<init>", "(Ljava/lang/String;Ljava/lang/String;Ljava/lang/String;Ljava/lang/String;)V"⟩ : MethodName) prog_14_method_1_code 5 none :: ws) ({ frames := 2, cells := 0, slots := 0, locals := 28 } : Room)) (fun a U => a = #[(.ref a1), (.ref a2), (.ref a3), (.ref a4), .null] ∧ Z.Warmed39 U.vm ∧ U.heap = h0) (fun _ _ _ _ _ => True) (fun _ U o U' => ∃ v L, o = .returned v ∧ Qui_3 Z a1 a2 a3 a4 h0 n0 v U'.heap L ∧ FrameEnd U o U' L ({ frames := 2, cells := 0, slots := 0, locals := 28 } : Room).cells ({ frames := 2, cells := 0, slots := 0, locals := 28 } : Room).slots) := by
  refine MetFree.of_bodySF (plainFor_of_name pn_com_example_pryority_pryority_UriReference) hisR ?_
  intro p e s m args below meth c s₁ Bd hml0 hP hK
  obtain ⟨rfl, hZ, hh⟩ := hP
  have hx := Bd.exec
  have hby := Bd.bytes
  have hml : c.maxLocals = 5 := hml0
  have hown : s.vm.findClass "com/example/pryority/pryority/UriReference" = some m.cls := findClass_of_methodNamed Bd.named
  have hnm := (name_of_methodNamed Bd.named Bd.method).1
  have X0 : Stand p l e ({ frames := 2, cells := 0, slots := 0, locals := 28 } : Room) s m #[(.ref a1), (.ref a2), (.ref a3), (.ref a4), .null] below meth c s₁ [] 0 0 := Stand.of_body Bd
  have e0 : s₁.heap = h0 := by rw [← hh, Bd.state]; rfl
  have es0 : s.heap = h0 := hh
  have N0 := Fr.nil n0
  show own_Fin p e below (Gui_3 Z a1 a2 a3 a4 h0 n0 s) (s₁.setTop (entryFrame m #[(.ref a1), (.ref a2), (.ref a3), (.ref a4), .null] 5))
  rw [ef_ui_3 m a1 a2 a3 a4]
  have Kz := Keep.refl h0 [a1]
  refine own_go (XS.aloadN X0.here hx rfl (hb hby d5_0) rfl rfl (Steps.refl _)) ?_
  show own_Fin _ _ _ _ (s₁.setTop (mkF m 1 #[rv a1, rv a2, rv a3, rv a4, .val .null] [(.ref a1)]))
  obtain ⟨_, _, ⟨T93, L93, k93, n93⟩, -, X93, ⟨Lc93, hQ93, l93, y93, z93⟩, st93⟩ := X0.specialBack hx (y := (⟨"java/lang/Record", "<init>", "()V"⟩ : MethodName)) rfl hown (mvT hZ (hw _ (List.mem_of_getElem? (i := 32) rfl))) (mvT hZ (hw _ (List.mem_of_getElem? (i := 33) rfl))) (mvT hZ (hw _ (List.mem_of_getElem? (i := 36) rfl))) (by decide) (backOf (W := 0) (rmrec l Z a0 hw [] a1 h0 n0 Z0) hZ (hw _ (List.mem_of_getElem? (i := 36) rfl)) (hw _ (List.mem_of_getElem? (i := 35) rfl)) (by decide) (by decide)) (g := (mkF m 1 #[rv a1, rv a2, rv a3, rv a4, .val .null] [(.ref a1)])) rfl (by rw [hml]; rfl) (Steps.refl _) (a := a1) (argsL := []) (rest := []) (lenOf pd__28__29_V rfl) rfl (by show 2 * 0 + _ ≤ _; exact Nat.le_of_eq rfl) (hb hby d5_1) (fun _ hv => ⟨rfl, e0, (by decide : 0 + 0 ≤ _), (by decide : 0 + 0 ≤ _)⟩)
  dsimp only [Pt.U, Pt.locs, Pt.cells, Pt.slots] at X93 l93 y93 z93 st93 hQ93
  subst l93 y93 z93
  obtain ⟨rfl, Nq93, e93⟩ := hQ93
  refine own_go st93 ?_
  have N93 := Fr.app N0 Nq93
  show own_Fin _ _ _ _ (T93.setTop (mkF m 4 #[rv a1, rv a2, rv a3, rv a4, .val .null] []))
  refine own_go (XS.aloadN X93.here hx rfl (hb hby d5_4) rfl rfl (Steps.refl _)) ?_
  show own_Fin _ _ _ _ (T93.setTop (mkF m 5 #[rv a1, rv a2, rv a3, rv a4, .val .null] [(.ref a1)]))
  refine own_go (XS.aloadN X93.here hx rfl (hb hby d5_5) rfl rfl (Steps.refl _)) ?_
  show own_Fin _ _ _ _ (T93.setTop (mkF m 6 #[rv a1, rv a2, rv a3, rv a4, .val .null] [(.ref a2), (.ref a1)]))
  obtain ⟨T94, h94, X94, e94, W94, st94⟩ := putF X93 hx hZ hown (host := "") (Or.inl (hw _ (List.mem_of_getElem? (i := 38) rfl))) Via.refl e93 F_scheme_a1 E_a1 (Or.inr ⟨(hw _ (List.mem_of_getElem? (i := 39) rfl)), rfl, hnm⟩) (hw _ (List.mem_of_getElem? (i := 27) rfl)) (ty := (.object "java/lang/String")) (by decide) rfl rfl (g := (mkF m 6 #[rv a1, rv a2, rv a3, rv a4, .val .null] [(.ref a2), (.ref a1)])) rfl rfl (hb hby d5_6)
  refine own_by st94 ?_
  have F_scheme_a1_94 := F_scheme_a1.same W94
  have E_a1_94 := E_a1.wr W94
  have F_authority_a1_94 := F_authority_a1.other W94 (Or.inr (slot_ne (Or.inr (hw _ (List.mem_of_getElem? (i := 41) rfl))) (Or.inr (hw _ (List.mem_of_getElem? (i := 39) rfl))) (by decide) (t := (.object "java/lang/String")) (t' := (.object "java/lang/String")) (by decide) (by decide)))
  have F_path_a1_94 := F_path_a1.other W94 (Or.inr (slot_ne (Or.inr (hw _ (List.mem_of_getElem? (i := 43) rfl))) (Or.inr (hw _ (List.mem_of_getElem? (i := 39) rfl))) (by decide) (t := (.object "java/lang/String")) (t' := (.object "java/lang/String")) (by decide) (by decide)))
  have F_query_a1_94 := F_query_a1.other W94 (Or.inr (slot_ne (Or.inr (hw _ (List.mem_of_getElem? (i := 45) rfl))) (Or.inr (hw _ (List.mem_of_getElem? (i := 39) rfl))) (by decide) (t := (.object "java/lang/String")) (t' := (.object "java/lang/String")) (by decide) (by decide)))
  have N94 := Fr.snoc X94 N93 g_a1
  have Z94 : n0 ≤ h94.size := Nat.le_trans Z0 (Keep.of_wr W94).1
  have K94 := Kz.wr W94 (Or.inl (List.mem_of_getElem? (i := 0) rfl))
  show own_Fin _ _ _ _ (T94.setTop (mkF m 9 #[rv a1, rv a2, rv a3, rv a4, .val .null] []))
  refine own_go (XS.aloadN X94.here hx rfl (hb hby d5_9) rfl rfl (Steps.refl _)) ?_
  show own_Fin _ _ _ _ (T94.setTop (mkF m 10 #[rv a1, rv a2, rv a3, rv a4, .val .null] [(.ref a1)]))
  refine own_go (XS.aloadN X94.here hx rfl (hb hby d5_10) rfl rfl (Steps.refl _)) ?_
  show own_Fin _ _ _ _ (T94.setTop (mkF m 11 #[rv a1, rv a2, rv a3, rv a4, .val .null] [(.ref a3), (.ref a1)]))
  obtain ⟨T95, h95, X95, e95, W95, st95⟩ := putF X94 hx hZ hown (host := "") (Or.inl (hw _ (List.mem_of_getElem? (i := 40) rfl))) Via.refl e94 F_authority_a1_94 E_a1_94 (Or.inr ⟨(hw _ (List.mem_of_getElem? (i := 41) rfl)), rfl, hnm⟩) (hw _ (List.mem_of_getElem? (i := 27) rfl)) (ty := (.object "java/lang/String")) (by decide) rfl rfl (g := (mkF m 11 #[rv a1, rv a2, rv a3, rv a4, .val .null] [(.ref a3), (.ref a1)])) rfl rfl (hb hby d5_11)
  refine own_by st95 ?_
  have F_authority_a1_95 := F_authority_a1_94.same W95
  have E_a1_95 := E_a1_94.wr W95
  have F_scheme_a1_95 := F_scheme_a1_94.other W95 (Or.inr (slot_ne (Or.inr (hw _ (List.mem_of_getElem? (i := 39) rfl))) (Or.inr (hw _ (List.mem_of_getElem? (i := 41) rfl))) (by decide) (t := (.object "java/lang/String")) (t' := (.object "java/lang/String")) (by decide) (by decide)))
  have F_path_a1_95 := F_path_a1_94.other W95 (Or.inr (slot_ne (Or.inr (hw _ (List.mem_of_getElem? (i := 43) rfl))) (Or.inr (hw _ (List.mem_of_getElem? (i := 41) rfl))) (by decide) (t := (.object "java/lang/String")) (t' := (.object "java/lang/String")) (by decide) (by decide)))
  have F_query_a1_95 := F_query_a1_94.other W95 (Or.inr (slot_ne (Or.inr (hw _ (List.mem_of_getElem? (i := 45) rfl))) (Or.inr (hw _ (List.mem_of_getElem? (i := 41) rfl))) (by decide) (t := (.object "java/lang/String")) (t' := (.object "java/lang/String")) (by decide) (by decide)))
  have N95 := Fr.snoc X95 N94 g_a1
  have Z95 : n0 ≤ h95.size := Nat.le_trans Z94 (Keep.of_wr W95).1
  have K95 := K94.wr W95 (Or.inl (List.mem_of_getElem? (i := 0) rfl))
  show own_Fin _ _ _ _ (T95.setTop (mkF m 14 #[rv a1, rv a2, rv a3, rv a4, .val .null] []))
  refine own_go (XS.aloadN X95.here hx rfl (hb hby d5_14) rfl rfl (Steps.refl _)) ?_
  show own_Fin _ _ _ _ (T95.setTop (mkF m 15 #[rv a1, rv a2, rv a3, rv a4, .val .null] [(.ref a1)]))
  refine own_go (XS.aloadN X95.here hx rfl (hb hby d5_15) rfl rfl (Steps.refl _)) ?_
  show own_Fin _ _ _ _ (T95.setTop (mkF m 16 #[rv a1, rv a2, rv a3, rv a4, .val .null] [(.ref a4), (.ref a1)]))
  obtain ⟨T96, h96, X96, e96, W96, st96⟩ := putF X95 hx hZ hown (host := "") (Or.inl (hw _ (List.mem_of_getElem? (i := 42) rfl))) Via.refl e95 F_path_a1_95 E_a1_95 (Or.inr ⟨(hw _ (List.mem_of_getElem? (i := 43) rfl)), rfl, hnm⟩) (hw _ (List.mem_of_getElem? (i := 27) rfl)) (ty := (.object "java/lang/String")) (by decide) rfl rfl (g := (mkF m 16 #[rv a1, rv a2, rv a3, rv a4, .val .null] [(.ref a4), (.ref a1)])) rfl rfl (hb hby d5_16)
  refine own_by st96 ?_
  have F_path_a1_96 := F_path_a1_95.same W96
  have E_a1_96 := E_a1_95.wr W96
  have F_scheme_a1_96 := F_scheme_a1_95.other W96 (Or.inr (slot_ne (Or.inr (hw _ (List.mem_of_getElem? (i := 39) rfl))) (Or.inr (hw _ (List.mem_of_getElem? (i := 43) rfl))) (by decide) (t := (.object "java/lang/String")) (t' := (.object "java/lang/String")) (by decide) (by decide)))
  have F_authority_a1_96 := F_authority_a1_95.other W96 (Or.inr (slot_ne (Or.inr (hw _ (List.mem_of_getElem? (i := 41) rfl))) (Or.inr (hw _ (List.mem_of_getElem? (i := 43) rfl))) (by decide) (t := (.object "java/lang/String")) (t' := (.object "java/lang/String")) (by decide) (by decide)))
  have F_query_a1_96 := F_query_a1_95.other W96 (Or.inr (slot_ne (Or.inr (hw _ (List.mem_of_getElem? (i := 45) rfl))) (Or.inr (hw _ (List.mem_of_getElem? (i := 43) rfl))) (by decide) (t := (.object "java/lang/String")) (t' := (.object "java/lang/String")) (by decide) (by decide)))
  have N96 := Fr.snoc X96 N95 g_a1
  have Z96 : n0 ≤ h96.size := Nat.le_trans Z95 (Keep.of_wr W96).1
  have K96 := K95.wr W96 (Or.inl (List.mem_of_getElem? (i := 0) rfl))
  show own_Fin _ _ _ _ (T96.setTop (mkF m 19 #[rv a1, rv a2, rv a3, rv a4, .val .null] []))
  refine own_go (XS.aloadN X96.here hx rfl (hb hby d5_19) rfl rfl (Steps.refl _)) ?_
  show own_Fin _ _ _ _ (T96.setTop (mkF m 20 #[rv a1, rv a2, rv a3, rv a4, .val .null] [(.ref a1)]))
  refine own_go (XS.aload X96.here hx rfl (hb hby d5_20) rfl rfl (Steps.refl _)) ?_
  show own_Fin _ _ _ _ (T96.setTop (mkF m 22 #[rv a1, rv a2, rv a3, rv a4, .val .null] [.null, (.ref a1)]))
  obtain ⟨T97, h97, X97, e97, W97, st97⟩ := putF X96 hx hZ hown (host := "") (Or.inl (hw _ (List.mem_of_getElem? (i := 44) rfl))) Via.refl e96 F_query_a1_96 E_a1_96 (Or.inr ⟨(hw _ (List.mem_of_getElem? (i := 45) rfl)), rfl, hnm⟩) (hw _ (List.mem_of_getElem? (i := 27) rfl)) (ty := (.object "java/lang/String")) (by decide) rfl rfl (g := (mkF m 22 #[rv a1, rv a2, rv a3, rv a4, .val .null] [.null, (.ref a1)])) rfl rfl (hb hby d5_22)
  refine own_by st97 ?_
  have F_query_a1_97 := F_query_a1_96.same W97
  have E_a1_97 := E_a1_96.wr W97
  have F_scheme_a1_97 := F_scheme_a1_96.other W97 (Or.inr (slot_ne (Or.inr (hw _ (List.mem_of_getElem? (i := 39) rfl))) (Or.inr (hw _ (List.mem_of_getElem? (i := 45) rfl))) (by decide) (t := (.object "java/lang/String")) (t' := (.object "java/lang/String")) (by decide) (by decide)))
  have F_authority_a1_97 := F_authority_a1_96.other W97 (Or.inr (slot_ne (Or.inr (hw _ (List.mem_of_getElem? (i := 41) rfl))) (Or.inr (hw _ (List.mem_of_getElem? (i := 45) rfl))) (by decide) (t := (.object "java/lang/String")) (t' := (.object "java/lang/String")) (by decide) (by decide)))
  have F_path_a1_97 := F_path_a1_96.other W97 (Or.inr (slot_ne (Or.inr (hw _ (List.mem_of_getElem? (i := 43) rfl))) (Or.inr (hw _ (List.mem_of_getElem? (i := 45) rfl))) (by decide) (t := (.object "java/lang/String")) (t' := (.object "java/lang/String")) (by decide) (by decide)))
  have N97 := Fr.snoc X97 N96 g_a1
  have Z97 : n0 ≤ h97.size := Nat.le_trans Z96 (Keep.of_wr W97).1
  have K97 := K96.wr W97 (Or.inl (List.mem_of_getElem? (i := 0) rfl))
  show own_Fin _ _ _ _ (T97.setTop (mkF m 25 #[rv a1, rv a2, rv a3, rv a4, .val .null] []))
  obtain ⟨fs98, hr98, hrun98, hended98, hW98, hsame98⟩ := X97.leave (v := none) (fun _ => rfl)
  refine own_done (X97.returnOut hx Bd.returns (hb hby d5_25) hr98) hrun98 hended98 ⟨_, _, rfl, ?_, ⟨_, rfl⟩, hW98, hsame98.mono (by decide) (by decide)⟩
  show Qui_3 Z a1 a2 a3 a4 h0 n0 _ T97.heap _
  rw [e97]
  exact ⟨rfl, N97, K97, E_a1_97, F_scheme_a1_97, F_authority_a1_97, F_path_a1_97, F_query_a1_97⟩
theorem ef_ui_4 (m : MethodId) (x0 : Addr) (x3 : Addr) (x4 : Addr) : entryFrame m #[(.ref x0), .null, .null, (.ref x3), (.ref x4)] 5 = mkF m 0 #[.val (.ref x0), .val .null, .val .null, .val (.ref x3), .val (.ref x4)] [] := by first | (simp [entryFrame, mkF, argsToLocals, Value.category]; done) | rfl
def Qui_4 (Z : State) (a1 : Addr) (a4 : Addr) (a5 : Addr) (h0 : Heap) (n0 : Nat) (v : Option Value) (h : Heap) (L : List Loc) : Prop := v = none ∧ Fr n0 L ∧ Keep h0 h [a1] ∧ Exa Z h a1 "com/example/pryority/pryority/UriReference" ∧ Fld Z h a1 "com/example/pryority/pryority/UriReference" "scheme" "Ljava/lang/String;" .null ∧ Fld Z h a1 "com/example/pryority/pryority/UriReference" "authority" "Ljava/lang/String;" .null ∧ Fld Z h a1 "com/example/pryority/pryority/UriReference" "path" "Ljava/lang/String;" (.ref a4) ∧ Fld Z h a1 "com/example/pryority/pryority/UriReference" "query" "Ljava/lang/String;" (.ref a5)
abbrev Gui_4 (Z : State) (a1 : Addr) (a4 : Addr) (a5 : Addr) (h0 : Heap) (n0 : Nat) (s : State) : Outcome → State → Prop := fun o U' => ∃ v L, o = .returned v ∧ Qui_4 Z a1 a4 a5 h0 n0 v U'.heap L ∧ FrameEnd s o U' L ({ frames := 2, cells := 0, slots := 0, locals := 28 } : Room).cells ({ frames := 2, cells := 0, slots := 0, locals := 28 } : Room).slots
set_option maxRecDepth 65536 in
set_option maxHeartbeats 40000000 in
theorem rmui_4 (l : Launch) (Z : State) (a0 : Array Value) (hw : ∀ d ∈ tables_1, d.before a0 Z = true) (ws : List Jvm.Cond) (a1 : Addr) (a4 : Addr) (a5 : Addr) (h0 : Heap) (n0 : Nat) (Z0 : n0 ≤ h0.size) (E_a1 : Exa Z h0 a1 "com/example/pryority/pryority/UriReference") (F_scheme_a1 : Fld Z h0 a1 "com/example/pryority/pryority/UriReference" "scheme" "Ljava/lang/String;" .null) (F_authority_a1 : Fld Z h0 a1 "com/example/pryority/pryority/UriReference" "authority" "Ljava/lang/String;" .null) (F_path_a1 : Fld Z h0 a1 "com/example/pryority/pryority/UriReference" "path" "Ljava/lang/String;" .null) (F_query_a1 : Fld Z h0 a1 "com/example/pryority/pryority/UriReference" "query" "Ljava/lang/String;" .null) (g_a1 : n0 ≤ a1) :
    MetFree l (⟨"com/example/pryority/pryority/UriReference", "<init>", "(Ljava/lang/String;Ljava/lang/String;Ljava/lang/String;Ljava/lang/String;)V"⟩ : MethodName) (head1 (Jvm.Cond.code (⟨"com/example/pryority/pryority/UriReference", "<init>", "(Ljava/lang/String;Ljava/lang/String;Ljava/lang/String;Ljava/lang/String;)V"⟩ : MethodName) prog_14_method_1_code 5 none :: ws) ({ frames := 2, cells := 0, slots := 0, locals := 28 } : Room)) (fun a U => a = #[(.ref a1), .null, .null, (.ref a4), (.ref a5)] ∧ Z.Warmed39 U.vm ∧ U.heap = h0) (fun _ _ _ _ _ => True) (fun _ U o U' => ∃ v L, o = .returned v ∧ Qui_4 Z a1 a4 a5 h0 n0 v U'.heap L ∧ FrameEnd U o U' L ({ frames := 2, cells := 0, slots := 0, locals := 28 } : Room).cells ({ frames := 2, cells := 0, slots := 0, locals := 28 } : Room).slots) := by
  refine MetFree.of_bodySF (plainFor_of_name pn_com_example_pryority_pryority_UriReference) hisR ?_
  intro p e s m args below meth c s₁ Bd hml0 hP hK
  obtain ⟨rfl, hZ, hh⟩ := hP
  have hx := Bd.exec
  have hby := Bd.bytes
  have hml : c.maxLocals = 5 := hml0
  have hown : s.vm.findClass "com/example/pryority/pryority/UriReference" = some m.cls := findClass_of_methodNamed Bd.named
  have hnm := (name_of_methodNamed Bd.named Bd.method).1
  have X0 : Stand p l e ({ frames := 2, cells := 0, slots := 0, locals := 28 } : Room) s m #[(.ref a1), .null, .null, (.ref a4), (.ref a5)] below meth c s₁ [] 0 0 := Stand.of_body Bd
  have e0 : s₁.heap = h0 := by rw [← hh, Bd.state]; rfl
  have es0 : s.heap = h0 := hh
  have N0 := Fr.nil n0
  show own_Fin p e below (Gui_4 Z a1 a4 a5 h0 n0 s) (s₁.setTop (entryFrame m #[(.ref a1), .null, .null, (.ref a4), (.ref a5)] 5))
  rw [ef_ui_4 m a1 a4 a5]
  have Kz := Keep.refl h0 [a1]
  refine own_go (XS.aloadN X0.here hx rfl (hb hby d5_0) rfl rfl (Steps.refl _)) ?_
  show own_Fin _ _ _ _ (s₁.setTop (mkF m 1 #[rv a1, .val .null, .val .null, rv a4, rv a5] [(.ref a1)]))
  obtain ⟨_, _, ⟨T99, L99, k99, n99⟩, -, X99, ⟨Lc99, hQ99, l99, y99, z99⟩, st99⟩ := X0.specialBack hx (y := (⟨"java/lang/Record", "<init>", "()V"⟩ : MethodName)) rfl hown (mvT hZ (hw _ (List.mem_of_getElem? (i := 32) rfl))) (mvT hZ (hw _ (List.mem_of_getElem? (i := 33) rfl))) (mvT hZ (hw _ (List.mem_of_getElem? (i := 36) rfl))) (by decide) (backOf (W := 0) (rmrec l Z a0 hw [] a1 h0 n0 Z0) hZ (hw _ (List.mem_of_getElem? (i := 36) rfl)) (hw _ (List.mem_of_getElem? (i := 35) rfl)) (by decide) (by decide)) (g := (mkF m 1 #[rv a1, .val .null, .val .null, rv a4, rv a5] [(.ref a1)])) rfl (by rw [hml]; rfl) (Steps.refl _) (a := a1) (argsL := []) (rest := []) (lenOf pd__28__29_V rfl) rfl (by show 2 * 0 + _ ≤ _; exact Nat.le_of_eq rfl) (hb hby d5_1) (fun _ hv => ⟨rfl, e0, (by decide : 0 + 0 ≤ _), (by decide : 0 + 0 ≤ _)⟩)
  dsimp only [Pt.U, Pt.locs, Pt.cells, Pt.slots] at X99 l99 y99 z99 st99 hQ99
  subst l99 y99 z99
  obtain ⟨rfl, Nq99, e99⟩ := hQ99
  refine own_go st99 ?_
  have N99 := Fr.app N0 Nq99
  show own_Fin _ _ _ _ (T99.setTop (mkF m 4 #[rv a1, .val .null, .val .null, rv a4, rv a5] []))
  refine own_go (XS.aloadN X99.here hx rfl (hb hby d5_4) rfl rfl (Steps.refl _)) ?_
  show own_Fin _ _ _ _ (T99.setTop (mkF m 5 #[rv a1, .val .null, .val .null, rv a4, rv a5] [(.ref a1)]))
  refine own_go (XS.aloadN X99.here hx rfl (hb hby d5_5) rfl rfl (Steps.refl _)) ?_
  show own_Fin _ _ _ _ (T99.setTop (mkF m 6 #[rv a1, .val .null, .val .null, rv a4, rv a5] [.null, (.ref a1)]))
  obtain ⟨T100, h100, X100, e100, W100, st100⟩ := putF X99 hx hZ hown (host := "") (Or.inl (hw _ (List.mem_of_getElem? (i := 38) rfl))) Via.refl e99 F_scheme_a1 E_a1 (Or.inr ⟨(hw _ (List.mem_of_getElem? (i := 39) rfl)), rfl, hnm⟩) (hw _ (List.mem_of_getElem? (i := 27) rfl)) (ty := (.object "java/lang/String")) (by decide) rfl rfl (g := (mkF m 6 #[rv a1, .val .null, .val .null, rv a4, rv a5] [.null, (.ref a1)])) rfl rfl (hb hby d5_6)
  refine own_by st100 ?_
  have F_scheme_a1_100 := F_scheme_a1.same W100
  have E_a1_100 := E_a1.wr W100
  have F_authority_a1_100 := F_authority_a1.other W100 (Or.inr (slot_ne (Or.inr (hw _ (List.mem_of_getElem? (i := 41) rfl))) (Or.inr (hw _ (List.mem_of_getElem? (i := 39) rfl))) (by decide) (t := (.object "java/lang/String")) (t' := (.object "java/lang/String")) (by decide) (by decide)))
  have F_path_a1_100 := F_path_a1.other W100 (Or.inr (slot_ne (Or.inr (hw _ (List.mem_of_getElem? (i := 43) rfl))) (Or.inr (hw _ (List.mem_of_getElem? (i := 39) rfl))) (by decide) (t := (.object "java/lang/String")) (t' := (.object "java/lang/String")) (by decide) (by decide)))
  have F_query_a1_100 := F_query_a1.other W100 (Or.inr (slot_ne (Or.inr (hw _ (List.mem_of_getElem? (i := 45) rfl))) (Or.inr (hw _ (List.mem_of_getElem? (i := 39) rfl))) (by decide) (t := (.object "java/lang/String")) (t' := (.object "java/lang/String")) (by decide) (by decide)))
  have N100 := Fr.snoc X100 N99 g_a1
  have Z100 : n0 ≤ h100.size := Nat.le_trans Z0 (Keep.of_wr W100).1
  have K100 := Kz.wr W100 (Or.inl (List.mem_of_getElem? (i := 0) rfl))
  show own_Fin _ _ _ _ (T100.setTop (mkF m 9 #[rv a1, .val .null, .val .null, rv a4, rv a5] []))
  refine own_go (XS.aloadN X100.here hx rfl (hb hby d5_9) rfl rfl (Steps.refl _)) ?_
  show own_Fin _ _ _ _ (T100.setTop (mkF m 10 #[rv a1, .val .null, .val .null, rv a4, rv a5] [(.ref a1)]))
  refine own_go (XS.aloadN X100.here hx rfl (hb hby d5_10) rfl rfl (Steps.refl _)) ?_
  show own_Fin _ _ _ _ (T100.setTop (mkF m 11 #[rv a1, .val .null, .val .null, rv a4, rv a5] [.null, (.ref a1)]))
  obtain ⟨T101, h101, X101, e101, W101, st101⟩ := putF X100 hx hZ hown (host := "") (Or.inl (hw _ (List.mem_of_getElem? (i := 40) rfl))) Via.refl e100 F_authority_a1_100 E_a1_100 (Or.inr ⟨(hw _ (List.mem_of_getElem? (i := 41) rfl)), rfl, hnm⟩) (hw _ (List.mem_of_getElem? (i := 27) rfl)) (ty := (.object "java/lang/String")) (by decide) rfl rfl (g := (mkF m 11 #[rv a1, .val .null, .val .null, rv a4, rv a5] [.null, (.ref a1)])) rfl rfl (hb hby d5_11)
  refine own_by st101 ?_
  have F_authority_a1_101 := F_authority_a1_100.same W101
  have E_a1_101 := E_a1_100.wr W101
  have F_scheme_a1_101 := F_scheme_a1_100.other W101 (Or.inr (slot_ne (Or.inr (hw _ (List.mem_of_getElem? (i := 39) rfl))) (Or.inr (hw _ (List.mem_of_getElem? (i := 41) rfl))) (by decide) (t := (.object "java/lang/String")) (t' := (.object "java/lang/String")) (by decide) (by decide)))
  have F_path_a1_101 := F_path_a1_100.other W101 (Or.inr (slot_ne (Or.inr (hw _ (List.mem_of_getElem? (i := 43) rfl))) (Or.inr (hw _ (List.mem_of_getElem? (i := 41) rfl))) (by decide) (t := (.object "java/lang/String")) (t' := (.object "java/lang/String")) (by decide) (by decide)))
  have F_query_a1_101 := F_query_a1_100.other W101 (Or.inr (slot_ne (Or.inr (hw _ (List.mem_of_getElem? (i := 45) rfl))) (Or.inr (hw _ (List.mem_of_getElem? (i := 41) rfl))) (by decide) (t := (.object "java/lang/String")) (t' := (.object "java/lang/String")) (by decide) (by decide)))
  have N101 := Fr.snoc X101 N100 g_a1
  have Z101 : n0 ≤ h101.size := Nat.le_trans Z100 (Keep.of_wr W101).1
  have K101 := K100.wr W101 (Or.inl (List.mem_of_getElem? (i := 0) rfl))
  show own_Fin _ _ _ _ (T101.setTop (mkF m 14 #[rv a1, .val .null, .val .null, rv a4, rv a5] []))
  refine own_go (XS.aloadN X101.here hx rfl (hb hby d5_14) rfl rfl (Steps.refl _)) ?_
  show own_Fin _ _ _ _ (T101.setTop (mkF m 15 #[rv a1, .val .null, .val .null, rv a4, rv a5] [(.ref a1)]))
  refine own_go (XS.aloadN X101.here hx rfl (hb hby d5_15) rfl rfl (Steps.refl _)) ?_
  show own_Fin _ _ _ _ (T101.setTop (mkF m 16 #[rv a1, .val .null, .val .null, rv a4, rv a5] [(.ref a4), (.ref a1)]))
  obtain ⟨T102, h102, X102, e102, W102, st102⟩ := putF X101 hx hZ hown (host := "") (Or.inl (hw _ (List.mem_of_getElem? (i := 42) rfl))) Via.refl e101 F_path_a1_101 E_a1_101 (Or.inr ⟨(hw _ (List.mem_of_getElem? (i := 43) rfl)), rfl, hnm⟩) (hw _ (List.mem_of_getElem? (i := 27) rfl)) (ty := (.object "java/lang/String")) (by decide) rfl rfl (g := (mkF m 16 #[rv a1, .val .null, .val .null, rv a4, rv a5] [(.ref a4), (.ref a1)])) rfl rfl (hb hby d5_16)
  refine own_by st102 ?_
  have F_path_a1_102 := F_path_a1_101.same W102
  have E_a1_102 := E_a1_101.wr W102
  have F_scheme_a1_102 := F_scheme_a1_101.other W102 (Or.inr (slot_ne (Or.inr (hw _ (List.mem_of_getElem? (i := 39) rfl))) (Or.inr (hw _ (List.mem_of_getElem? (i := 43) rfl))) (by decide) (t := (.object "java/lang/String")) (t' := (.object "java/lang/String")) (by decide) (by decide)))
  have F_authority_a1_102 := F_authority_a1_101.other W102 (Or.inr (slot_ne (Or.inr (hw _ (List.mem_of_getElem? (i := 41) rfl))) (Or.inr (hw _ (List.mem_of_getElem? (i := 43) rfl))) (by decide) (t := (.object "java/lang/String")) (t' := (.object "java/lang/String")) (by decide) (by decide)))
  have F_query_a1_102 := F_query_a1_101.other W102 (Or.inr (slot_ne (Or.inr (hw _ (List.mem_of_getElem? (i := 45) rfl))) (Or.inr (hw _ (List.mem_of_getElem? (i := 43) rfl))) (by decide) (t := (.object "java/lang/String")) (t' := (.object "java/lang/String")) (by decide) (by decide)))
  have N102 := Fr.snoc X102 N101 g_a1
  have Z102 : n0 ≤ h102.size := Nat.le_trans Z101 (Keep.of_wr W102).1
  have K102 := K101.wr W102 (Or.inl (List.mem_of_getElem? (i := 0) rfl))
  show own_Fin _ _ _ _ (T102.setTop (mkF m 19 #[rv a1, .val .null, .val .null, rv a4, rv a5] []))
  refine own_go (XS.aloadN X102.here hx rfl (hb hby d5_19) rfl rfl (Steps.refl _)) ?_
  show own_Fin _ _ _ _ (T102.setTop (mkF m 20 #[rv a1, .val .null, .val .null, rv a4, rv a5] [(.ref a1)]))
  refine own_go (XS.aload X102.here hx rfl (hb hby d5_20) rfl rfl (Steps.refl _)) ?_
  show own_Fin _ _ _ _ (T102.setTop (mkF m 22 #[rv a1, .val .null, .val .null, rv a4, rv a5] [(.ref a5), (.ref a1)]))
  obtain ⟨T103, h103, X103, e103, W103, st103⟩ := putF X102 hx hZ hown (host := "") (Or.inl (hw _ (List.mem_of_getElem? (i := 44) rfl))) Via.refl e102 F_query_a1_102 E_a1_102 (Or.inr ⟨(hw _ (List.mem_of_getElem? (i := 45) rfl)), rfl, hnm⟩) (hw _ (List.mem_of_getElem? (i := 27) rfl)) (ty := (.object "java/lang/String")) (by decide) rfl rfl (g := (mkF m 22 #[rv a1, .val .null, .val .null, rv a4, rv a5] [(.ref a5), (.ref a1)])) rfl rfl (hb hby d5_22)
  refine own_by st103 ?_
  have F_query_a1_103 := F_query_a1_102.same W103
  have E_a1_103 := E_a1_102.wr W103
  have F_scheme_a1_103 := F_scheme_a1_102.other W103 (Or.inr (slot_ne (Or.inr (hw _ (List.mem_of_getElem? (i := 39) rfl))) (Or.inr (hw _ (List.mem_of_getElem? (i := 45) rfl))) (by decide) (t := (.object "java/lang/String")) (t' := (.object "java/lang/String")) (by decide) (by decide)))
  have F_authority_a1_103 := F_authority_a1_102.other W103 (Or.inr (slot_ne (Or.inr (hw _ (List.mem_of_getElem? (i := 41) rfl))) (Or.inr (hw _ (List.mem_of_getElem? (i := 45) rfl))) (by decide) (t := (.object "java/lang/String")) (t' := (.object "java/lang/String")) (by decide) (by decide)))
  have F_path_a1_103 := F_path_a1_102.other W103 (Or.inr (slot_ne (Or.inr (hw _ (List.mem_of_getElem? (i := 43) rfl))) (Or.inr (hw _ (List.mem_of_getElem? (i := 45) rfl))) (by decide) (t := (.object "java/lang/String")) (t' := (.object "java/lang/String")) (by decide) (by decide)))
  have N103 := Fr.snoc X103 N102 g_a1
  have Z103 : n0 ≤ h103.size := Nat.le_trans Z102 (Keep.of_wr W103).1
  have K103 := K102.wr W103 (Or.inl (List.mem_of_getElem? (i := 0) rfl))
  show own_Fin _ _ _ _ (T103.setTop (mkF m 25 #[rv a1, .val .null, .val .null, rv a4, rv a5] []))
  obtain ⟨fs104, hr104, hrun104, hended104, hW104, hsame104⟩ := X103.leave (v := none) (fun _ => rfl)
  refine own_done (X103.returnOut hx Bd.returns (hb hby d5_25) hr104) hrun104 hended104 ⟨_, _, rfl, ?_, ⟨_, rfl⟩, hW104, hsame104.mono (by decide) (by decide)⟩
  show Qui_4 Z a1 a4 a5 h0 n0 _ T103.heap _
  rw [e103]
  exact ⟨rfl, N103, K103, E_a1_103, F_scheme_a1_103, F_authority_a1_103, F_path_a1_103, F_query_a1_103⟩
theorem ef_ui_5 (m : MethodId) (x0 : Addr) (x1 : Addr) (x3 : Addr) (x4 : Addr) : entryFrame m #[(.ref x0), (.ref x1), .null, (.ref x3), (.ref x4)] 5 = mkF m 0 #[.val (.ref x0), .val (.ref x1), .val .null, .val (.ref x3), .val (.ref x4)] [] := by first | (simp [entryFrame, mkF, argsToLocals, Value.category]; done) | rfl
def Qui_5 (Z : State) (a1 : Addr) (a2 : Addr) (a4 : Addr) (a5 : Addr) (h0 : Heap) (n0 : Nat) (v : Option Value) (h : Heap) (L : List Loc) : Prop := v = none ∧ Fr n0 L ∧ Keep h0 h [a1] ∧ Exa Z h a1 "com/example/pryority/pryority/UriReference" ∧ Fld Z h a1 "com/example/pryority/pryority/UriReference" "scheme" "Ljava/lang/String;" (.ref a2) ∧ Fld Z h a1 "com/example/pryority/pryority/UriReference" "authority" "Ljava/lang/String;" .null ∧ Fld Z h a1 "com/example/pryority/pryority/UriReference" "path" "Ljava/lang/String;" (.ref a4) ∧ Fld Z h a1 "com/example/pryority/pryority/UriReference" "query" "Ljava/lang/String;" (.ref a5)
abbrev Gui_5 (Z : State) (a1 : Addr) (a2 : Addr) (a4 : Addr) (a5 : Addr) (h0 : Heap) (n0 : Nat) (s : State) : Outcome → State → Prop := fun o U' => ∃ v L, o = .returned v ∧ Qui_5 Z a1 a2 a4 a5 h0 n0 v U'.heap L ∧ FrameEnd s o U' L ({ frames := 2, cells := 0, slots := 0, locals := 28 } : Room).cells ({ frames := 2, cells := 0, slots := 0, locals := 28 } : Room).slots
set_option maxRecDepth 65536 in
set_option maxHeartbeats 40000000 in
theorem rmui_5 (l : Launch) (Z : State) (a0 : Array Value) (hw : ∀ d ∈ tables_1, d.before a0 Z = true) (ws : List Jvm.Cond) (a1 : Addr) (a2 : Addr) (a4 : Addr) (a5 : Addr) (h0 : Heap) (n0 : Nat) (Z0 : n0 ≤ h0.size) (E_a1 : Exa Z h0 a1 "com/example/pryority/pryority/UriReference") (F_scheme_a1 : Fld Z h0 a1 "com/example/pryority/pryority/UriReference" "scheme" "Ljava/lang/String;" .null) (F_authority_a1 : Fld Z h0 a1 "com/example/pryority/pryority/UriReference" "authority" "Ljava/lang/String;" .null) (F_path_a1 : Fld Z h0 a1 "com/example/pryority/pryority/UriReference" "path" "Ljava/lang/String;" .null) (F_query_a1 : Fld Z h0 a1 "com/example/pryority/pryority/UriReference" "query" "Ljava/lang/String;" .null) (g_a1 : n0 ≤ a1) :
    MetFree l (⟨"com/example/pryority/pryority/UriReference", "<init>", "(Ljava/lang/String;Ljava/lang/String;Ljava/lang/String;Ljava/lang/String;)V"⟩ : MethodName) (head1 (Jvm.Cond.code (⟨"com/example/pryority/pryority/UriReference", "<init>", "(Ljava/lang/String;Ljava/lang/String;Ljava/lang/String;Ljava/lang/String;)V"⟩ : MethodName) prog_14_method_1_code 5 none :: ws) ({ frames := 2, cells := 0, slots := 0, locals := 28 } : Room)) (fun a U => a = #[(.ref a1), (.ref a2), .null, (.ref a4), (.ref a5)] ∧ Z.Warmed39 U.vm ∧ U.heap = h0) (fun _ _ _ _ _ => True) (fun _ U o U' => ∃ v L, o = .returned v ∧ Qui_5 Z a1 a2 a4 a5 h0 n0 v U'.heap L ∧ FrameEnd U o U' L ({ frames := 2, cells := 0, slots := 0, locals := 28 } : Room).cells ({ frames := 2, cells := 0, slots := 0, locals := 28 } : Room).slots) := by
  refine MetFree.of_bodySF (plainFor_of_name pn_com_example_pryority_pryority_UriReference) hisR ?_
  intro p e s m args below meth c s₁ Bd hml0 hP hK
  obtain ⟨rfl, hZ, hh⟩ := hP
  have hx := Bd.exec
  have hby := Bd.bytes
  have hml : c.maxLocals = 5 := hml0
  have hown : s.vm.findClass "com/example/pryority/pryority/UriReference" = some m.cls := findClass_of_methodNamed Bd.named
  have hnm := (name_of_methodNamed Bd.named Bd.method).1
  have X0 : Stand p l e ({ frames := 2, cells := 0, slots := 0, locals := 28 } : Room) s m #[(.ref a1), (.ref a2), .null, (.ref a4), (.ref a5)] below meth c s₁ [] 0 0 := Stand.of_body Bd
  have e0 : s₁.heap = h0 := by rw [← hh, Bd.state]; rfl
  have es0 : s.heap = h0 := hh
  have N0 := Fr.nil n0
  show own_Fin p e below (Gui_5 Z a1 a2 a4 a5 h0 n0 s) (s₁.setTop (entryFrame m #[(.ref a1), (.ref a2), .null, (.ref a4), (.ref a5)] 5))
  rw [ef_ui_5 m a1 a2 a4 a5]
  have Kz := Keep.refl h0 [a1]
  refine own_go (XS.aloadN X0.here hx rfl (hb hby d5_0) rfl rfl (Steps.refl _)) ?_
  show own_Fin _ _ _ _ (s₁.setTop (mkF m 1 #[rv a1, rv a2, .val .null, rv a4, rv a5] [(.ref a1)]))
  obtain ⟨_, _, ⟨T105, L105, k105, n105⟩, -, X105, ⟨Lc105, hQ105, l105, y105, z105⟩, st105⟩ := X0.specialBack hx (y := (⟨"java/lang/Record", "<init>", "()V"⟩ : MethodName)) rfl hown (mvT hZ (hw _ (List.mem_of_getElem? (i := 32) rfl))) (mvT hZ (hw _ (List.mem_of_getElem? (i := 33) rfl))) (mvT hZ (hw _ (List.mem_of_getElem? (i := 36) rfl))) (by decide) (backOf (W := 0) (rmrec l Z a0 hw [] a1 h0 n0 Z0) hZ (hw _ (List.mem_of_getElem? (i := 36) rfl)) (hw _ (List.mem_of_getElem? (i := 35) rfl)) (by decide) (by decide)) (g := (mkF m 1 #[rv a1, rv a2, .val .null, rv a4, rv a5] [(.ref a1)])) rfl (by rw [hml]; rfl) (Steps.refl _) (a := a1) (argsL := []) (rest := []) (lenOf pd__28__29_V rfl) rfl (by show 2 * 0 + _ ≤ _; exact Nat.le_of_eq rfl) (hb hby d5_1) (fun _ hv => ⟨rfl, e0, (by decide : 0 + 0 ≤ _), (by decide : 0 + 0 ≤ _)⟩)
  dsimp only [Pt.U, Pt.locs, Pt.cells, Pt.slots] at X105 l105 y105 z105 st105 hQ105
  subst l105 y105 z105
  obtain ⟨rfl, Nq105, e105⟩ := hQ105
  refine own_go st105 ?_
  have N105 := Fr.app N0 Nq105
  show own_Fin _ _ _ _ (T105.setTop (mkF m 4 #[rv a1, rv a2, .val .null, rv a4, rv a5] []))
  refine own_go (XS.aloadN X105.here hx rfl (hb hby d5_4) rfl rfl (Steps.refl _)) ?_
  show own_Fin _ _ _ _ (T105.setTop (mkF m 5 #[rv a1, rv a2, .val .null, rv a4, rv a5] [(.ref a1)]))
  refine own_go (XS.aloadN X105.here hx rfl (hb hby d5_5) rfl rfl (Steps.refl _)) ?_
  show own_Fin _ _ _ _ (T105.setTop (mkF m 6 #[rv a1, rv a2, .val .null, rv a4, rv a5] [(.ref a2), (.ref a1)]))
  obtain ⟨T106, h106, X106, e106, W106, st106⟩ := putF X105 hx hZ hown (host := "") (Or.inl (hw _ (List.mem_of_getElem? (i := 38) rfl))) Via.refl e105 F_scheme_a1 E_a1 (Or.inr ⟨(hw _ (List.mem_of_getElem? (i := 39) rfl)), rfl, hnm⟩) (hw _ (List.mem_of_getElem? (i := 27) rfl)) (ty := (.object "java/lang/String")) (by decide) rfl rfl (g := (mkF m 6 #[rv a1, rv a2, .val .null, rv a4, rv a5] [(.ref a2), (.ref a1)])) rfl rfl (hb hby d5_6)
  refine own_by st106 ?_
  have F_scheme_a1_106 := F_scheme_a1.same W106
  have E_a1_106 := E_a1.wr W106
  have F_authority_a1_106 := F_authority_a1.other W106 (Or.inr (slot_ne (Or.inr (hw _ (List.mem_of_getElem? (i := 41) rfl))) (Or.inr (hw _ (List.mem_of_getElem? (i := 39) rfl))) (by decide) (t := (.object "java/lang/String")) (t' := (.object "java/lang/String")) (by decide) (by decide)))
  have F_path_a1_106 := F_path_a1.other W106 (Or.inr (slot_ne (Or.inr (hw _ (List.mem_of_getElem? (i := 43) rfl))) (Or.inr (hw _ (List.mem_of_getElem? (i := 39) rfl))) (by decide) (t := (.object "java/lang/String")) (t' := (.object "java/lang/String")) (by decide) (by decide)))
  have F_query_a1_106 := F_query_a1.other W106 (Or.inr (slot_ne (Or.inr (hw _ (List.mem_of_getElem? (i := 45) rfl))) (Or.inr (hw _ (List.mem_of_getElem? (i := 39) rfl))) (by decide) (t := (.object "java/lang/String")) (t' := (.object "java/lang/String")) (by decide) (by decide)))
  have N106 := Fr.snoc X106 N105 g_a1
  have Z106 : n0 ≤ h106.size := Nat.le_trans Z0 (Keep.of_wr W106).1
  have K106 := Kz.wr W106 (Or.inl (List.mem_of_getElem? (i := 0) rfl))
  show own_Fin _ _ _ _ (T106.setTop (mkF m 9 #[rv a1, rv a2, .val .null, rv a4, rv a5] []))
  refine own_go (XS.aloadN X106.here hx rfl (hb hby d5_9) rfl rfl (Steps.refl _)) ?_
  show own_Fin _ _ _ _ (T106.setTop (mkF m 10 #[rv a1, rv a2, .val .null, rv a4, rv a5] [(.ref a1)]))
  refine own_go (XS.aloadN X106.here hx rfl (hb hby d5_10) rfl rfl (Steps.refl _)) ?_
  show own_Fin _ _ _ _ (T106.setTop (mkF m 11 #[rv a1, rv a2, .val .null, rv a4, rv a5] [.null, (.ref a1)]))
  obtain ⟨T107, h107, X107, e107, W107, st107⟩ := putF X106 hx hZ hown (host := "") (Or.inl (hw _ (List.mem_of_getElem? (i := 40) rfl))) Via.refl e106 F_authority_a1_106 E_a1_106 (Or.inr ⟨(hw _ (List.mem_of_getElem? (i := 41) rfl)), rfl, hnm⟩) (hw _ (List.mem_of_getElem? (i := 27) rfl)) (ty := (.object "java/lang/String")) (by decide) rfl rfl (g := (mkF m 11 #[rv a1, rv a2, .val .null, rv a4, rv a5] [.null, (.ref a1)])) rfl rfl (hb hby d5_11)
  refine own_by st107 ?_
  have F_authority_a1_107 := F_authority_a1_106.same W107
  have E_a1_107 := E_a1_106.wr W107
  have F_scheme_a1_107 := F_scheme_a1_106.other W107 (Or.inr (slot_ne (Or.inr (hw _ (List.mem_of_getElem? (i := 39) rfl))) (Or.inr (hw _ (List.mem_of_getElem? (i := 41) rfl))) (by decide) (t := (.object "java/lang/String")) (t' := (.object "java/lang/String")) (by decide) (by decide)))
  have F_path_a1_107 := F_path_a1_106.other W107 (Or.inr (slot_ne (Or.inr (hw _ (List.mem_of_getElem? (i := 43) rfl))) (Or.inr (hw _ (List.mem_of_getElem? (i := 41) rfl))) (by decide) (t := (.object "java/lang/String")) (t' := (.object "java/lang/String")) (by decide) (by decide)))
  have F_query_a1_107 := F_query_a1_106.other W107 (Or.inr (slot_ne (Or.inr (hw _ (List.mem_of_getElem? (i := 45) rfl))) (Or.inr (hw _ (List.mem_of_getElem? (i := 41) rfl))) (by decide) (t := (.object "java/lang/String")) (t' := (.object "java/lang/String")) (by decide) (by decide)))
  have N107 := Fr.snoc X107 N106 g_a1
  have Z107 : n0 ≤ h107.size := Nat.le_trans Z106 (Keep.of_wr W107).1
  have K107 := K106.wr W107 (Or.inl (List.mem_of_getElem? (i := 0) rfl))
  show own_Fin _ _ _ _ (T107.setTop (mkF m 14 #[rv a1, rv a2, .val .null, rv a4, rv a5] []))
  refine own_go (XS.aloadN X107.here hx rfl (hb hby d5_14) rfl rfl (Steps.refl _)) ?_
  show own_Fin _ _ _ _ (T107.setTop (mkF m 15 #[rv a1, rv a2, .val .null, rv a4, rv a5] [(.ref a1)]))
  refine own_go (XS.aloadN X107.here hx rfl (hb hby d5_15) rfl rfl (Steps.refl _)) ?_
  show own_Fin _ _ _ _ (T107.setTop (mkF m 16 #[rv a1, rv a2, .val .null, rv a4, rv a5] [(.ref a4), (.ref a1)]))
  obtain ⟨T108, h108, X108, e108, W108, st108⟩ := putF X107 hx hZ hown (host := "") (Or.inl (hw _ (List.mem_of_getElem? (i := 42) rfl))) Via.refl e107 F_path_a1_107 E_a1_107 (Or.inr ⟨(hw _ (List.mem_of_getElem? (i := 43) rfl)), rfl, hnm⟩) (hw _ (List.mem_of_getElem? (i := 27) rfl)) (ty := (.object "java/lang/String")) (by decide) rfl rfl (g := (mkF m 16 #[rv a1, rv a2, .val .null, rv a4, rv a5] [(.ref a4), (.ref a1)])) rfl rfl (hb hby d5_16)
  refine own_by st108 ?_
  have F_path_a1_108 := F_path_a1_107.same W108
  have E_a1_108 := E_a1_107.wr W108
  have F_scheme_a1_108 := F_scheme_a1_107.other W108 (Or.inr (slot_ne (Or.inr (hw _ (List.mem_of_getElem? (i := 39) rfl))) (Or.inr (hw _ (List.mem_of_getElem? (i := 43) rfl))) (by decide) (t := (.object "java/lang/String")) (t' := (.object "java/lang/String")) (by decide) (by decide)))
  have F_authority_a1_108 := F_authority_a1_107.other W108 (Or.inr (slot_ne (Or.inr (hw _ (List.mem_of_getElem? (i := 41) rfl))) (Or.inr (hw _ (List.mem_of_getElem? (i := 43) rfl))) (by decide) (t := (.object "java/lang/String")) (t' := (.object "java/lang/String")) (by decide) (by decide)))
  have F_query_a1_108 := F_query_a1_107.other W108 (Or.inr (slot_ne (Or.inr (hw _ (List.mem_of_getElem? (i := 45) rfl))) (Or.inr (hw _ (List.mem_of_getElem? (i := 43) rfl))) (by decide) (t := (.object "java/lang/String")) (t' := (.object "java/lang/String")) (by decide) (by decide)))
  have N108 := Fr.snoc X108 N107 g_a1
  have Z108 : n0 ≤ h108.size := Nat.le_trans Z107 (Keep.of_wr W108).1
  have K108 := K107.wr W108 (Or.inl (List.mem_of_getElem? (i := 0) rfl))
  show own_Fin _ _ _ _ (T108.setTop (mkF m 19 #[rv a1, rv a2, .val .null, rv a4, rv a5] []))
  refine own_go (XS.aloadN X108.here hx rfl (hb hby d5_19) rfl rfl (Steps.refl _)) ?_
  show own_Fin _ _ _ _ (T108.setTop (mkF m 20 #[rv a1, rv a2, .val .null, rv a4, rv a5] [(.ref a1)]))
  refine own_go (XS.aload X108.here hx rfl (hb hby d5_20) rfl rfl (Steps.refl _)) ?_
  show own_Fin _ _ _ _ (T108.setTop (mkF m 22 #[rv a1, rv a2, .val .null, rv a4, rv a5] [(.ref a5), (.ref a1)]))
  obtain ⟨T109, h109, X109, e109, W109, st109⟩ := putF X108 hx hZ hown (host := "") (Or.inl (hw _ (List.mem_of_getElem? (i := 44) rfl))) Via.refl e108 F_query_a1_108 E_a1_108 (Or.inr ⟨(hw _ (List.mem_of_getElem? (i := 45) rfl)), rfl, hnm⟩) (hw _ (List.mem_of_getElem? (i := 27) rfl)) (ty := (.object "java/lang/String")) (by decide) rfl rfl (g := (mkF m 22 #[rv a1, rv a2, .val .null, rv a4, rv a5] [(.ref a5), (.ref a1)])) rfl rfl (hb hby d5_22)
  refine own_by st109 ?_
  have F_query_a1_109 := F_query_a1_108.same W109
  have E_a1_109 := E_a1_108.wr W109
  have F_scheme_a1_109 := F_scheme_a1_108.other W109 (Or.inr (slot_ne (Or.inr (hw _ (List.mem_of_getElem? (i := 39) rfl))) (Or.inr (hw _ (List.mem_of_getElem? (i := 45) rfl))) (by decide) (t := (.object "java/lang/String")) (t' := (.object "java/lang/String")) (by decide) (by decide)))
  have F_authority_a1_109 := F_authority_a1_108.other W109 (Or.inr (slot_ne (Or.inr (hw _ (List.mem_of_getElem? (i := 41) rfl))) (Or.inr (hw _ (List.mem_of_getElem? (i := 45) rfl))) (by decide) (t := (.object "java/lang/String")) (t' := (.object "java/lang/String")) (by decide) (by decide)))
  have F_path_a1_109 := F_path_a1_108.other W109 (Or.inr (slot_ne (Or.inr (hw _ (List.mem_of_getElem? (i := 43) rfl))) (Or.inr (hw _ (List.mem_of_getElem? (i := 45) rfl))) (by decide) (t := (.object "java/lang/String")) (t' := (.object "java/lang/String")) (by decide) (by decide)))
  have N109 := Fr.snoc X109 N108 g_a1
  have Z109 : n0 ≤ h109.size := Nat.le_trans Z108 (Keep.of_wr W109).1
  have K109 := K108.wr W109 (Or.inl (List.mem_of_getElem? (i := 0) rfl))
  show own_Fin _ _ _ _ (T109.setTop (mkF m 25 #[rv a1, rv a2, .val .null, rv a4, rv a5] []))
  obtain ⟨fs110, hr110, hrun110, hended110, hW110, hsame110⟩ := X109.leave (v := none) (fun _ => rfl)
  refine own_done (X109.returnOut hx Bd.returns (hb hby d5_25) hr110) hrun110 hended110 ⟨_, _, rfl, ?_, ⟨_, rfl⟩, hW110, hsame110.mono (by decide) (by decide)⟩
  show Qui_5 Z a1 a2 a4 a5 h0 n0 _ T109.heap _
  rw [e109]
  exact ⟨rfl, N109, K109, E_a1_109, F_scheme_a1_109, F_authority_a1_109, F_path_a1_109, F_query_a1_109⟩
theorem ef_ui_6 (m : MethodId) (x0 : Addr) (x2 : Addr) (x3 : Addr) (x4 : Addr) : entryFrame m #[(.ref x0), .null, (.ref x2), (.ref x3), (.ref x4)] 5 = mkF m 0 #[.val (.ref x0), .val .null, .val (.ref x2), .val (.ref x3), .val (.ref x4)] [] := by first | (simp [entryFrame, mkF, argsToLocals, Value.category]; done) | rfl
def Qui_6 (Z : State) (a1 : Addr) (a3 : Addr) (a4 : Addr) (a5 : Addr) (h0 : Heap) (n0 : Nat) (v : Option Value) (h : Heap) (L : List Loc) : Prop := v = none ∧ Fr n0 L ∧ Keep h0 h [a1] ∧ Exa Z h a1 "com/example/pryority/pryority/UriReference" ∧ Fld Z h a1 "com/example/pryority/pryority/UriReference" "scheme" "Ljava/lang/String;" .null ∧ Fld Z h a1 "com/example/pryority/pryority/UriReference" "authority" "Ljava/lang/String;" (.ref a3) ∧ Fld Z h a1 "com/example/pryority/pryority/UriReference" "path" "Ljava/lang/String;" (.ref a4) ∧ Fld Z h a1 "com/example/pryority/pryority/UriReference" "query" "Ljava/lang/String;" (.ref a5)
abbrev Gui_6 (Z : State) (a1 : Addr) (a3 : Addr) (a4 : Addr) (a5 : Addr) (h0 : Heap) (n0 : Nat) (s : State) : Outcome → State → Prop := fun o U' => ∃ v L, o = .returned v ∧ Qui_6 Z a1 a3 a4 a5 h0 n0 v U'.heap L ∧ FrameEnd s o U' L ({ frames := 2, cells := 0, slots := 0, locals := 28 } : Room).cells ({ frames := 2, cells := 0, slots := 0, locals := 28 } : Room).slots
set_option maxRecDepth 65536 in
set_option maxHeartbeats 40000000 in
theorem rmui_6 (l : Launch) (Z : State) (a0 : Array Value) (hw : ∀ d ∈ tables_1, d.before a0 Z = true) (ws : List Jvm.Cond) (a1 : Addr) (a3 : Addr) (a4 : Addr) (a5 : Addr) (h0 : Heap) (n0 : Nat) (Z0 : n0 ≤ h0.size) (E_a1 : Exa Z h0 a1 "com/example/pryority/pryority/UriReference") (F_scheme_a1 : Fld Z h0 a1 "com/example/pryority/pryority/UriReference" "scheme" "Ljava/lang/String;" .null) (F_authority_a1 : Fld Z h0 a1 "com/example/pryority/pryority/UriReference" "authority" "Ljava/lang/String;" .null) (F_path_a1 : Fld Z h0 a1 "com/example/pryority/pryority/UriReference" "path" "Ljava/lang/String;" .null) (F_query_a1 : Fld Z h0 a1 "com/example/pryority/pryority/UriReference" "query" "Ljava/lang/String;" .null) (g_a1 : n0 ≤ a1) :
    MetFree l (⟨"com/example/pryority/pryority/UriReference", "<init>", "(Ljava/lang/String;Ljava/lang/String;Ljava/lang/String;Ljava/lang/String;)V"⟩ : MethodName) (head1 (Jvm.Cond.code (⟨"com/example/pryority/pryority/UriReference", "<init>", "(Ljava/lang/String;Ljava/lang/String;Ljava/lang/String;Ljava/lang/String;)V"⟩ : MethodName) prog_14_method_1_code 5 none :: ws) ({ frames := 2, cells := 0, slots := 0, locals := 28 } : Room)) (fun a U => a = #[(.ref a1), .null, (.ref a3), (.ref a4), (.ref a5)] ∧ Z.Warmed39 U.vm ∧ U.heap = h0) (fun _ _ _ _ _ => True) (fun _ U o U' => ∃ v L, o = .returned v ∧ Qui_6 Z a1 a3 a4 a5 h0 n0 v U'.heap L ∧ FrameEnd U o U' L ({ frames := 2, cells := 0, slots := 0, locals := 28 } : Room).cells ({ frames := 2, cells := 0, slots := 0, locals := 28 } : Room).slots) := by
  refine MetFree.of_bodySF (plainFor_of_name pn_com_example_pryority_pryority_UriReference) hisR ?_
  intro p e s m args below meth c s₁ Bd hml0 hP hK
  obtain ⟨rfl, hZ, hh⟩ := hP
  have hx := Bd.exec
  have hby := Bd.bytes
  have hml : c.maxLocals = 5 := hml0
  have hown : s.vm.findClass "com/example/pryority/pryority/UriReference" = some m.cls := findClass_of_methodNamed Bd.named
  have hnm := (name_of_methodNamed Bd.named Bd.method).1
  have X0 : Stand p l e ({ frames := 2, cells := 0, slots := 0, locals := 28 } : Room) s m #[(.ref a1), .null, (.ref a3), (.ref a4), (.ref a5)] below meth c s₁ [] 0 0 := Stand.of_body Bd
  have e0 : s₁.heap = h0 := by rw [← hh, Bd.state]; rfl
  have es0 : s.heap = h0 := hh
  have N0 := Fr.nil n0
  show own_Fin p e below (Gui_6 Z a1 a3 a4 a5 h0 n0 s) (s₁.setTop (entryFrame m #[(.ref a1), .null, (.ref a3), (.ref a4), (.ref a5)] 5))
  rw [ef_ui_6 m a1 a3 a4 a5]
  have Kz := Keep.refl h0 [a1]
  refine own_go (XS.aloadN X0.here hx rfl (hb hby d5_0) rfl rfl (Steps.refl _)) ?_
  show own_Fin _ _ _ _ (s₁.setTop (mkF m 1 #[rv a1, .val .null, rv a3, rv a4, rv a5] [(.ref a1)]))
  obtain ⟨_, _, ⟨T111, L111, k111, n111⟩, -, X111, ⟨Lc111, hQ111, l111, y111, z111⟩, st111⟩ := X0.specialBack hx (y := (⟨"java/lang/Record", "<init>", "()V"⟩ : MethodName)) rfl hown (mvT hZ (hw _ (List.mem_of_getElem? (i := 32) rfl))) (mvT hZ (hw _ (List.mem_of_getElem? (i := 33) rfl))) (mvT hZ (hw _ (List.mem_of_getElem? (i := 36) rfl))) (by decide) (backOf (W := 0) (rmrec l Z a0 hw [] a1 h0 n0 Z0) hZ (hw _ (List.mem_of_getElem? (i := 36) rfl)) (hw _ (List.mem_of_getElem? (i := 35) rfl)) (by decide) (by decide)) (g := (mkF m 1 #[rv a1, .val .null, rv a3, rv a4, rv a5] [(.ref a1)])) rfl (by rw [hml]; rfl) (Steps.refl _) (a := a1) (argsL := []) (rest := []) (lenOf pd__28__29_V rfl) rfl (by show 2 * 0 + _ ≤ _; exact Nat.le_of_eq rfl) (hb hby d5_1) (fun _ hv => ⟨rfl, e0, (by decide : 0 + 0 ≤ _), (by decide : 0 + 0 ≤ _)⟩)
  dsimp only [Pt.U, Pt.locs, Pt.cells, Pt.slots] at X111 l111 y111 z111 st111 hQ111
  subst l111 y111 z111
  obtain ⟨rfl, Nq111, e111⟩ := hQ111
  refine own_go st111 ?_
  have N111 := Fr.app N0 Nq111
  show own_Fin _ _ _ _ (T111.setTop (mkF m 4 #[rv a1, .val .null, rv a3, rv a4, rv a5] []))
  refine own_go (XS.aloadN X111.here hx rfl (hb hby d5_4) rfl rfl (Steps.refl _)) ?_
  show own_Fin _ _ _ _ (T111.setTop (mkF m 5 #[rv a1, .val .null, rv a3, rv a4, rv a5] [(.ref a1)]))
  refine own_go (XS.aloadN X111.here hx rfl (hb hby d5_5) rfl rfl (Steps.refl _)) ?_
  show own_Fin _ _ _ _ (T111.setTop (mkF m 6 #[rv a1, .val .null, rv a3, rv a4, rv a5] [.null, (.ref a1)]))
  obtain ⟨T112, h112, X112, e112, W112, st112⟩ := putF X111 hx hZ hown (host := "") (Or.inl (hw _ (List.mem_of_getElem? (i := 38) rfl))) Via.refl e111 F_scheme_a1 E_a1 (Or.inr ⟨(hw _ (List.mem_of_getElem? (i := 39) rfl)), rfl, hnm⟩) (hw _ (List.mem_of_getElem? (i := 27) rfl)) (ty := (.object "java/lang/String")) (by decide) rfl rfl (g := (mkF m 6 #[rv a1, .val .null, rv a3, rv a4, rv a5] [.null, (.ref a1)])) rfl rfl (hb hby d5_6)
  refine own_by st112 ?_
  have F_scheme_a1_112 := F_scheme_a1.same W112
  have E_a1_112 := E_a1.wr W112
  have F_authority_a1_112 := F_authority_a1.other W112 (Or.inr (slot_ne (Or.inr (hw _ (List.mem_of_getElem? (i := 41) rfl))) (Or.inr (hw _ (List.mem_of_getElem? (i := 39) rfl))) (by decide) (t := (.object "java/lang/String")) (t' := (.object "java/lang/String")) (by decide) (by decide)))
  have F_path_a1_112 := F_path_a1.other W112 (Or.inr (slot_ne (Or.inr (hw _ (List.mem_of_getElem? (i := 43) rfl))) (Or.inr (hw _ (List.mem_of_getElem? (i := 39) rfl))) (by decide) (t := (.object "java/lang/String")) (t' := (.object "java/lang/String")) (by decide) (by decide)))
  have F_query_a1_112 := F_query_a1.other W112 (Or.inr (slot_ne (Or.inr (hw _ (List.mem_of_getElem? (i := 45) rfl))) (Or.inr (hw _ (List.mem_of_getElem? (i := 39) rfl))) (by decide) (t := (.object "java/lang/String")) (t' := (.object "java/lang/String")) (by decide) (by decide)))
  have N112 := Fr.snoc X112 N111 g_a1
  have Z112 : n0 ≤ h112.size := Nat.le_trans Z0 (Keep.of_wr W112).1
  have K112 := Kz.wr W112 (Or.inl (List.mem_of_getElem? (i := 0) rfl))
  show own_Fin _ _ _ _ (T112.setTop (mkF m 9 #[rv a1, .val .null, rv a3, rv a4, rv a5] []))
  refine own_go (XS.aloadN X112.here hx rfl (hb hby d5_9) rfl rfl (Steps.refl _)) ?_
  show own_Fin _ _ _ _ (T112.setTop (mkF m 10 #[rv a1, .val .null, rv a3, rv a4, rv a5] [(.ref a1)]))
  refine own_go (XS.aloadN X112.here hx rfl (hb hby d5_10) rfl rfl (Steps.refl _)) ?_
  show own_Fin _ _ _ _ (T112.setTop (mkF m 11 #[rv a1, .val .null, rv a3, rv a4, rv a5] [(.ref a3), (.ref a1)]))
  obtain ⟨T113, h113, X113, e113, W113, st113⟩ := putF X112 hx hZ hown (host := "") (Or.inl (hw _ (List.mem_of_getElem? (i := 40) rfl))) Via.refl e112 F_authority_a1_112 E_a1_112 (Or.inr ⟨(hw _ (List.mem_of_getElem? (i := 41) rfl)), rfl, hnm⟩) (hw _ (List.mem_of_getElem? (i := 27) rfl)) (ty := (.object "java/lang/String")) (by decide) rfl rfl (g := (mkF m 11 #[rv a1, .val .null, rv a3, rv a4, rv a5] [(.ref a3), (.ref a1)])) rfl rfl (hb hby d5_11)
  refine own_by st113 ?_
  have F_authority_a1_113 := F_authority_a1_112.same W113
  have E_a1_113 := E_a1_112.wr W113
  have F_scheme_a1_113 := F_scheme_a1_112.other W113 (Or.inr (slot_ne (Or.inr (hw _ (List.mem_of_getElem? (i := 39) rfl))) (Or.inr (hw _ (List.mem_of_getElem? (i := 41) rfl))) (by decide) (t := (.object "java/lang/String")) (t' := (.object "java/lang/String")) (by decide) (by decide)))
  have F_path_a1_113 := F_path_a1_112.other W113 (Or.inr (slot_ne (Or.inr (hw _ (List.mem_of_getElem? (i := 43) rfl))) (Or.inr (hw _ (List.mem_of_getElem? (i := 41) rfl))) (by decide) (t := (.object "java/lang/String")) (t' := (.object "java/lang/String")) (by decide) (by decide)))
  have F_query_a1_113 := F_query_a1_112.other W113 (Or.inr (slot_ne (Or.inr (hw _ (List.mem_of_getElem? (i := 45) rfl))) (Or.inr (hw _ (List.mem_of_getElem? (i := 41) rfl))) (by decide) (t := (.object "java/lang/String")) (t' := (.object "java/lang/String")) (by decide) (by decide)))
  have N113 := Fr.snoc X113 N112 g_a1
  have Z113 : n0 ≤ h113.size := Nat.le_trans Z112 (Keep.of_wr W113).1
  have K113 := K112.wr W113 (Or.inl (List.mem_of_getElem? (i := 0) rfl))
  show own_Fin _ _ _ _ (T113.setTop (mkF m 14 #[rv a1, .val .null, rv a3, rv a4, rv a5] []))
  refine own_go (XS.aloadN X113.here hx rfl (hb hby d5_14) rfl rfl (Steps.refl _)) ?_
  show own_Fin _ _ _ _ (T113.setTop (mkF m 15 #[rv a1, .val .null, rv a3, rv a4, rv a5] [(.ref a1)]))
  refine own_go (XS.aloadN X113.here hx rfl (hb hby d5_15) rfl rfl (Steps.refl _)) ?_
  show own_Fin _ _ _ _ (T113.setTop (mkF m 16 #[rv a1, .val .null, rv a3, rv a4, rv a5] [(.ref a4), (.ref a1)]))
  obtain ⟨T114, h114, X114, e114, W114, st114⟩ := putF X113 hx hZ hown (host := "") (Or.inl (hw _ (List.mem_of_getElem? (i := 42) rfl))) Via.refl e113 F_path_a1_113 E_a1_113 (Or.inr ⟨(hw _ (List.mem_of_getElem? (i := 43) rfl)), rfl, hnm⟩) (hw _ (List.mem_of_getElem? (i := 27) rfl)) (ty := (.object "java/lang/String")) (by decide) rfl rfl (g := (mkF m 16 #[rv a1, .val .null, rv a3, rv a4, rv a5] [(.ref a4), (.ref a1)])) rfl rfl (hb hby d5_16)
  refine own_by st114 ?_
  have F_path_a1_114 := F_path_a1_113.same W114
  have E_a1_114 := E_a1_113.wr W114
  have F_scheme_a1_114 := F_scheme_a1_113.other W114 (Or.inr (slot_ne (Or.inr (hw _ (List.mem_of_getElem? (i := 39) rfl))) (Or.inr (hw _ (List.mem_of_getElem? (i := 43) rfl))) (by decide) (t := (.object "java/lang/String")) (t' := (.object "java/lang/String")) (by decide) (by decide)))
  have F_authority_a1_114 := F_authority_a1_113.other W114 (Or.inr (slot_ne (Or.inr (hw _ (List.mem_of_getElem? (i := 41) rfl))) (Or.inr (hw _ (List.mem_of_getElem? (i := 43) rfl))) (by decide) (t := (.object "java/lang/String")) (t' := (.object "java/lang/String")) (by decide) (by decide)))
  have F_query_a1_114 := F_query_a1_113.other W114 (Or.inr (slot_ne (Or.inr (hw _ (List.mem_of_getElem? (i := 45) rfl))) (Or.inr (hw _ (List.mem_of_getElem? (i := 43) rfl))) (by decide) (t := (.object "java/lang/String")) (t' := (.object "java/lang/String")) (by decide) (by decide)))
  have N114 := Fr.snoc X114 N113 g_a1
  have Z114 : n0 ≤ h114.size := Nat.le_trans Z113 (Keep.of_wr W114).1
  have K114 := K113.wr W114 (Or.inl (List.mem_of_getElem? (i := 0) rfl))
  show own_Fin _ _ _ _ (T114.setTop (mkF m 19 #[rv a1, .val .null, rv a3, rv a4, rv a5] []))
  refine own_go (XS.aloadN X114.here hx rfl (hb hby d5_19) rfl rfl (Steps.refl _)) ?_
  show own_Fin _ _ _ _ (T114.setTop (mkF m 20 #[rv a1, .val .null, rv a3, rv a4, rv a5] [(.ref a1)]))
  refine own_go (XS.aload X114.here hx rfl (hb hby d5_20) rfl rfl (Steps.refl _)) ?_
  show own_Fin _ _ _ _ (T114.setTop (mkF m 22 #[rv a1, .val .null, rv a3, rv a4, rv a5] [(.ref a5), (.ref a1)]))
  obtain ⟨T115, h115, X115, e115, W115, st115⟩ := putF X114 hx hZ hown (host := "") (Or.inl (hw _ (List.mem_of_getElem? (i := 44) rfl))) Via.refl e114 F_query_a1_114 E_a1_114 (Or.inr ⟨(hw _ (List.mem_of_getElem? (i := 45) rfl)), rfl, hnm⟩) (hw _ (List.mem_of_getElem? (i := 27) rfl)) (ty := (.object "java/lang/String")) (by decide) rfl rfl (g := (mkF m 22 #[rv a1, .val .null, rv a3, rv a4, rv a5] [(.ref a5), (.ref a1)])) rfl rfl (hb hby d5_22)
  refine own_by st115 ?_
  have F_query_a1_115 := F_query_a1_114.same W115
  have E_a1_115 := E_a1_114.wr W115
  have F_scheme_a1_115 := F_scheme_a1_114.other W115 (Or.inr (slot_ne (Or.inr (hw _ (List.mem_of_getElem? (i := 39) rfl))) (Or.inr (hw _ (List.mem_of_getElem? (i := 45) rfl))) (by decide) (t := (.object "java/lang/String")) (t' := (.object "java/lang/String")) (by decide) (by decide)))
  have F_authority_a1_115 := F_authority_a1_114.other W115 (Or.inr (slot_ne (Or.inr (hw _ (List.mem_of_getElem? (i := 41) rfl))) (Or.inr (hw _ (List.mem_of_getElem? (i := 45) rfl))) (by decide) (t := (.object "java/lang/String")) (t' := (.object "java/lang/String")) (by decide) (by decide)))
  have F_path_a1_115 := F_path_a1_114.other W115 (Or.inr (slot_ne (Or.inr (hw _ (List.mem_of_getElem? (i := 43) rfl))) (Or.inr (hw _ (List.mem_of_getElem? (i := 45) rfl))) (by decide) (t := (.object "java/lang/String")) (t' := (.object "java/lang/String")) (by decide) (by decide)))
  have N115 := Fr.snoc X115 N114 g_a1
  have Z115 : n0 ≤ h115.size := Nat.le_trans Z114 (Keep.of_wr W115).1
  have K115 := K114.wr W115 (Or.inl (List.mem_of_getElem? (i := 0) rfl))
  show own_Fin _ _ _ _ (T115.setTop (mkF m 25 #[rv a1, .val .null, rv a3, rv a4, rv a5] []))
  obtain ⟨fs116, hr116, hrun116, hended116, hW116, hsame116⟩ := X115.leave (v := none) (fun _ => rfl)
  refine own_done (X115.returnOut hx Bd.returns (hb hby d5_25) hr116) hrun116 hended116 ⟨_, _, rfl, ?_, ⟨_, rfl⟩, hW116, hsame116.mono (by decide) (by decide)⟩
  show Qui_6 Z a1 a3 a4 a5 h0 n0 _ T115.heap _
  rw [e115]
  exact ⟨rfl, N115, K115, E_a1_115, F_scheme_a1_115, F_authority_a1_115, F_path_a1_115, F_query_a1_115⟩
theorem ef_ui_7 (m : MethodId) (x0 : Addr) (x1 : Addr) (x2 : Addr) (x3 : Addr) (x4 : Addr) : entryFrame m #[(.ref x0), (.ref x1), (.ref x2), (.ref x3), (.ref x4)] 5 = mkF m 0 #[.val (.ref x0), .val (.ref x1), .val (.ref x2), .val (.ref x3), .val (.ref x4)] [] := by first | (simp [entryFrame, mkF, argsToLocals, Value.category]; done) | rfl
def Qui_7 (Z : State) (a1 : Addr) (a2 : Addr) (a3 : Addr) (a4 : Addr) (a5 : Addr) (h0 : Heap) (n0 : Nat) (v : Option Value) (h : Heap) (L : List Loc) : Prop := v = none ∧ Fr n0 L ∧ Keep h0 h [a1] ∧ Exa Z h a1 "com/example/pryority/pryority/UriReference" ∧ Fld Z h a1 "com/example/pryority/pryority/UriReference" "scheme" "Ljava/lang/String;" (.ref a2) ∧ Fld Z h a1 "com/example/pryority/pryority/UriReference" "authority" "Ljava/lang/String;" (.ref a3) ∧ Fld Z h a1 "com/example/pryority/pryority/UriReference" "path" "Ljava/lang/String;" (.ref a4) ∧ Fld Z h a1 "com/example/pryority/pryority/UriReference" "query" "Ljava/lang/String;" (.ref a5)
abbrev Gui_7 (Z : State) (a1 : Addr) (a2 : Addr) (a3 : Addr) (a4 : Addr) (a5 : Addr) (h0 : Heap) (n0 : Nat) (s : State) : Outcome → State → Prop := fun o U' => ∃ v L, o = .returned v ∧ Qui_7 Z a1 a2 a3 a4 a5 h0 n0 v U'.heap L ∧ FrameEnd s o U' L ({ frames := 2, cells := 0, slots := 0, locals := 28 } : Room).cells ({ frames := 2, cells := 0, slots := 0, locals := 28 } : Room).slots
set_option maxRecDepth 65536 in
set_option maxHeartbeats 40000000 in
theorem rmui_7 (l : Launch) (Z : State) (a0 : Array Value) (hw : ∀ d ∈ tables_1, d.before a0 Z = true) (ws : List Jvm.Cond) (a1 : Addr) (a2 : Addr) (a3 : Addr) (a4 : Addr) (a5 : Addr) (h0 : Heap) (n0 : Nat) (Z0 : n0 ≤ h0.size) (E_a1 : Exa Z h0 a1 "com/example/pryority/pryority/UriReference") (F_scheme_a1 : Fld Z h0 a1 "com/example/pryority/pryority/UriReference" "scheme" "Ljava/lang/String;" .null) (F_authority_a1 : Fld Z h0 a1 "com/example/pryority/pryority/UriReference" "authority" "Ljava/lang/String;" .null) (F_path_a1 : Fld Z h0 a1 "com/example/pryority/pryority/UriReference" "path" "Ljava/lang/String;" .null) (F_query_a1 : Fld Z h0 a1 "com/example/pryority/pryority/UriReference" "query" "Ljava/lang/String;" .null) (g_a1 : n0 ≤ a1) :
    MetFree l (⟨"com/example/pryority/pryority/UriReference", "<init>", "(Ljava/lang/String;Ljava/lang/String;Ljava/lang/String;Ljava/lang/String;)V"⟩ : MethodName) (head1 (Jvm.Cond.code (⟨"com/example/pryority/pryority/UriReference", "<init>", "(Ljava/lang/String;Ljava/lang/String;Ljava/lang/String;Ljava/lang/String;)V"⟩ : MethodName) prog_14_method_1_code 5 none :: ws) ({ frames := 2, cells := 0, slots := 0, locals := 28 } : Room)) (fun a U => a = #[(.ref a1), (.ref a2), (.ref a3), (.ref a4), (.ref a5)] ∧ Z.Warmed39 U.vm ∧ U.heap = h0) (fun _ _ _ _ _ => True) (fun _ U o U' => ∃ v L, o = .returned v ∧ Qui_7 Z a1 a2 a3 a4 a5 h0 n0 v U'.heap L ∧ FrameEnd U o U' L ({ frames := 2, cells := 0, slots := 0, locals := 28 } : Room).cells ({ frames := 2, cells := 0, slots := 0, locals := 28 } : Room).slots) := by
  refine MetFree.of_bodySF (plainFor_of_name pn_com_example_pryority_pryority_UriReference) hisR ?_
  intro p e s m args below meth c s₁ Bd hml0 hP hK
  obtain ⟨rfl, hZ, hh⟩ := hP
  have hx := Bd.exec
  have hby := Bd.bytes
  have hml : c.maxLocals = 5 := hml0
  have hown : s.vm.findClass "com/example/pryority/pryority/UriReference" = some m.cls := findClass_of_methodNamed Bd.named
  have hnm := (name_of_methodNamed Bd.named Bd.method).1
  have X0 : Stand p l e ({ frames := 2, cells := 0, slots := 0, locals := 28 } : Room) s m #[(.ref a1), (.ref a2), (.ref a3), (.ref a4), (.ref a5)] below meth c s₁ [] 0 0 := Stand.of_body Bd
  have e0 : s₁.heap = h0 := by rw [← hh, Bd.state]; rfl
  have es0 : s.heap = h0 := hh
  have N0 := Fr.nil n0
  show own_Fin p e below (Gui_7 Z a1 a2 a3 a4 a5 h0 n0 s) (s₁.setTop (entryFrame m #[(.ref a1), (.ref a2), (.ref a3), (.ref a4), (.ref a5)] 5))
  rw [ef_ui_7 m a1 a2 a3 a4 a5]
  have Kz := Keep.refl h0 [a1]
  refine own_go (XS.aloadN X0.here hx rfl (hb hby d5_0) rfl rfl (Steps.refl _)) ?_
  show own_Fin _ _ _ _ (s₁.setTop (mkF m 1 #[rv a1, rv a2, rv a3, rv a4, rv a5] [(.ref a1)]))
  obtain ⟨_, _, ⟨T117, L117, k117, n117⟩, -, X117, ⟨Lc117, hQ117, l117, y117, z117⟩, st117⟩ := X0.specialBack hx (y := (⟨"java/lang/Record", "<init>", "()V"⟩ : MethodName)) rfl hown (mvT hZ (hw _ (List.mem_of_getElem? (i := 32) rfl))) (mvT hZ (hw _ (List.mem_of_getElem? (i := 33) rfl))) (mvT hZ (hw _ (List.mem_of_getElem? (i := 36) rfl))) (by decide) (backOf (W := 0) (rmrec l Z a0 hw [] a1 h0 n0 Z0) hZ (hw _ (List.mem_of_getElem? (i := 36) rfl)) (hw _ (List.mem_of_getElem? (i := 35) rfl)) (by decide) (by decide)) (g := (mkF m 1 #[rv a1, rv a2, rv a3, rv a4, rv a5] [(.ref a1)])) rfl (by rw [hml]; rfl) (Steps.refl _) (a := a1) (argsL := []) (rest := []) (lenOf pd__28__29_V rfl) rfl (by show 2 * 0 + _ ≤ _; exact Nat.le_of_eq rfl) (hb hby d5_1) (fun _ hv => ⟨rfl, e0, (by decide : 0 + 0 ≤ _), (by decide : 0 + 0 ≤ _)⟩)
  dsimp only [Pt.U, Pt.locs, Pt.cells, Pt.slots] at X117 l117 y117 z117 st117 hQ117
  subst l117 y117 z117
  obtain ⟨rfl, Nq117, e117⟩ := hQ117
  refine own_go st117 ?_
  have N117 := Fr.app N0 Nq117
  show own_Fin _ _ _ _ (T117.setTop (mkF m 4 #[rv a1, rv a2, rv a3, rv a4, rv a5] []))
  refine own_go (XS.aloadN X117.here hx rfl (hb hby d5_4) rfl rfl (Steps.refl _)) ?_
  show own_Fin _ _ _ _ (T117.setTop (mkF m 5 #[rv a1, rv a2, rv a3, rv a4, rv a5] [(.ref a1)]))
  refine own_go (XS.aloadN X117.here hx rfl (hb hby d5_5) rfl rfl (Steps.refl _)) ?_
  show own_Fin _ _ _ _ (T117.setTop (mkF m 6 #[rv a1, rv a2, rv a3, rv a4, rv a5] [(.ref a2), (.ref a1)]))
  obtain ⟨T118, h118, X118, e118, W118, st118⟩ := putF X117 hx hZ hown (host := "") (Or.inl (hw _ (List.mem_of_getElem? (i := 38) rfl))) Via.refl e117 F_scheme_a1 E_a1 (Or.inr ⟨(hw _ (List.mem_of_getElem? (i := 39) rfl)), rfl, hnm⟩) (hw _ (List.mem_of_getElem? (i := 27) rfl)) (ty := (.object "java/lang/String")) (by decide) rfl rfl (g := (mkF m 6 #[rv a1, rv a2, rv a3, rv a4, rv a5] [(.ref a2), (.ref a1)])) rfl rfl (hb hby d5_6)
  refine own_by st118 ?_
  have F_scheme_a1_118 := F_scheme_a1.same W118
  have E_a1_118 := E_a1.wr W118
  have F_authority_a1_118 := F_authority_a1.other W118 (Or.inr (slot_ne (Or.inr (hw _ (List.mem_of_getElem? (i := 41) rfl))) (Or.inr (hw _ (List.mem_of_getElem? (i := 39) rfl))) (by decide) (t := (.object "java/lang/String")) (t' := (.object "java/lang/String")) (by decide) (by decide)))
  have F_path_a1_118 := F_path_a1.other W118 (Or.inr (slot_ne (Or.inr (hw _ (List.mem_of_getElem? (i := 43) rfl))) (Or.inr (hw _ (List.mem_of_getElem? (i := 39) rfl))) (by decide) (t := (.object "java/lang/String")) (t' := (.object "java/lang/String")) (by decide) (by decide)))
  have F_query_a1_118 := F_query_a1.other W118 (Or.inr (slot_ne (Or.inr (hw _ (List.mem_of_getElem? (i := 45) rfl))) (Or.inr (hw _ (List.mem_of_getElem? (i := 39) rfl))) (by decide) (t := (.object "java/lang/String")) (t' := (.object "java/lang/String")) (by decide) (by decide)))
  have N118 := Fr.snoc X118 N117 g_a1
  have Z118 : n0 ≤ h118.size := Nat.le_trans Z0 (Keep.of_wr W118).1
  have K118 := Kz.wr W118 (Or.inl (List.mem_of_getElem? (i := 0) rfl))
  show own_Fin _ _ _ _ (T118.setTop (mkF m 9 #[rv a1, rv a2, rv a3, rv a4, rv a5] []))
  refine own_go (XS.aloadN X118.here hx rfl (hb hby d5_9) rfl rfl (Steps.refl _)) ?_
  show own_Fin _ _ _ _ (T118.setTop (mkF m 10 #[rv a1, rv a2, rv a3, rv a4, rv a5] [(.ref a1)]))
  refine own_go (XS.aloadN X118.here hx rfl (hb hby d5_10) rfl rfl (Steps.refl _)) ?_
  show own_Fin _ _ _ _ (T118.setTop (mkF m 11 #[rv a1, rv a2, rv a3, rv a4, rv a5] [(.ref a3), (.ref a1)]))
  obtain ⟨T119, h119, X119, e119, W119, st119⟩ := putF X118 hx hZ hown (host := "") (Or.inl (hw _ (List.mem_of_getElem? (i := 40) rfl))) Via.refl e118 F_authority_a1_118 E_a1_118 (Or.inr ⟨(hw _ (List.mem_of_getElem? (i := 41) rfl)), rfl, hnm⟩) (hw _ (List.mem_of_getElem? (i := 27) rfl)) (ty := (.object "java/lang/String")) (by decide) rfl rfl (g := (mkF m 11 #[rv a1, rv a2, rv a3, rv a4, rv a5] [(.ref a3), (.ref a1)])) rfl rfl (hb hby d5_11)
  refine own_by st119 ?_
  have F_authority_a1_119 := F_authority_a1_118.same W119
  have E_a1_119 := E_a1_118.wr W119
  have F_scheme_a1_119 := F_scheme_a1_118.other W119 (Or.inr (slot_ne (Or.inr (hw _ (List.mem_of_getElem? (i := 39) rfl))) (Or.inr (hw _ (List.mem_of_getElem? (i := 41) rfl))) (by decide) (t := (.object "java/lang/String")) (t' := (.object "java/lang/String")) (by decide) (by decide)))
  have F_path_a1_119 := F_path_a1_118.other W119 (Or.inr (slot_ne (Or.inr (hw _ (List.mem_of_getElem? (i := 43) rfl))) (Or.inr (hw _ (List.mem_of_getElem? (i := 41) rfl))) (by decide) (t := (.object "java/lang/String")) (t' := (.object "java/lang/String")) (by decide) (by decide)))
  have F_query_a1_119 := F_query_a1_118.other W119 (Or.inr (slot_ne (Or.inr (hw _ (List.mem_of_getElem? (i := 45) rfl))) (Or.inr (hw _ (List.mem_of_getElem? (i := 41) rfl))) (by decide) (t := (.object "java/lang/String")) (t' := (.object "java/lang/String")) (by decide) (by decide)))
  have N119 := Fr.snoc X119 N118 g_a1
  have Z119 : n0 ≤ h119.size := Nat.le_trans Z118 (Keep.of_wr W119).1
  have K119 := K118.wr W119 (Or.inl (List.mem_of_getElem? (i := 0) rfl))
  show own_Fin _ _ _ _ (T119.setTop (mkF m 14 #[rv a1, rv a2, rv a3, rv a4, rv a5] []))
  refine own_go (XS.aloadN X119.here hx rfl (hb hby d5_14) rfl rfl (Steps.refl _)) ?_
  show own_Fin _ _ _ _ (T119.setTop (mkF m 15 #[rv a1, rv a2, rv a3, rv a4, rv a5] [(.ref a1)]))
  refine own_go (XS.aloadN X119.here hx rfl (hb hby d5_15) rfl rfl (Steps.refl _)) ?_
  show own_Fin _ _ _ _ (T119.setTop (mkF m 16 #[rv a1, rv a2, rv a3, rv a4, rv a5] [(.ref a4), (.ref a1)]))
  obtain ⟨T120, h120, X120, e120, W120, st120⟩ := putF X119 hx hZ hown (host := "") (Or.inl (hw _ (List.mem_of_getElem? (i := 42) rfl))) Via.refl e119 F_path_a1_119 E_a1_119 (Or.inr ⟨(hw _ (List.mem_of_getElem? (i := 43) rfl)), rfl, hnm⟩) (hw _ (List.mem_of_getElem? (i := 27) rfl)) (ty := (.object "java/lang/String")) (by decide) rfl rfl (g := (mkF m 16 #[rv a1, rv a2, rv a3, rv a4, rv a5] [(.ref a4), (.ref a1)])) rfl rfl (hb hby d5_16)
  refine own_by st120 ?_
  have F_path_a1_120 := F_path_a1_119.same W120
  have E_a1_120 := E_a1_119.wr W120
  have F_scheme_a1_120 := F_scheme_a1_119.other W120 (Or.inr (slot_ne (Or.inr (hw _ (List.mem_of_getElem? (i := 39) rfl))) (Or.inr (hw _ (List.mem_of_getElem? (i := 43) rfl))) (by decide) (t := (.object "java/lang/String")) (t' := (.object "java/lang/String")) (by decide) (by decide)))
  have F_authority_a1_120 := F_authority_a1_119.other W120 (Or.inr (slot_ne (Or.inr (hw _ (List.mem_of_getElem? (i := 41) rfl))) (Or.inr (hw _ (List.mem_of_getElem? (i := 43) rfl))) (by decide) (t := (.object "java/lang/String")) (t' := (.object "java/lang/String")) (by decide) (by decide)))
  have F_query_a1_120 := F_query_a1_119.other W120 (Or.inr (slot_ne (Or.inr (hw _ (List.mem_of_getElem? (i := 45) rfl))) (Or.inr (hw _ (List.mem_of_getElem? (i := 43) rfl))) (by decide) (t := (.object "java/lang/String")) (t' := (.object "java/lang/String")) (by decide) (by decide)))
  have N120 := Fr.snoc X120 N119 g_a1
  have Z120 : n0 ≤ h120.size := Nat.le_trans Z119 (Keep.of_wr W120).1
  have K120 := K119.wr W120 (Or.inl (List.mem_of_getElem? (i := 0) rfl))
  show own_Fin _ _ _ _ (T120.setTop (mkF m 19 #[rv a1, rv a2, rv a3, rv a4, rv a5] []))
  refine own_go (XS.aloadN X120.here hx rfl (hb hby d5_19) rfl rfl (Steps.refl _)) ?_
  show own_Fin _ _ _ _ (T120.setTop (mkF m 20 #[rv a1, rv a2, rv a3, rv a4, rv a5] [(.ref a1)]))
  refine own_go (XS.aload X120.here hx rfl (hb hby d5_20) rfl rfl (Steps.refl _)) ?_
  show own_Fin _ _ _ _ (T120.setTop (mkF m 22 #[rv a1, rv a2, rv a3, rv a4, rv a5] [(.ref a5), (.ref a1)]))
  obtain ⟨T121, h121, X121, e121, W121, st121⟩ := putF X120 hx hZ hown (host := "") (Or.inl (hw _ (List.mem_of_getElem? (i := 44) rfl))) Via.refl e120 F_query_a1_120 E_a1_120 (Or.inr ⟨(hw _ (List.mem_of_getElem? (i := 45) rfl)), rfl, hnm⟩) (hw _ (List.mem_of_getElem? (i := 27) rfl)) (ty := (.object "java/lang/String")) (by decide) rfl rfl (g := (mkF m 22 #[rv a1, rv a2, rv a3, rv a4, rv a5] [(.ref a5), (.ref a1)])) rfl rfl (hb hby d5_22)
  refine own_by st121 ?_
  have F_query_a1_121 := F_query_a1_120.same W121
  have E_a1_121 := E_a1_120.wr W121
  have F_scheme_a1_121 := F_scheme_a1_120.other W121 (Or.inr (slot_ne (Or.inr (hw _ (List.mem_of_getElem? (i := 39) rfl))) (Or.inr (hw _ (List.mem_of_getElem? (i := 45) rfl))) (by decide) (t := (.object "java/lang/String")) (t' := (.object "java/lang/String")) (by decide) (by decide)))
  have F_authority_a1_121 := F_authority_a1_120.other W121 (Or.inr (slot_ne (Or.inr (hw _ (List.mem_of_getElem? (i := 41) rfl))) (Or.inr (hw _ (List.mem_of_getElem? (i := 45) rfl))) (by decide) (t := (.object "java/lang/String")) (t' := (.object "java/lang/String")) (by decide) (by decide)))
  have F_path_a1_121 := F_path_a1_120.other W121 (Or.inr (slot_ne (Or.inr (hw _ (List.mem_of_getElem? (i := 43) rfl))) (Or.inr (hw _ (List.mem_of_getElem? (i := 45) rfl))) (by decide) (t := (.object "java/lang/String")) (t' := (.object "java/lang/String")) (by decide) (by decide)))
  have N121 := Fr.snoc X121 N120 g_a1
  have Z121 : n0 ≤ h121.size := Nat.le_trans Z120 (Keep.of_wr W121).1
  have K121 := K120.wr W121 (Or.inl (List.mem_of_getElem? (i := 0) rfl))
  show own_Fin _ _ _ _ (T121.setTop (mkF m 25 #[rv a1, rv a2, rv a3, rv a4, rv a5] []))
  obtain ⟨fs122, hr122, hrun122, hended122, hW122, hsame122⟩ := X121.leave (v := none) (fun _ => rfl)
  refine own_done (X121.returnOut hx Bd.returns (hb hby d5_25) hr122) hrun122 hended122 ⟨_, _, rfl, ?_, ⟨_, rfl⟩, hW122, hsame122.mono (by decide) (by decide)⟩
  show Qui_7 Z a1 a2 a3 a4 a5 h0 n0 _ T121.heap _
  rw [e121]
  exact ⟨rfl, N121, K121, E_a1_121, F_scheme_a1_121, F_authority_a1_121, F_path_a1_121, F_query_a1_121⟩
theorem d7_0 : decode prog_14_method_3_code 0 = .ok (.aload_n 0, 1) := by decide +kernel
theorem d7_1 : decode prog_14_method_3_code 1 = .ok (.getfield 7, 3) := by decide +kernel
theorem d7_4 : decode prog_14_method_3_code 4 = .ok (.ifnull 7, 3) := by decide +kernel
theorem d7_7 : decode prog_14_method_3_code 7 = .ok (.iconst 1, 1) := by decide +kernel
theorem d7_8 : decode prog_14_method_3_code 8 = .ok (.goto 4, 3) := by decide +kernel
theorem d7_11 : decode prog_14_method_3_code 11 = .ok (.iconst 0, 1) := by decide +kernel
theorem d7_12 : decode prog_14_method_3_code 12 = .ok (.ireturn, 1) := by decide +kernel
theorem ef_ia_0 (m : MethodId) (x0 : Addr) : entryFrame m #[(.ref x0)] 1 = mkF m 0 #[.val (.ref x0)] [] := by first | (simp [entryFrame, mkF, argsToLocals, Value.category]; done) | rfl
def Qia_0 (Z : State) (a1 : Addr) (h0 : Heap) (n0 : Nat) (v : Option Value) (h : Heap) (L : List Loc) : Prop := v = some (.int (0 : Int32)) ∧ Fr n0 L ∧ h = h0
abbrev Gia_0 (Z : State) (a1 : Addr) (h0 : Heap) (n0 : Nat) (s : State) : Outcome → State → Prop := fun o U' => ∃ v L, o = .returned v ∧ Qia_0 Z a1 h0 n0 v U'.heap L ∧ FrameEnd s o U' L ({ frames := 0, cells := 0, slots := 0, locals := 0 } : Room).cells ({ frames := 0, cells := 0, slots := 0, locals := 0 } : Room).slots
set_option maxRecDepth 65536 in
set_option maxHeartbeats 40000000 in
theorem rmia_0 (l : Launch) (Z : State) (a0 : Array Value) (hw : ∀ d ∈ tables_1, d.before a0 Z = true) (ws : List Jvm.Cond) (a1 : Addr) (h0 : Heap) (n0 : Nat) (Z0 : n0 ≤ h0.size) (F_scheme_a1 : Fld Z h0 a1 "com/example/pryority/pryority/UriReference" "scheme" "Ljava/lang/String;" .null) :
    MetFree l (⟨"com/example/pryority/pryority/UriReference", "isAbsolute", "()Z"⟩ : MethodName) (head1 (Jvm.Cond.code (⟨"com/example/pryority/pryority/UriReference", "isAbsolute", "()Z"⟩ : MethodName) prog_14_method_3_code 1 (some .boolean) :: ws) ({ frames := 0, cells := 0, slots := 0, locals := 0 } : Room)) (fun a U => a = #[(.ref a1)] ∧ Z.Warmed39 U.vm ∧ U.heap = h0) (fun _ _ _ _ _ => True) (fun _ U o U' => ∃ v L, o = .returned v ∧ Qia_0 Z a1 h0 n0 v U'.heap L ∧ FrameEnd U o U' L ({ frames := 0, cells := 0, slots := 0, locals := 0 } : Room).cells ({ frames := 0, cells := 0, slots := 0, locals := 0 } : Room).slots) := by
  refine MetFree.of_bodySF (plainFor_of_name pn_com_example_pryority_pryority_UriReference) hisR ?_
  intro p e s m args below meth c s₁ Bd hml0 hP hK
  obtain ⟨rfl, hZ, hh⟩ := hP
  have hx := Bd.exec
  have hby := Bd.bytes
  have hml : c.maxLocals = 1 := hml0
  have hown : s.vm.findClass "com/example/pryority/pryority/UriReference" = some m.cls := findClass_of_methodNamed Bd.named
  have hnm := (name_of_methodNamed Bd.named Bd.method).1
  have X0 : Stand p l e ({ frames := 0, cells := 0, slots := 0, locals := 0 } : Room) s m #[(.ref a1)] below meth c s₁ [] 0 0 := Stand.of_body Bd
  have e0 : s₁.heap = h0 := by rw [← hh, Bd.state]; rfl
  have es0 : s.heap = h0 := hh
  have N0 := Fr.nil n0
  show own_Fin p e below (Gia_0 Z a1 h0 n0 s) (s₁.setTop (entryFrame m #[(.ref a1)] 1))
  rw [ef_ia_0 m a1]
  refine own_go (XS.aloadN X0.here hx rfl (hb hby d7_0) rfl rfl (Steps.refl _)) ?_
  show own_Fin _ _ _ _ (s₁.setTop (mkF m 1 #[rv a1] [(.ref a1)]))
  obtain ⟨T123, X123, e123, st123⟩ := getF X0 hx hZ hown (host := "") (Or.inl (hw _ (List.mem_of_getElem? (i := 38) rfl))) Via.refl e0 F_scheme_a1 (g := (mkF m 1 #[rv a1] [(.ref a1)])) rfl rfl (hb hby d7_1)
  refine own_by st123 ?_
  show own_Fin _ _ _ _ (T123.setTop (mkF m 4 #[rv a1] [.null]))
  refine own_go (XS.ifnullYes X123.here hx rfl (pc0 := 4) (pc' := 11) rfl (hb hby d7_4) rfl (by decide) (by decide) (Steps.refl _)) ?_
  show own_Fin _ _ _ _ (T123.setTop (mkF m 11 #[rv a1] []))
  refine own_go (XS.iconst X123.here hx rfl (hb hby d7_11) (Steps.refl _)) ?_
  show own_Fin _ _ _ _ (T123.setTop (mkF m 12 #[rv a1] [(.int (0 : Int32))]))
  obtain ⟨fs124, hr124, hrun124, hended124, hW124, hsame124⟩ := X123.leave (v := some (.int (0 : Int32))) (fun h => by rw [Bd.returns] at h; cases h)
  refine own_done (retN X123 hx (t := .boolean) Bd.returns (by simp) (hb hby d7_12) hr124) hrun124 hended124 ⟨_, _, rfl, ?_, ⟨_, rfl⟩, hW124, hsame124.mono (by decide) (by decide)⟩
  show Qia_0 Z a1 h0 n0 _ T123.heap _
  rw [e123]
  exact ⟨rfl, N0, rfl⟩
theorem ef_ia_1 (m : MethodId) (x0 : Addr) : entryFrame m #[(.ref x0)] 1 = mkF m 0 #[.val (.ref x0)] [] := by first | (simp [entryFrame, mkF, argsToLocals, Value.category]; done) | rfl
def Qia_1 (Z : State) (a1 : Addr) (x : Addr) (h0 : Heap) (n0 : Nat) (v : Option Value) (h : Heap) (L : List Loc) : Prop := v = some (.int (1 : Int32)) ∧ Fr n0 L ∧ h = h0
abbrev Gia_1 (Z : State) (a1 : Addr) (x : Addr) (h0 : Heap) (n0 : Nat) (s : State) : Outcome → State → Prop := fun o U' => ∃ v L, o = .returned v ∧ Qia_1 Z a1 x h0 n0 v U'.heap L ∧ FrameEnd s o U' L ({ frames := 0, cells := 0, slots := 0, locals := 0 } : Room).cells ({ frames := 0, cells := 0, slots := 0, locals := 0 } : Room).slots
set_option maxRecDepth 65536 in
set_option maxHeartbeats 40000000 in
theorem rmia_1 (l : Launch) (Z : State) (a0 : Array Value) (hw : ∀ d ∈ tables_1, d.before a0 Z = true) (ws : List Jvm.Cond) (a1 : Addr) (x : Addr) (h0 : Heap) (n0 : Nat) (Z0 : n0 ≤ h0.size) (F_scheme_a1 : Fld Z h0 a1 "com/example/pryority/pryority/UriReference" "scheme" "Ljava/lang/String;" (.ref x)) :
    MetFree l (⟨"com/example/pryority/pryority/UriReference", "isAbsolute", "()Z"⟩ : MethodName) (head1 (Jvm.Cond.code (⟨"com/example/pryority/pryority/UriReference", "isAbsolute", "()Z"⟩ : MethodName) prog_14_method_3_code 1 (some .boolean) :: ws) ({ frames := 0, cells := 0, slots := 0, locals := 0 } : Room)) (fun a U => a = #[(.ref a1)] ∧ Z.Warmed39 U.vm ∧ U.heap = h0) (fun _ _ _ _ _ => True) (fun _ U o U' => ∃ v L, o = .returned v ∧ Qia_1 Z a1 x h0 n0 v U'.heap L ∧ FrameEnd U o U' L ({ frames := 0, cells := 0, slots := 0, locals := 0 } : Room).cells ({ frames := 0, cells := 0, slots := 0, locals := 0 } : Room).slots) := by
  refine MetFree.of_bodySF (plainFor_of_name pn_com_example_pryority_pryority_UriReference) hisR ?_
  intro p e s m args below meth c s₁ Bd hml0 hP hK
  obtain ⟨rfl, hZ, hh⟩ := hP
  have hx := Bd.exec
  have hby := Bd.bytes
  have hml : c.maxLocals = 1 := hml0
  have hown : s.vm.findClass "com/example/pryority/pryority/UriReference" = some m.cls := findClass_of_methodNamed Bd.named
  have hnm := (name_of_methodNamed Bd.named Bd.method).1
  have X0 : Stand p l e ({ frames := 0, cells := 0, slots := 0, locals := 0 } : Room) s m #[(.ref a1)] below meth c s₁ [] 0 0 := Stand.of_body Bd
  have e0 : s₁.heap = h0 := by rw [← hh, Bd.state]; rfl
  have es0 : s.heap = h0 := hh
  have N0 := Fr.nil n0
  show own_Fin p e below (Gia_1 Z a1 x h0 n0 s) (s₁.setTop (entryFrame m #[(.ref a1)] 1))
  rw [ef_ia_1 m a1]
  refine own_go (XS.aloadN X0.here hx rfl (hb hby d7_0) rfl rfl (Steps.refl _)) ?_
  show own_Fin _ _ _ _ (s₁.setTop (mkF m 1 #[rv a1] [(.ref a1)]))
  obtain ⟨T125, X125, e125, st125⟩ := getF X0 hx hZ hown (host := "") (Or.inl (hw _ (List.mem_of_getElem? (i := 38) rfl))) Via.refl e0 F_scheme_a1 (g := (mkF m 1 #[rv a1] [(.ref a1)])) rfl rfl (hb hby d7_1)
  refine own_by st125 ?_
  show own_Fin _ _ _ _ (T125.setTop (mkF m 4 #[rv a1] [(.ref x)]))
  refine own_go (XS.ifnullNo X125.here hx rfl (hb hby d7_4) rfl (Steps.refl _)) ?_
  show own_Fin _ _ _ _ (T125.setTop (mkF m 7 #[rv a1] []))
  refine own_go (XS.iconst X125.here hx rfl (hb hby d7_7) (Steps.refl _)) ?_
  show own_Fin _ _ _ _ (T125.setTop (mkF m 8 #[rv a1] [(.int (1 : Int32))]))
  refine own_go (XS.goto X125.here hx rfl (pc0 := 8) (pc' := 12) rfl (hb hby d7_8) (by decide) (by decide) (Steps.refl _)) ?_
  show own_Fin _ _ _ _ (T125.setTop (mkF m 12 #[rv a1] [(.int (1 : Int32))]))
  obtain ⟨fs126, hr126, hrun126, hended126, hW126, hsame126⟩ := X125.leave (v := some (.int (1 : Int32))) (fun h => by rw [Bd.returns] at h; cases h)
  refine own_done (retN X125 hx (t := .boolean) Bd.returns (by simp) (hb hby d7_12) hr126) hrun126 hended126 ⟨_, _, rfl, ?_, ⟨_, rfl⟩, hW126, hsame126.mono (by decide) (by decide)⟩
  show Qia_1 Z a1 x h0 n0 _ T125.heap _
  rw [e125]
  exact ⟨rfl, N0, rfl⟩
theorem ef_0 (m : MethodId) (x0 : Int32) (x1 : Int32) (x2 : Int32) (x3 : Int32) (x4 : Int32) : entryFrame m #[(.int x0), (.int x1), (.int x2), (.int x3), (.int x4)] maxLocals = mkF m 0 #[.val (.int x0), .val (.int x1), .val (.int x2), .val (.int x3), .val (.int x4), .unset, .unset, .unset, .unset, .unset, .unset, .unset, .unset] [] := by first | (simp [entryFrame, mkF, argsToLocals, Value.category, maxLocals]; done) | rfl
def Q0 (Z : State) (p1 : Int32) (p2 : Int32) (p3 : Int32) (p4 : Int32) (p5 : Int32) (cs : Int32) (h0 : Heap) (n0 : Nat) (v : Option Value) (h : Heap) (L : List Loc) : Prop := v = some (.int 1) ∧ Fr n0 L
abbrev G0 (Z : State) (p1 : Int32) (p2 : Int32) (p3 : Int32) (p4 : Int32) (p5 : Int32) (cs : Int32) (h0 : Heap) (n0 : Nat) (s : State) : Outcome → State → Prop := fun o U' => ∃ v L, o = .returned v ∧ Q0 Z p1 p2 p3 p4 p5 cs h0 n0 v U'.heap L ∧ ReturnedEndW s o U' L 40 1216
theorem pd__28_I_29_Ljava_2f_lang_2f_String_3b_ : parseMethodDescriptor "(I)Ljava/lang/String;" = some ⟨[.int], some (.object "java/lang/String")⟩ := by decide +kernel
theorem pd__28_Ljava_2f_lang_2f_String_3b_Ljava_2f_lang_2f_String_3b_Ljava_2f_lang_2f_String_3b_Ljava_2f_lang_2f_String_3b__29_V : parseMethodDescriptor "(Ljava/lang/String;Ljava/lang/String;Ljava/lang/String;Ljava/lang/String;)V" = some ⟨[(.object "java/lang/String"), (.object "java/lang/String"), (.object "java/lang/String"), (.object "java/lang/String")], none⟩ := by decide +kernel
theorem pd__28__29_Z : parseMethodDescriptor "()Z" = some ⟨[], some .boolean⟩ := by decide +kernel
set_option maxRecDepth 65536 in
set_option maxHeartbeats 40000000 in
theorem rm0 (l : Launch) (Z : State) (a0 : Array Value) (hw : ∀ d ∈ tables_1, d.before a0 Z = true) (ws : List Jvm.Cond) (p1 : Int32) (p2 : Int32) (p3 : Int32) (p4 : Int32) (p5 : Int32) (cs : Int32) (h0 : Heap) (n0 : Nat) (Z0 : n0 ≤ h0.size) (O0 : Old Z n0 h0) (S_COMPACT_STRINGS : Sta Z Z.heap "java/lang/String" "COMPACT_STRINGS" "Z" (.int cs)) (hcs : ¬ cs = (0 : Int32)) (hn0 : n0 = h0.size) (hh7 : Jvm.Lit.constHeld Z "java/lang/String" 7) (hcw : Jvm.Lit.compactW.before a0 Z = true) :
    MetFree l x (head1 (Jvm.Cond.code x code maxLocals ret :: ws) room_1) (fun a U => a = #[(.int p1), (.int p2), (.int p3), (.int p4), (.int p5)] ∧ (Z.Warmed39 U.vm ∧ Z = U) ∧ U.heap = h0) (fun _ _ _ _ _ => True) (fun _ U o U' => ∃ v L, o = .returned v ∧ Q0 Z p1 p2 p3 p4 p5 cs h0 n0 v U'.heap L ∧ ReturnedEndW U o U' L 40 1216) := by
  refine MetFree.of_bodySF (plainFor_of_name pn_com_example_pryority_pryority_UriReferenceIsAbsolutePinLaw) hisR ?_
  intro p e s m args below meth c s₁ Bd hml0 hP hK
  obtain ⟨rfl, ⟨hZ, hZs⟩, hh⟩ := hP
  have hx := Bd.exec
  have hby := Bd.bytes
  have hml : c.maxLocals = 13 := hml0
  have hown : s.vm.findClass "com/example/pryority/pryority/UriReferenceIsAbsolutePinLaw" = some m.cls := findClass_of_methodNamed Bd.named
  have hnm := (name_of_methodNamed Bd.named Bd.method).1
  have X0 : Stand p l e room_1 s m #[(.int p1), (.int p2), (.int p3), (.int p4), (.int p5)] below meth c s₁ [] 0 0 := Stand.of_body Bd
  have e0 : s₁.heap = h0 := by rw [← hh, Bd.state]; rfl
  have es0 : s.heap = h0 := hh
  have N0 := Fr.nil n0
  show own_Fin p e below (G0 Z p1 p2 p3 p4 p5 cs h0 n0 s) (s₁.setTop (entryFrame m #[(.int p1), (.int p2), (.int p3), (.int p4), (.int p5)] maxLocals))
  rw [ef_0 m p1 p2 p3 p4 p5]
  have X0w : Stand p l e room_1 (s.setVm s.vm) m #[(.int p1), (.int p2), (.int p3), (.int p4), (.int p5)] below meth c s₁ [] 0 0 := X0
  have hS0 : s.Since s.vm 0 := (State.WarmedH.refl s).since 0
  have hk0 : 0 ≤ h0.size := Nat.zero_le _
  have IB0 : IB Z s.vm [] := hZs ▸ IB.start
  have hK0 : own_K Z h0 s.vm := Or.inl IB0
  refine own_go (XS.iloadN X0w.here hx rfl (hb hby at_0) rfl (Steps.refl _)) ?_
  show own_Fin _ _ _ _ (s₁.setTop (mkF m 1 #[iv p1, iv p2, iv p3, iv p4, iv p5, .unset, .unset, .unset, .unset, .unset, .unset, .unset, .unset] [(.int p1)]))
  refine own_go (XS.iconst X0w.here hx rfl (hb hby at_1) (Steps.refl _)) ?_
  show own_Fin _ _ _ _ (s₁.setTop (mkF m 2 #[iv p1, iv p2, iv p3, iv p4, iv p5, .unset, .unset, .unset, .unset, .unset, .unset, .unset, .unset] [(.int (1 : Int32)), (.int p1)]))
  refine own_go (XS.iand X0w.here hx rfl (hb hby at_2) rfl (Steps.refl _)) ?_
  show own_Fin _ _ _ _ (s₁.setTop (mkF m 3 #[iv p1, iv p2, iv p3, iv p4, iv p5, .unset, .unset, .unset, .unset, .unset, .unset, .unset, .unset] [(.int (p1 &&& (1 : Int32)))]))
  by_cases c3_127 : (p1 &&& (1 : Int32)) = (0 : Int32)
  · refine own_go (XS.ifYes X0w.here hx rfl (pc0 := 3) (pc' := 10) rfl (hb hby at_3) rfl ((if0 _ _).trans (teq c3_127).1) (by decide) (by decide) (Steps.refl _)) ?_
    show own_Fin _ _ _ _ (s₁.setTop (mkF m 10 #[iv p1, iv p2, iv p3, iv p4, iv p5, .unset, .unset, .unset, .unset, .unset, .unset, .unset, .unset] []))
    refine own_go (XS.iconst X0w.here hx rfl (hb hby at_10) (Steps.refl _)) ?_
    show own_Fin _ _ _ _ (s₁.setTop (mkF m 11 #[iv p1, iv p2, iv p3, iv p4, iv p5, .unset, .unset, .unset, .unset, .unset, .unset, .unset, .unset] [(.int (0 : Int32))]))
    refine own_go (XS.istore X0w.here hx rfl (hb hby at_11) rfl rfl (Steps.refl _)) ?_
    show own_Fin _ _ _ _ (s₁.setTop (mkF m 13 #[iv p1, iv p2, iv p3, iv p4, iv p5, iv (0 : Int32), .unset, .unset, .unset, .unset, .unset, .unset, .unset] []))
    refine own_go (XS.iloadN X0w.here hx rfl (hb hby at_13) rfl (Steps.refl _)) ?_
    show own_Fin _ _ _ _ (s₁.setTop (mkF m 14 #[iv p1, iv p2, iv p3, iv p4, iv p5, iv (0 : Int32), .unset, .unset, .unset, .unset, .unset, .unset, .unset] [(.int p1)]))
    refine own_go (XS.iconst X0w.here hx rfl (hb hby at_14) (Steps.refl _)) ?_
    show own_Fin _ _ _ _ (s₁.setTop (mkF m 15 #[iv p1, iv p2, iv p3, iv p4, iv p5, iv (0 : Int32), .unset, .unset, .unset, .unset, .unset, .unset, .unset] [(.int (2 : Int32)), (.int p1)]))
    refine own_go (XS.iand X0w.here hx rfl (hb hby at_15) rfl (Steps.refl _)) ?_
    show own_Fin _ _ _ _ (s₁.setTop (mkF m 16 #[iv p1, iv p2, iv p3, iv p4, iv p5, iv (0 : Int32), .unset, .unset, .unset, .unset, .unset, .unset, .unset] [(.int (p1 &&& (2 : Int32)))]))
    by_cases c16_128 : (p1 &&& (2 : Int32)) = (0 : Int32)
    · refine own_go (XS.ifYes X0w.here hx rfl (pc0 := 16) (pc' := 23) rfl (hb hby at_16) rfl ((if0 _ _).trans (teq c16_128).1) (by decide) (by decide) (Steps.refl _)) ?_
      show own_Fin _ _ _ _ (s₁.setTop (mkF m 23 #[iv p1, iv p2, iv p3, iv p4, iv p5, iv (0 : Int32), .unset, .unset, .unset, .unset, .unset, .unset, .unset] []))
      refine own_go (XS.iconst X0w.here hx rfl (hb hby at_23) (Steps.refl _)) ?_
      show own_Fin _ _ _ _ (s₁.setTop (mkF m 24 #[iv p1, iv p2, iv p3, iv p4, iv p5, iv (0 : Int32), .unset, .unset, .unset, .unset, .unset, .unset, .unset] [(.int (0 : Int32))]))
      refine own_go (XS.istore X0w.here hx rfl (hb hby at_24) rfl rfl (Steps.refl _)) ?_
      show own_Fin _ _ _ _ (s₁.setTop (mkF m 26 #[iv p1, iv p2, iv p3, iv p4, iv p5, iv (0 : Int32), iv (0 : Int32), .unset, .unset, .unset, .unset, .unset, .unset] []))
      refine own_go (XS.iloadN X0w.here hx rfl (hb hby at_26) rfl (Steps.refl _)) ?_
      show own_Fin _ _ _ _ (s₁.setTop (mkF m 27 #[iv p1, iv p2, iv p3, iv p4, iv p5, iv (0 : Int32), iv (0 : Int32), .unset, .unset, .unset, .unset, .unset, .unset] [(.int p1)]))
      refine own_go (XS.iconst X0w.here hx rfl (hb hby at_27) (Steps.refl _)) ?_
      show own_Fin _ _ _ _ (s₁.setTop (mkF m 28 #[iv p1, iv p2, iv p3, iv p4, iv p5, iv (0 : Int32), iv (0 : Int32), .unset, .unset, .unset, .unset, .unset, .unset] [(.int (4 : Int32)), (.int p1)]))
      refine own_go (XS.iand X0w.here hx rfl (hb hby at_28) rfl (Steps.refl _)) ?_
      show own_Fin _ _ _ _ (s₁.setTop (mkF m 29 #[iv p1, iv p2, iv p3, iv p4, iv p5, iv (0 : Int32), iv (0 : Int32), .unset, .unset, .unset, .unset, .unset, .unset] [(.int (p1 &&& (4 : Int32)))]))
      by_cases c29_129 : (p1 &&& (4 : Int32)) = (0 : Int32)
      · refine own_go (XS.ifYes X0w.here hx rfl (pc0 := 29) (pc' := 36) rfl (hb hby at_29) rfl ((if0 _ _).trans (teq c29_129).1) (by decide) (by decide) (Steps.refl _)) ?_
        show own_Fin _ _ _ _ (s₁.setTop (mkF m 36 #[iv p1, iv p2, iv p3, iv p4, iv p5, iv (0 : Int32), iv (0 : Int32), .unset, .unset, .unset, .unset, .unset, .unset] []))
        refine own_go (XS.iconst X0w.here hx rfl (hb hby at_36) (Steps.refl _)) ?_
        show own_Fin _ _ _ _ (s₁.setTop (mkF m 37 #[iv p1, iv p2, iv p3, iv p4, iv p5, iv (0 : Int32), iv (0 : Int32), .unset, .unset, .unset, .unset, .unset, .unset] [(.int (0 : Int32))]))
        refine own_go (XS.istore X0w.here hx rfl (hb hby at_37) rfl rfl (Steps.refl _)) ?_
        show own_Fin _ _ _ _ (s₁.setTop (mkF m 39 #[iv p1, iv p2, iv p3, iv p4, iv p5, iv (0 : Int32), iv (0 : Int32), iv (0 : Int32), .unset, .unset, .unset, .unset, .unset] []))
        refine own_go (XS.iload X0w.here hx rfl (hb hby at_39) rfl (Steps.refl _)) ?_
        show own_Fin _ _ _ _ (s₁.setTop (mkF m 41 #[iv p1, iv p2, iv p3, iv p4, iv p5, iv (0 : Int32), iv (0 : Int32), iv (0 : Int32), .unset, .unset, .unset, .unset, .unset] [(.int (0 : Int32))]))
        refine own_go (XS.ifYes X0w.here hx rfl (pc0 := 41) (pc' := 51) rfl (hb hby at_41) rfl ((if0 _ _).trans (teq (by decide : (0 : Int32) = (0 : Int32))).1) (by decide) (by decide) (Steps.refl _)) ?_
        show own_Fin _ _ _ _ (s₁.setTop (mkF m 51 #[iv p1, iv p2, iv p3, iv p4, iv p5, iv (0 : Int32), iv (0 : Int32), iv (0 : Int32), .unset, .unset, .unset, .unset, .unset] []))
        refine own_go (XS.aconstNull X0w.here hx rfl (hb hby at_51) (Steps.refl _)) ?_
        show own_Fin _ _ _ _ (s₁.setTop (mkF m 52 #[iv p1, iv p2, iv p3, iv p4, iv p5, iv (0 : Int32), iv (0 : Int32), iv (0 : Int32), .unset, .unset, .unset, .unset, .unset] [.null]))
        refine own_go (XS.astore X0w.here hx rfl (hb hby at_52) rfl rfl rfl (Steps.refl _)) ?_
        show own_Fin _ _ _ _ (s₁.setTop (mkF m 54 #[iv p1, iv p2, iv p3, iv p4, iv p5, iv (0 : Int32), iv (0 : Int32), iv (0 : Int32), .val .null, .unset, .unset, .unset, .unset] []))
        refine own_go (XS.iload X0w.here hx rfl (hb hby at_54) rfl (Steps.refl _)) ?_
        show own_Fin _ _ _ _ (s₁.setTop (mkF m 56 #[iv p1, iv p2, iv p3, iv p4, iv p5, iv (0 : Int32), iv (0 : Int32), iv (0 : Int32), .val .null, .unset, .unset, .unset, .unset] [(.int (0 : Int32))]))
        refine own_go (XS.ifYes X0w.here hx rfl (pc0 := 56) (pc' := 66) rfl (hb hby at_56) rfl ((if0 _ _).trans (teq (by decide : (0 : Int32) = (0 : Int32))).1) (by decide) (by decide) (Steps.refl _)) ?_
        show own_Fin _ _ _ _ (s₁.setTop (mkF m 66 #[iv p1, iv p2, iv p3, iv p4, iv p5, iv (0 : Int32), iv (0 : Int32), iv (0 : Int32), .val .null, .unset, .unset, .unset, .unset] []))
        refine own_go (XS.aconstNull X0w.here hx rfl (hb hby at_66) (Steps.refl _)) ?_
        show own_Fin _ _ _ _ (s₁.setTop (mkF m 67 #[iv p1, iv p2, iv p3, iv p4, iv p5, iv (0 : Int32), iv (0 : Int32), iv (0 : Int32), .val .null, .unset, .unset, .unset, .unset] [.null]))
        refine own_go (XS.astore X0w.here hx rfl (hb hby at_67) rfl rfl rfl (Steps.refl _)) ?_
        show own_Fin _ _ _ _ (s₁.setTop (mkF m 69 #[iv p1, iv p2, iv p3, iv p4, iv p5, iv (0 : Int32), iv (0 : Int32), iv (0 : Int32), .val .null, .val .null, .unset, .unset, .unset] []))
        refine own_go (XS.iloadN X0w.here hx rfl (hb hby at_69) rfl (Steps.refl _)) ?_
        show own_Fin _ _ _ _ (s₁.setTop (mkF m 70 #[iv p1, iv p2, iv p3, iv p4, iv p5, iv (0 : Int32), iv (0 : Int32), iv (0 : Int32), .val .null, .val .null, .unset, .unset, .unset] [(.int p4)]))
        obtain ⟨_, _, ⟨T130, L130, k130, n130⟩, -, X130, hs2130, hgr130, ⟨Lc130, ⟨hQ130, hK130⟩, l130, y130, z130⟩, st130⟩ := callSS X0w hx (y := (⟨"com/example/pryority/pryority/UriReferenceIsAbsolutePinLaw", "draw", "(I)Ljava/lang/String;"⟩ : MethodName)) hown (mvT hZ (hw _ (List.mem_of_getElem? (i := 0) rfl))) (mvT hZ (hw _ (List.mem_of_getElem? (i := 1) rfl))) (mvT hZ (hw _ (List.mem_of_getElem? (i := 2) rfl))) (mvT hZ (hw _ (List.mem_of_getElem? (i := 3) rfl))) (by decide) (own_backK (W := 0) (rmdr l Z a0 hw [] p4 cs h0 n0 Z0 O0 S_COMPACT_STRINGS hcs hh7 hcw) hZ (hw _ (List.mem_of_getElem? (i := 3) rfl)) (hw _ (List.mem_of_getElem? (i := 2) rfl)) (by decide) (by decide)) (g := (mkF m 70 #[iv p1, iv p2, iv p3, iv p4, iv p5, iv (0 : Int32), iv (0 : Int32), iv (0 : Int32), .val .null, .val .null, .unset, .unset, .unset] [(.int p4)])) rfl (by rw [hml]; rfl) (argsL := [(.int p4)]) (rest := []) (lenOf pd__28_I_29_Ljava_2f_lang_2f_String_3b_ rfl) rfl (by show 2 * 0 + _ ≤ _; exact Nat.le_of_eq rfl) (hb hby at_70) (fun _ hv => ⟨rfl, e0, (by decide : 0 + 4 ≤ _), (by decide : 0 + 10 ≤ _), own_K.warm hK0 hv⟩)
        dsimp only [Pt.U, Pt.locs, Pt.cells, Pt.slots] at X130 l130 y130 z130 st130 hQ130 hs2130 hgr130 hK130
        subst l130 y130 z130
        obtain ⟨Xr130, hS130, hZ130, hown130⟩ := rebS hS0 (show 0 ≤ s₁.heap.size by rw [e0]; exact hk0) X130 hs2130 hgr130 hZ hown
        refine own_go st130 ?_
        obtain ⟨r_130, rfl, Nq130, K130, g_r_130, sb_r_130, r130_0⟩ := hQ130
        have Od130 := O0.keep K130 all0
        have Z130 : n0 ≤ T130.heap.size := Nat.le_trans Z0 K130.1
        have hk130 : 0 ≤ T130.heap.size := Nat.le_trans hk0 K130.1
        have hkr130 : T130.heap.size ≤ T130.heap.size := Nat.le_refl _
        have N130 := Fr.app N0 Nq130
        show own_Fin _ _ _ _ (T130.setTop (mkF m 73 #[iv p1, iv p2, iv p3, iv p4, iv p5, iv (0 : Int32), iv (0 : Int32), iv (0 : Int32), .val .null, .val .null, .unset, .unset, .unset] [(.ref r_130)]))
        refine own_go (XS.astore Xr130.here hx rfl (hb hby at_73) rfl rfl rfl (Steps.refl _)) ?_
        show own_Fin _ _ _ _ (T130.setTop (mkF m 75 #[iv p1, iv p2, iv p3, iv p4, iv p5, iv (0 : Int32), iv (0 : Int32), iv (0 : Int32), .val .null, .val .null, rv r_130, .unset, .unset] []))
        refine own_go (XS.iload Xr130.here hx rfl (hb hby at_75) rfl (Steps.refl _)) ?_
        show own_Fin _ _ _ _ (T130.setTop (mkF m 77 #[iv p1, iv p2, iv p3, iv p4, iv p5, iv (0 : Int32), iv (0 : Int32), iv (0 : Int32), .val .null, .val .null, rv r_130, .unset, .unset] [(.int (0 : Int32))]))
        refine own_go (XS.ifYes Xr130.here hx rfl (pc0 := 77) (pc' := 88) rfl (hb hby at_77) rfl ((if0 _ _).trans (teq (by decide : (0 : Int32) = (0 : Int32))).1) (by decide) (by decide) (Steps.refl _)) ?_
        show own_Fin _ _ _ _ (T130.setTop (mkF m 88 #[iv p1, iv p2, iv p3, iv p4, iv p5, iv (0 : Int32), iv (0 : Int32), iv (0 : Int32), .val .null, .val .null, rv r_130, .unset, .unset] []))
        refine own_go (XS.aconstNull Xr130.here hx rfl (hb hby at_88) (Steps.refl _)) ?_
        show own_Fin _ _ _ _ (T130.setTop (mkF m 89 #[iv p1, iv p2, iv p3, iv p4, iv p5, iv (0 : Int32), iv (0 : Int32), iv (0 : Int32), .val .null, .val .null, rv r_130, .unset, .unset] [.null]))
        refine own_go (XS.astore Xr130.here hx rfl (hb hby at_89) rfl rfl rfl (Steps.refl _)) ?_
        show own_Fin _ _ _ _ (T130.setTop (mkF m 91 #[iv p1, iv p2, iv p3, iv p4, iv p5, iv (0 : Int32), iv (0 : Int32), iv (0 : Int32), .val .null, .val .null, rv r_130, .val .null, .unset] []))
        obtain ⟨T131, h131, X131, e131, E131, A131, D131, U131, st131⟩ := newO Xr130 hx hZ130 hown130 (hw _ (List.mem_of_getElem? (i := 26) rfl)) (hw _ (List.mem_of_getElem? (i := 27) rfl)) (hw _ (List.mem_of_getElem? (i := 28) rfl)) rfl (g := (mkF m 91 #[iv p1, iv p2, iv p3, iv p4, iv p5, iv (0 : Int32), iv (0 : Int32), iv (0 : Int32), .val .null, .val .null, rv r_130, .val .null, .unset] [])) rfl (hb hby at_91) (by decide) (by decide)
        obtain ⟨b131, g131⟩ : ∃ z, z = T130.heap.size := ⟨_, rfl⟩
        rw [← g131] at A131 D131 U131 st131
        refine own_by st131 ?_
        have ne_r_130_b131 : r_130 ≠ b131 := Nat.ne_of_lt (Nat.lt_of_lt_of_eq r130_0.lt g131.symm)
        have Od131 := Od130.ext E131
        have r130_0_131 := r130_0.ext E131
        have g_b131 : n0 ≤ b131 := Nat.le_trans Z130 (Nat.le_of_eq g131.symm)
        have Z131 : n0 ≤ h131.size := Nat.le_trans Z130 E131.1
        have hk131 : T130.heap.size ≤ h131.size := Nat.le_trans hkr130 E131.1
        have E_b131 := A131
        have F_scheme_b131 : Fld Z h131 b131 "com/example/pryority/pryority/UriReference" "scheme" "Ljava/lang/String;" .null := D131 (Or.inr (hw _ (List.mem_of_getElem? (i := 39) rfl))) (ty := (.object "java/lang/String")) (by decide)
        have F_authority_b131 : Fld Z h131 b131 "com/example/pryority/pryority/UriReference" "authority" "Ljava/lang/String;" .null := D131 (Or.inr (hw _ (List.mem_of_getElem? (i := 41) rfl))) (ty := (.object "java/lang/String")) (by decide)
        have F_path_b131 : Fld Z h131 b131 "com/example/pryority/pryority/UriReference" "path" "Ljava/lang/String;" .null := D131 (Or.inr (hw _ (List.mem_of_getElem? (i := 43) rfl))) (ty := (.object "java/lang/String")) (by decide)
        have F_query_b131 : Fld Z h131 b131 "com/example/pryority/pryority/UriReference" "query" "Ljava/lang/String;" .null := D131 (Or.inr (hw _ (List.mem_of_getElem? (i := 45) rfl))) (ty := (.object "java/lang/String")) (by decide)
        show own_Fin _ _ _ _ (T131.setTop (mkF m 94 #[iv p1, iv p2, iv p3, iv p4, iv p5, iv (0 : Int32), iv (0 : Int32), iv (0 : Int32), .val .null, .val .null, rv r_130, .val .null, .unset] [(.ref b131)]))
        refine own_go (XS.dup X131.here hx rfl (hb hby at_94) rfl rfl (Steps.refl _)) ?_
        show own_Fin _ _ _ _ (T131.setTop (mkF m 95 #[iv p1, iv p2, iv p3, iv p4, iv p5, iv (0 : Int32), iv (0 : Int32), iv (0 : Int32), .val .null, .val .null, rv r_130, .val .null, .unset] [(.ref b131), (.ref b131)]))
        refine own_go (XS.aload X131.here hx rfl (hb hby at_95) rfl rfl (Steps.refl _)) ?_
        show own_Fin _ _ _ _ (T131.setTop (mkF m 97 #[iv p1, iv p2, iv p3, iv p4, iv p5, iv (0 : Int32), iv (0 : Int32), iv (0 : Int32), .val .null, .val .null, rv r_130, .val .null, .unset] [.null, (.ref b131), (.ref b131)]))
        refine own_go (XS.aload X131.here hx rfl (hb hby at_97) rfl rfl (Steps.refl _)) ?_
        show own_Fin _ _ _ _ (T131.setTop (mkF m 99 #[iv p1, iv p2, iv p3, iv p4, iv p5, iv (0 : Int32), iv (0 : Int32), iv (0 : Int32), .val .null, .val .null, rv r_130, .val .null, .unset] [.null, .null, (.ref b131), (.ref b131)]))
        refine own_go (XS.aload X131.here hx rfl (hb hby at_99) rfl rfl (Steps.refl _)) ?_
        show own_Fin _ _ _ _ (T131.setTop (mkF m 101 #[iv p1, iv p2, iv p3, iv p4, iv p5, iv (0 : Int32), iv (0 : Int32), iv (0 : Int32), .val .null, .val .null, rv r_130, .val .null, .unset] [(.ref r_130), .null, .null, (.ref b131), (.ref b131)]))
        refine own_go (XS.aload X131.here hx rfl (hb hby at_101) rfl rfl (Steps.refl _)) ?_
        show own_Fin _ _ _ _ (T131.setTop (mkF m 103 #[iv p1, iv p2, iv p3, iv p4, iv p5, iv (0 : Int32), iv (0 : Int32), iv (0 : Int32), .val .null, .val .null, rv r_130, .val .null, .unset] [.null, (.ref r_130), .null, .null, (.ref b131), (.ref b131)]))
        obtain ⟨_, _, ⟨T132, L132, k132, n132⟩, -, X132, ⟨Lc132, hQ132, l132, y132, z132⟩, st132⟩ := X131.specialBack hx (y := (⟨"com/example/pryority/pryority/UriReference", "<init>", "(Ljava/lang/String;Ljava/lang/String;Ljava/lang/String;Ljava/lang/String;)V"⟩ : MethodName)) rfl hown130 (mvT hZ130 (hw _ (List.mem_of_getElem? (i := 29) rfl))) (mvT hZ130 (hw _ (List.mem_of_getElem? (i := 30) rfl))) (mvT hZ130 (hw _ (List.mem_of_getElem? (i := 31) rfl))) (by decide) (backOf (W := 1) (rmui_0 l Z a0 hw [] b131 r_130 h131 n0 Z131 E_b131 F_scheme_b131 F_authority_b131 F_path_b131 F_query_b131 g_b131) hZ130 (hw _ (List.mem_of_getElem? (i := 31) rfl)) (hw _ (List.mem_of_getElem? (i := 28) rfl)) (by decide) (by decide)) (g := (mkF m 103 #[iv p1, iv p2, iv p3, iv p4, iv p5, iv (0 : Int32), iv (0 : Int32), iv (0 : Int32), .val .null, .val .null, rv r_130, .val .null, .unset] [.null, (.ref r_130), .null, .null, (.ref b131), (.ref b131)])) rfl (by rw [hml]; rfl) (Steps.refl _) (a := b131) (argsL := [.null, .null, (.ref r_130), .null]) (rest := [(.ref b131)]) (lenOf pd__28_Ljava_2f_lang_2f_String_3b_Ljava_2f_lang_2f_String_3b_Ljava_2f_lang_2f_String_3b_Ljava_2f_lang_2f_String_3b__29_V rfl) rfl (by show 2 * 0 + _ ≤ _; exact Nat.le_of_eq rfl) (hb hby at_103) (fun _ hv => ⟨rfl, e131, (by decide : 5 + 0 ≤ _), (by decide : 14 + 0 ≤ _)⟩)
        dsimp only [Pt.U, Pt.locs, Pt.cells, Pt.slots] at X132 l132 y132 z132 st132 hQ132
        subst l132 y132 z132
        refine own_go st132 ?_
        obtain ⟨rfl, Nq132, K132, r132_0, r132_1, r132_2, r132_3, r132_4⟩ := hQ132
        have Od132 := Od131.keep K132 (allS g_b131 all0)
        have r130_0_132 := r130_0_131.keep K132
        have E_b131_132 := E_b131.keep K132
        have Z132 : n0 ≤ T132.heap.size := Nat.le_trans Z131 K132.1
        have hk132 : T130.heap.size ≤ T132.heap.size := Nat.le_trans hk131 K132.1
        have N132 := Fr.app N130 Nq132
        show own_Fin _ _ _ _ (T132.setTop (mkF m 106 #[iv p1, iv p2, iv p3, iv p4, iv p5, iv (0 : Int32), iv (0 : Int32), iv (0 : Int32), .val .null, .val .null, rv r_130, .val .null, .unset] [(.ref b131)]))
        refine own_go (XS.astore X132.here hx rfl (hb hby at_106) rfl rfl rfl (Steps.refl _)) ?_
        show own_Fin _ _ _ _ (T132.setTop (mkF m 108 #[iv p1, iv p2, iv p3, iv p4, iv p5, iv (0 : Int32), iv (0 : Int32), iv (0 : Int32), .val .null, .val .null, rv r_130, .val .null, rv b131] []))
        refine own_go (XS.aload X132.here hx rfl (hb hby at_108) rfl rfl (Steps.refl _)) ?_
        show own_Fin _ _ _ _ (T132.setTop (mkF m 110 #[iv p1, iv p2, iv p3, iv p4, iv p5, iv (0 : Int32), iv (0 : Int32), iv (0 : Int32), .val .null, .val .null, rv r_130, .val .null, rv b131] [(.ref b131)]))
        obtain ⟨cq133, kq133, q133a, q133b, q133c⟩ := isOf hZ130 rfl r132_0
        obtain ⟨_, _, ⟨T133, L133, k133, n133⟩, -, X133, ⟨Lc133, hQ133, l133, y133, z133⟩, st133⟩ := X132.virtualBack hx (y := (⟨"com/example/pryority/pryority/UriReference", "isAbsolute", "()Z"⟩ : MethodName)) (z := (⟨"com/example/pryority/pryority/UriReference", "isAbsolute", "()Z"⟩ : MethodName)) hown130 (mvT hZ130 (hw _ (List.mem_of_getElem? (i := 46) rfl))) (mvT hZ130 (hw _ (List.mem_of_getElem? (i := 47) rfl))) (notFace_of_selects (args := #[]) (mvT hZ130 (hw _ (List.mem_of_getElem? (i := 49) rfl)))) (mvT hZ130 (hw _ (List.mem_of_getElem? (i := 49) rfl))) (mvT hZ130 (hw _ (List.mem_of_getElem? (i := 48) rfl))) (by decide) (backOf (W := 0) (rmia_0 l Z a0 hw [] b131 T132.heap n0 Z132 r132_1) hZ130 (hw _ (List.mem_of_getElem? (i := 50) rfl)) (hw _ (List.mem_of_getElem? (i := 28) rfl)) (by decide) (by decide)) q133a q133c (g := (mkF m 110 #[iv p1, iv p2, iv p3, iv p4, iv p5, iv (0 : Int32), iv (0 : Int32), iv (0 : Int32), .val .null, .val .null, rv r_130, .val .null, rv b131] [(.ref b131)])) rfl (by rw [hml]; rfl) (Steps.refl _) (argsL := []) (rest := []) (lenOf pd__28__29_Z rfl) rfl (by show 2 * 0 + _ ≤ _; exact Nat.le_of_eq rfl) (hb hby at_110) (fun _ hv => ⟨rfl, rfl, (by decide : 5 + 0 ≤ _), (by decide : 14 + 0 ≤ _)⟩)
        dsimp only [Pt.U, Pt.locs, Pt.cells, Pt.slots] at X133 l133 y133 z133 st133 hQ133
        subst l133 y133 z133
        obtain ⟨rfl, Nq133, e133⟩ := hQ133
        refine own_go st133 ?_
        have N133 := Fr.app N132 Nq133
        show own_Fin _ _ _ _ (T133.setTop (mkF m 113 #[iv p1, iv p2, iv p3, iv p4, iv p5, iv (0 : Int32), iv (0 : Int32), iv (0 : Int32), .val .null, .val .null, rv r_130, .val .null, rv b131] [(.int (0 : Int32))]))
        refine own_go (XS.iload X133.here hx rfl (hb hby at_113) rfl (Steps.refl _)) ?_
        show own_Fin _ _ _ _ (T133.setTop (mkF m 115 #[iv p1, iv p2, iv p3, iv p4, iv p5, iv (0 : Int32), iv (0 : Int32), iv (0 : Int32), .val .null, .val .null, rv r_130, .val .null, rv b131] [(.int (0 : Int32)), (.int (0 : Int32))]))
        refine own_go (XS.icmpNo X133.here hx rfl (hb hby at_115) rfl (teq (by decide : (0 : Int32) = (0 : Int32))).2 (Steps.refl _)) ?_
        show own_Fin _ _ _ _ (T133.setTop (mkF m 118 #[iv p1, iv p2, iv p3, iv p4, iv p5, iv (0 : Int32), iv (0 : Int32), iv (0 : Int32), .val .null, .val .null, rv r_130, .val .null, rv b131] []))
        refine own_go (XS.iconst X133.here hx rfl (hb hby at_118) (Steps.refl _)) ?_
        show own_Fin _ _ _ _ (T133.setTop (mkF m 119 #[iv p1, iv p2, iv p3, iv p4, iv p5, iv (0 : Int32), iv (0 : Int32), iv (0 : Int32), .val .null, .val .null, rv r_130, .val .null, rv b131] [(.int (1 : Int32))]))
        refine own_go (XS.goto X133.here hx rfl (pc0 := 119) (pc' := 123) rfl (hb hby at_119) (by decide) (by decide) (Steps.refl _)) ?_
        show own_Fin _ _ _ _ (T133.setTop (mkF m 123 #[iv p1, iv p2, iv p3, iv p4, iv p5, iv (0 : Int32), iv (0 : Int32), iv (0 : Int32), .val .null, .val .null, rv r_130, .val .null, rv b131] [(.int (1 : Int32))]))
        obtain ⟨fs134, hr134, hrun134, hended134, hRW134⟩ := X133.leaveW (s := s) hS130 (n := T130.heap.size) (by rw [e133]; exact hk132) (v := some (.int (1 : Int32))) (fun h => by rw [Bd.returns] at h; cases h)
        refine own_done (retN X133 hx (t := .boolean) Bd.returns (by simp) (hb hby at_123) hr134) hrun134 hended134 ⟨_, _, rfl, ?_, hRW134.1, hRW134.2.1, hRW134.2.2.1, hRW134.2.2.2.mono (by decide) (by decide)⟩
        show Q0 Z p1 p2 p3 p4 p5 cs h0 n0 _ T133.heap _
        rw [e133]
        exact ⟨rfl, N133⟩
      · refine own_go (XS.ifNo X0w.here hx rfl (hb hby at_29) rfl ((if0 _ _).trans (feq c29_129).1) (Steps.refl _)) ?_
        show own_Fin _ _ _ _ (s₁.setTop (mkF m 32 #[iv p1, iv p2, iv p3, iv p4, iv p5, iv (0 : Int32), iv (0 : Int32), .unset, .unset, .unset, .unset, .unset, .unset] []))
        refine own_go (XS.iconst X0w.here hx rfl (hb hby at_32) (Steps.refl _)) ?_
        show own_Fin _ _ _ _ (s₁.setTop (mkF m 33 #[iv p1, iv p2, iv p3, iv p4, iv p5, iv (0 : Int32), iv (0 : Int32), .unset, .unset, .unset, .unset, .unset, .unset] [(.int (1 : Int32))]))
        refine own_go (XS.goto X0w.here hx rfl (pc0 := 33) (pc' := 37) rfl (hb hby at_33) (by decide) (by decide) (Steps.refl _)) ?_
        show own_Fin _ _ _ _ (s₁.setTop (mkF m 37 #[iv p1, iv p2, iv p3, iv p4, iv p5, iv (0 : Int32), iv (0 : Int32), .unset, .unset, .unset, .unset, .unset, .unset] [(.int (1 : Int32))]))
        refine own_go (XS.istore X0w.here hx rfl (hb hby at_37) rfl rfl (Steps.refl _)) ?_
        show own_Fin _ _ _ _ (s₁.setTop (mkF m 39 #[iv p1, iv p2, iv p3, iv p4, iv p5, iv (0 : Int32), iv (0 : Int32), iv (1 : Int32), .unset, .unset, .unset, .unset, .unset] []))
        refine own_go (XS.iload X0w.here hx rfl (hb hby at_39) rfl (Steps.refl _)) ?_
        show own_Fin _ _ _ _ (s₁.setTop (mkF m 41 #[iv p1, iv p2, iv p3, iv p4, iv p5, iv (0 : Int32), iv (0 : Int32), iv (1 : Int32), .unset, .unset, .unset, .unset, .unset] [(.int (0 : Int32))]))
        refine own_go (XS.ifYes X0w.here hx rfl (pc0 := 41) (pc' := 51) rfl (hb hby at_41) rfl ((if0 _ _).trans (teq (by decide : (0 : Int32) = (0 : Int32))).1) (by decide) (by decide) (Steps.refl _)) ?_
        show own_Fin _ _ _ _ (s₁.setTop (mkF m 51 #[iv p1, iv p2, iv p3, iv p4, iv p5, iv (0 : Int32), iv (0 : Int32), iv (1 : Int32), .unset, .unset, .unset, .unset, .unset] []))
        refine own_go (XS.aconstNull X0w.here hx rfl (hb hby at_51) (Steps.refl _)) ?_
        show own_Fin _ _ _ _ (s₁.setTop (mkF m 52 #[iv p1, iv p2, iv p3, iv p4, iv p5, iv (0 : Int32), iv (0 : Int32), iv (1 : Int32), .unset, .unset, .unset, .unset, .unset] [.null]))
        refine own_go (XS.astore X0w.here hx rfl (hb hby at_52) rfl rfl rfl (Steps.refl _)) ?_
        show own_Fin _ _ _ _ (s₁.setTop (mkF m 54 #[iv p1, iv p2, iv p3, iv p4, iv p5, iv (0 : Int32), iv (0 : Int32), iv (1 : Int32), .val .null, .unset, .unset, .unset, .unset] []))
        refine own_go (XS.iload X0w.here hx rfl (hb hby at_54) rfl (Steps.refl _)) ?_
        show own_Fin _ _ _ _ (s₁.setTop (mkF m 56 #[iv p1, iv p2, iv p3, iv p4, iv p5, iv (0 : Int32), iv (0 : Int32), iv (1 : Int32), .val .null, .unset, .unset, .unset, .unset] [(.int (0 : Int32))]))
        refine own_go (XS.ifYes X0w.here hx rfl (pc0 := 56) (pc' := 66) rfl (hb hby at_56) rfl ((if0 _ _).trans (teq (by decide : (0 : Int32) = (0 : Int32))).1) (by decide) (by decide) (Steps.refl _)) ?_
        show own_Fin _ _ _ _ (s₁.setTop (mkF m 66 #[iv p1, iv p2, iv p3, iv p4, iv p5, iv (0 : Int32), iv (0 : Int32), iv (1 : Int32), .val .null, .unset, .unset, .unset, .unset] []))
        refine own_go (XS.aconstNull X0w.here hx rfl (hb hby at_66) (Steps.refl _)) ?_
        show own_Fin _ _ _ _ (s₁.setTop (mkF m 67 #[iv p1, iv p2, iv p3, iv p4, iv p5, iv (0 : Int32), iv (0 : Int32), iv (1 : Int32), .val .null, .unset, .unset, .unset, .unset] [.null]))
        refine own_go (XS.astore X0w.here hx rfl (hb hby at_67) rfl rfl rfl (Steps.refl _)) ?_
        show own_Fin _ _ _ _ (s₁.setTop (mkF m 69 #[iv p1, iv p2, iv p3, iv p4, iv p5, iv (0 : Int32), iv (0 : Int32), iv (1 : Int32), .val .null, .val .null, .unset, .unset, .unset] []))
        refine own_go (XS.iloadN X0w.here hx rfl (hb hby at_69) rfl (Steps.refl _)) ?_
        show own_Fin _ _ _ _ (s₁.setTop (mkF m 70 #[iv p1, iv p2, iv p3, iv p4, iv p5, iv (0 : Int32), iv (0 : Int32), iv (1 : Int32), .val .null, .val .null, .unset, .unset, .unset] [(.int p4)]))
        obtain ⟨_, _, ⟨T135, L135, k135, n135⟩, -, X135, hs2135, hgr135, ⟨Lc135, ⟨hQ135, hK135⟩, l135, y135, z135⟩, st135⟩ := callSS X0w hx (y := (⟨"com/example/pryority/pryority/UriReferenceIsAbsolutePinLaw", "draw", "(I)Ljava/lang/String;"⟩ : MethodName)) hown (mvT hZ (hw _ (List.mem_of_getElem? (i := 0) rfl))) (mvT hZ (hw _ (List.mem_of_getElem? (i := 1) rfl))) (mvT hZ (hw _ (List.mem_of_getElem? (i := 2) rfl))) (mvT hZ (hw _ (List.mem_of_getElem? (i := 3) rfl))) (by decide) (own_backK (W := 0) (rmdr l Z a0 hw [] p4 cs h0 n0 Z0 O0 S_COMPACT_STRINGS hcs hh7 hcw) hZ (hw _ (List.mem_of_getElem? (i := 3) rfl)) (hw _ (List.mem_of_getElem? (i := 2) rfl)) (by decide) (by decide)) (g := (mkF m 70 #[iv p1, iv p2, iv p3, iv p4, iv p5, iv (0 : Int32), iv (0 : Int32), iv (1 : Int32), .val .null, .val .null, .unset, .unset, .unset] [(.int p4)])) rfl (by rw [hml]; rfl) (argsL := [(.int p4)]) (rest := []) (lenOf pd__28_I_29_Ljava_2f_lang_2f_String_3b_ rfl) rfl (by show 2 * 0 + _ ≤ _; exact Nat.le_of_eq rfl) (hb hby at_70) (fun _ hv => ⟨rfl, e0, (by decide : 0 + 4 ≤ _), (by decide : 0 + 10 ≤ _), own_K.warm hK0 hv⟩)
        dsimp only [Pt.U, Pt.locs, Pt.cells, Pt.slots] at X135 l135 y135 z135 st135 hQ135 hs2135 hgr135 hK135
        subst l135 y135 z135
        obtain ⟨Xr135, hS135, hZ135, hown135⟩ := rebS hS0 (show 0 ≤ s₁.heap.size by rw [e0]; exact hk0) X135 hs2135 hgr135 hZ hown
        refine own_go st135 ?_
        obtain ⟨r_135, rfl, Nq135, K135, g_r_135, sb_r_135, r135_0⟩ := hQ135
        have Od135 := O0.keep K135 all0
        have Z135 : n0 ≤ T135.heap.size := Nat.le_trans Z0 K135.1
        have hk135 : 0 ≤ T135.heap.size := Nat.le_trans hk0 K135.1
        have hkr135 : T135.heap.size ≤ T135.heap.size := Nat.le_refl _
        have N135 := Fr.app N0 Nq135
        show own_Fin _ _ _ _ (T135.setTop (mkF m 73 #[iv p1, iv p2, iv p3, iv p4, iv p5, iv (0 : Int32), iv (0 : Int32), iv (1 : Int32), .val .null, .val .null, .unset, .unset, .unset] [(.ref r_135)]))
        refine own_go (XS.astore Xr135.here hx rfl (hb hby at_73) rfl rfl rfl (Steps.refl _)) ?_
        show own_Fin _ _ _ _ (T135.setTop (mkF m 75 #[iv p1, iv p2, iv p3, iv p4, iv p5, iv (0 : Int32), iv (0 : Int32), iv (1 : Int32), .val .null, .val .null, rv r_135, .unset, .unset] []))
        refine own_go (XS.iload Xr135.here hx rfl (hb hby at_75) rfl (Steps.refl _)) ?_
        show own_Fin _ _ _ _ (T135.setTop (mkF m 77 #[iv p1, iv p2, iv p3, iv p4, iv p5, iv (0 : Int32), iv (0 : Int32), iv (1 : Int32), .val .null, .val .null, rv r_135, .unset, .unset] [(.int (1 : Int32))]))
        refine own_go (XS.ifNo Xr135.here hx rfl (hb hby at_77) rfl ((if0 _ _).trans (feq (by decide : ¬ ((1 : Int32) = (0 : Int32)))).1) (Steps.refl _)) ?_
        show own_Fin _ _ _ _ (T135.setTop (mkF m 80 #[iv p1, iv p2, iv p3, iv p4, iv p5, iv (0 : Int32), iv (0 : Int32), iv (1 : Int32), .val .null, .val .null, rv r_135, .unset, .unset] []))
        refine own_go (XS.iload Xr135.here hx rfl (hb hby at_80) rfl (Steps.refl _)) ?_
        show own_Fin _ _ _ _ (T135.setTop (mkF m 82 #[iv p1, iv p2, iv p3, iv p4, iv p5, iv (0 : Int32), iv (0 : Int32), iv (1 : Int32), .val .null, .val .null, rv r_135, .unset, .unset] [(.int p5)]))
        obtain ⟨_, _, ⟨T136, L136, k136, n136⟩, -, X136, hs2136, hgr136, ⟨Lc136, ⟨hQ136, hK136⟩, l136, y136, z136⟩, st136⟩ := callSS Xr135 hx (y := (⟨"com/example/pryority/pryority/UriReferenceIsAbsolutePinLaw", "draw", "(I)Ljava/lang/String;"⟩ : MethodName)) hown135 (mvT hZ135 (hw _ (List.mem_of_getElem? (i := 0) rfl))) (mvT hZ135 (hw _ (List.mem_of_getElem? (i := 1) rfl))) (mvT hZ135 (hw _ (List.mem_of_getElem? (i := 2) rfl))) (mvT hZ135 (hw _ (List.mem_of_getElem? (i := 3) rfl))) (by decide) (own_backK (W := 0) (rmdr l Z a0 hw [] p5 cs T135.heap n0 Z135 Od135 S_COMPACT_STRINGS hcs hh7 hcw) hZ135 (hw _ (List.mem_of_getElem? (i := 3) rfl)) (hw _ (List.mem_of_getElem? (i := 2) rfl)) (by decide) (by decide)) (g := (mkF m 82 #[iv p1, iv p2, iv p3, iv p4, iv p5, iv (0 : Int32), iv (0 : Int32), iv (1 : Int32), .val .null, .val .null, rv r_135, .unset, .unset] [(.int p5)])) rfl (by rw [hml]; rfl) (argsL := [(.int p5)]) (rest := []) (lenOf pd__28_I_29_Ljava_2f_lang_2f_String_3b_ rfl) rfl (by show 2 * 0 + _ ≤ _; exact Nat.le_of_eq rfl) (hb hby at_82) (fun _ hv => ⟨rfl, rfl, (by decide : 4 + 4 ≤ _), (by decide : 10 + 10 ≤ _), own_K.warm hK135 hv⟩)
        dsimp only [Pt.U, Pt.locs, Pt.cells, Pt.slots] at X136 l136 y136 z136 st136 hQ136 hs2136 hgr136 hK136
        subst l136 y136 z136
        obtain ⟨Xr136, hS136, hZ136, hown136⟩ := rebS hS135 (show T135.heap.size ≤ T135.heap.size from hkr135) X136 hs2136 hgr136 hZ135 hown135
        refine own_go st136 ?_
        obtain ⟨r_136, rfl, Nq136, K136, g_r_136, sb_r_136, r136_0⟩ := hQ136
        have ne_r_135_r_136 : r_135 ≠ r_136 := Nat.ne_of_lt (Nat.lt_of_lt_of_le r135_0.lt sb_r_136)
        have Od136 := Od135.keep K136 all0
        have r135_0_136 := r135_0.keep K136
        have Z136 : n0 ≤ T136.heap.size := Nat.le_trans Z135 K136.1
        have hk136 : T135.heap.size ≤ T136.heap.size := Nat.le_trans hkr135 K136.1
        have hkr136 : T136.heap.size ≤ T136.heap.size := Nat.le_refl _
        have N136 := Fr.app N135 Nq136
        show own_Fin _ _ _ _ (T136.setTop (mkF m 85 #[iv p1, iv p2, iv p3, iv p4, iv p5, iv (0 : Int32), iv (0 : Int32), iv (1 : Int32), .val .null, .val .null, rv r_135, .unset, .unset] [(.ref r_136)]))
        refine own_go (XS.goto Xr136.here hx rfl (pc0 := 85) (pc' := 89) rfl (hb hby at_85) (by decide) (by decide) (Steps.refl _)) ?_
        show own_Fin _ _ _ _ (T136.setTop (mkF m 89 #[iv p1, iv p2, iv p3, iv p4, iv p5, iv (0 : Int32), iv (0 : Int32), iv (1 : Int32), .val .null, .val .null, rv r_135, .unset, .unset] [(.ref r_136)]))
        refine own_go (XS.astore Xr136.here hx rfl (hb hby at_89) rfl rfl rfl (Steps.refl _)) ?_
        show own_Fin _ _ _ _ (T136.setTop (mkF m 91 #[iv p1, iv p2, iv p3, iv p4, iv p5, iv (0 : Int32), iv (0 : Int32), iv (1 : Int32), .val .null, .val .null, rv r_135, rv r_136, .unset] []))
        obtain ⟨T137, h137, X137, e137, E137, A137, D137, U137, st137⟩ := newO Xr136 hx hZ136 hown136 (hw _ (List.mem_of_getElem? (i := 26) rfl)) (hw _ (List.mem_of_getElem? (i := 27) rfl)) (hw _ (List.mem_of_getElem? (i := 28) rfl)) rfl (g := (mkF m 91 #[iv p1, iv p2, iv p3, iv p4, iv p5, iv (0 : Int32), iv (0 : Int32), iv (1 : Int32), .val .null, .val .null, rv r_135, rv r_136, .unset] [])) rfl (hb hby at_91) (by decide) (by decide)
        obtain ⟨b137, g137⟩ : ∃ z, z = T136.heap.size := ⟨_, rfl⟩
        rw [← g137] at A137 D137 U137 st137
        refine own_by st137 ?_
        have ne_r_135_b137 : r_135 ≠ b137 := Nat.ne_of_lt (Nat.lt_of_lt_of_eq r135_0_136.lt g137.symm)
        have ne_r_136_b137 : r_136 ≠ b137 := Nat.ne_of_lt (Nat.lt_of_lt_of_eq r136_0.lt g137.symm)
        have Od137 := Od136.ext E137
        have r135_0_137 := r135_0_136.ext E137
        have r136_0_137 := r136_0.ext E137
        have g_b137 : n0 ≤ b137 := Nat.le_trans Z136 (Nat.le_of_eq g137.symm)
        have Z137 : n0 ≤ h137.size := Nat.le_trans Z136 E137.1
        have hk137 : T136.heap.size ≤ h137.size := Nat.le_trans hkr136 E137.1
        have E_b137 := A137
        have F_scheme_b137 : Fld Z h137 b137 "com/example/pryority/pryority/UriReference" "scheme" "Ljava/lang/String;" .null := D137 (Or.inr (hw _ (List.mem_of_getElem? (i := 39) rfl))) (ty := (.object "java/lang/String")) (by decide)
        have F_authority_b137 : Fld Z h137 b137 "com/example/pryority/pryority/UriReference" "authority" "Ljava/lang/String;" .null := D137 (Or.inr (hw _ (List.mem_of_getElem? (i := 41) rfl))) (ty := (.object "java/lang/String")) (by decide)
        have F_path_b137 : Fld Z h137 b137 "com/example/pryority/pryority/UriReference" "path" "Ljava/lang/String;" .null := D137 (Or.inr (hw _ (List.mem_of_getElem? (i := 43) rfl))) (ty := (.object "java/lang/String")) (by decide)
        have F_query_b137 : Fld Z h137 b137 "com/example/pryority/pryority/UriReference" "query" "Ljava/lang/String;" .null := D137 (Or.inr (hw _ (List.mem_of_getElem? (i := 45) rfl))) (ty := (.object "java/lang/String")) (by decide)
        show own_Fin _ _ _ _ (T137.setTop (mkF m 94 #[iv p1, iv p2, iv p3, iv p4, iv p5, iv (0 : Int32), iv (0 : Int32), iv (1 : Int32), .val .null, .val .null, rv r_135, rv r_136, .unset] [(.ref b137)]))
        refine own_go (XS.dup X137.here hx rfl (hb hby at_94) rfl rfl (Steps.refl _)) ?_
        show own_Fin _ _ _ _ (T137.setTop (mkF m 95 #[iv p1, iv p2, iv p3, iv p4, iv p5, iv (0 : Int32), iv (0 : Int32), iv (1 : Int32), .val .null, .val .null, rv r_135, rv r_136, .unset] [(.ref b137), (.ref b137)]))
        refine own_go (XS.aload X137.here hx rfl (hb hby at_95) rfl rfl (Steps.refl _)) ?_
        show own_Fin _ _ _ _ (T137.setTop (mkF m 97 #[iv p1, iv p2, iv p3, iv p4, iv p5, iv (0 : Int32), iv (0 : Int32), iv (1 : Int32), .val .null, .val .null, rv r_135, rv r_136, .unset] [.null, (.ref b137), (.ref b137)]))
        refine own_go (XS.aload X137.here hx rfl (hb hby at_97) rfl rfl (Steps.refl _)) ?_
        show own_Fin _ _ _ _ (T137.setTop (mkF m 99 #[iv p1, iv p2, iv p3, iv p4, iv p5, iv (0 : Int32), iv (0 : Int32), iv (1 : Int32), .val .null, .val .null, rv r_135, rv r_136, .unset] [.null, .null, (.ref b137), (.ref b137)]))
        refine own_go (XS.aload X137.here hx rfl (hb hby at_99) rfl rfl (Steps.refl _)) ?_
        show own_Fin _ _ _ _ (T137.setTop (mkF m 101 #[iv p1, iv p2, iv p3, iv p4, iv p5, iv (0 : Int32), iv (0 : Int32), iv (1 : Int32), .val .null, .val .null, rv r_135, rv r_136, .unset] [(.ref r_135), .null, .null, (.ref b137), (.ref b137)]))
        refine own_go (XS.aload X137.here hx rfl (hb hby at_101) rfl rfl (Steps.refl _)) ?_
        show own_Fin _ _ _ _ (T137.setTop (mkF m 103 #[iv p1, iv p2, iv p3, iv p4, iv p5, iv (0 : Int32), iv (0 : Int32), iv (1 : Int32), .val .null, .val .null, rv r_135, rv r_136, .unset] [(.ref r_136), (.ref r_135), .null, .null, (.ref b137), (.ref b137)]))
        obtain ⟨_, _, ⟨T138, L138, k138, n138⟩, -, X138, ⟨Lc138, hQ138, l138, y138, z138⟩, st138⟩ := X137.specialBack hx (y := (⟨"com/example/pryority/pryority/UriReference", "<init>", "(Ljava/lang/String;Ljava/lang/String;Ljava/lang/String;Ljava/lang/String;)V"⟩ : MethodName)) rfl hown136 (mvT hZ136 (hw _ (List.mem_of_getElem? (i := 29) rfl))) (mvT hZ136 (hw _ (List.mem_of_getElem? (i := 30) rfl))) (mvT hZ136 (hw _ (List.mem_of_getElem? (i := 31) rfl))) (by decide) (backOf (W := 1) (rmui_4 l Z a0 hw [] b137 r_135 r_136 h137 n0 Z137 E_b137 F_scheme_b137 F_authority_b137 F_path_b137 F_query_b137 g_b137) hZ136 (hw _ (List.mem_of_getElem? (i := 31) rfl)) (hw _ (List.mem_of_getElem? (i := 28) rfl)) (by decide) (by decide)) (g := (mkF m 103 #[iv p1, iv p2, iv p3, iv p4, iv p5, iv (0 : Int32), iv (0 : Int32), iv (1 : Int32), .val .null, .val .null, rv r_135, rv r_136, .unset] [(.ref r_136), (.ref r_135), .null, .null, (.ref b137), (.ref b137)])) rfl (by rw [hml]; rfl) (Steps.refl _) (a := b137) (argsL := [.null, .null, (.ref r_135), (.ref r_136)]) (rest := [(.ref b137)]) (lenOf pd__28_Ljava_2f_lang_2f_String_3b_Ljava_2f_lang_2f_String_3b_Ljava_2f_lang_2f_String_3b_Ljava_2f_lang_2f_String_3b__29_V rfl) rfl (by show 2 * 0 + _ ≤ _; exact Nat.le_of_eq rfl) (hb hby at_103) (fun _ hv => ⟨rfl, e137, (by decide : 9 + 0 ≤ _), (by decide : 24 + 0 ≤ _)⟩)
        dsimp only [Pt.U, Pt.locs, Pt.cells, Pt.slots] at X138 l138 y138 z138 st138 hQ138
        subst l138 y138 z138
        refine own_go st138 ?_
        obtain ⟨rfl, Nq138, K138, r138_0, r138_1, r138_2, r138_3, r138_4⟩ := hQ138
        have Od138 := Od137.keep K138 (allS g_b137 all0)
        have r135_0_138 := r135_0_137.keep K138
        have r136_0_138 := r136_0_137.keep K138
        have E_b137_138 := E_b137.keep K138
        have Z138 : n0 ≤ T138.heap.size := Nat.le_trans Z137 K138.1
        have hk138 : T136.heap.size ≤ T138.heap.size := Nat.le_trans hk137 K138.1
        have N138 := Fr.app N136 Nq138
        show own_Fin _ _ _ _ (T138.setTop (mkF m 106 #[iv p1, iv p2, iv p3, iv p4, iv p5, iv (0 : Int32), iv (0 : Int32), iv (1 : Int32), .val .null, .val .null, rv r_135, rv r_136, .unset] [(.ref b137)]))
        refine own_go (XS.astore X138.here hx rfl (hb hby at_106) rfl rfl rfl (Steps.refl _)) ?_
        show own_Fin _ _ _ _ (T138.setTop (mkF m 108 #[iv p1, iv p2, iv p3, iv p4, iv p5, iv (0 : Int32), iv (0 : Int32), iv (1 : Int32), .val .null, .val .null, rv r_135, rv r_136, rv b137] []))
        refine own_go (XS.aload X138.here hx rfl (hb hby at_108) rfl rfl (Steps.refl _)) ?_
        show own_Fin _ _ _ _ (T138.setTop (mkF m 110 #[iv p1, iv p2, iv p3, iv p4, iv p5, iv (0 : Int32), iv (0 : Int32), iv (1 : Int32), .val .null, .val .null, rv r_135, rv r_136, rv b137] [(.ref b137)]))
        obtain ⟨cq139, kq139, q139a, q139b, q139c⟩ := isOf hZ136 rfl r138_0
        obtain ⟨_, _, ⟨T139, L139, k139, n139⟩, -, X139, ⟨Lc139, hQ139, l139, y139, z139⟩, st139⟩ := X138.virtualBack hx (y := (⟨"com/example/pryority/pryority/UriReference", "isAbsolute", "()Z"⟩ : MethodName)) (z := (⟨"com/example/pryority/pryority/UriReference", "isAbsolute", "()Z"⟩ : MethodName)) hown136 (mvT hZ136 (hw _ (List.mem_of_getElem? (i := 46) rfl))) (mvT hZ136 (hw _ (List.mem_of_getElem? (i := 47) rfl))) (notFace_of_selects (args := #[]) (mvT hZ136 (hw _ (List.mem_of_getElem? (i := 49) rfl)))) (mvT hZ136 (hw _ (List.mem_of_getElem? (i := 49) rfl))) (mvT hZ136 (hw _ (List.mem_of_getElem? (i := 48) rfl))) (by decide) (backOf (W := 0) (rmia_0 l Z a0 hw [] b137 T138.heap n0 Z138 r138_1) hZ136 (hw _ (List.mem_of_getElem? (i := 50) rfl)) (hw _ (List.mem_of_getElem? (i := 28) rfl)) (by decide) (by decide)) q139a q139c (g := (mkF m 110 #[iv p1, iv p2, iv p3, iv p4, iv p5, iv (0 : Int32), iv (0 : Int32), iv (1 : Int32), .val .null, .val .null, rv r_135, rv r_136, rv b137] [(.ref b137)])) rfl (by rw [hml]; rfl) (Steps.refl _) (argsL := []) (rest := []) (lenOf pd__28__29_Z rfl) rfl (by show 2 * 0 + _ ≤ _; exact Nat.le_of_eq rfl) (hb hby at_110) (fun _ hv => ⟨rfl, rfl, (by decide : 9 + 0 ≤ _), (by decide : 24 + 0 ≤ _)⟩)
        dsimp only [Pt.U, Pt.locs, Pt.cells, Pt.slots] at X139 l139 y139 z139 st139 hQ139
        subst l139 y139 z139
        obtain ⟨rfl, Nq139, e139⟩ := hQ139
        refine own_go st139 ?_
        have N139 := Fr.app N138 Nq139
        show own_Fin _ _ _ _ (T139.setTop (mkF m 113 #[iv p1, iv p2, iv p3, iv p4, iv p5, iv (0 : Int32), iv (0 : Int32), iv (1 : Int32), .val .null, .val .null, rv r_135, rv r_136, rv b137] [(.int (0 : Int32))]))
        refine own_go (XS.iload X139.here hx rfl (hb hby at_113) rfl (Steps.refl _)) ?_
        show own_Fin _ _ _ _ (T139.setTop (mkF m 115 #[iv p1, iv p2, iv p3, iv p4, iv p5, iv (0 : Int32), iv (0 : Int32), iv (1 : Int32), .val .null, .val .null, rv r_135, rv r_136, rv b137] [(.int (0 : Int32)), (.int (0 : Int32))]))
        refine own_go (XS.icmpNo X139.here hx rfl (hb hby at_115) rfl (teq (by decide : (0 : Int32) = (0 : Int32))).2 (Steps.refl _)) ?_
        show own_Fin _ _ _ _ (T139.setTop (mkF m 118 #[iv p1, iv p2, iv p3, iv p4, iv p5, iv (0 : Int32), iv (0 : Int32), iv (1 : Int32), .val .null, .val .null, rv r_135, rv r_136, rv b137] []))
        refine own_go (XS.iconst X139.here hx rfl (hb hby at_118) (Steps.refl _)) ?_
        show own_Fin _ _ _ _ (T139.setTop (mkF m 119 #[iv p1, iv p2, iv p3, iv p4, iv p5, iv (0 : Int32), iv (0 : Int32), iv (1 : Int32), .val .null, .val .null, rv r_135, rv r_136, rv b137] [(.int (1 : Int32))]))
        refine own_go (XS.goto X139.here hx rfl (pc0 := 119) (pc' := 123) rfl (hb hby at_119) (by decide) (by decide) (Steps.refl _)) ?_
        show own_Fin _ _ _ _ (T139.setTop (mkF m 123 #[iv p1, iv p2, iv p3, iv p4, iv p5, iv (0 : Int32), iv (0 : Int32), iv (1 : Int32), .val .null, .val .null, rv r_135, rv r_136, rv b137] [(.int (1 : Int32))]))
        obtain ⟨fs140, hr140, hrun140, hended140, hRW140⟩ := X139.leaveW (s := s) hS136 (n := T136.heap.size) (by rw [e139]; exact hk138) (v := some (.int (1 : Int32))) (fun h => by rw [Bd.returns] at h; cases h)
        refine own_done (retN X139 hx (t := .boolean) Bd.returns (by simp) (hb hby at_123) hr140) hrun140 hended140 ⟨_, _, rfl, ?_, hRW140.1, hRW140.2.1, hRW140.2.2.1, hRW140.2.2.2.mono (by decide) (by decide)⟩
        show Q0 Z p1 p2 p3 p4 p5 cs h0 n0 _ T139.heap _
        rw [e139]
        exact ⟨rfl, N139⟩
    · refine own_go (XS.ifNo X0w.here hx rfl (hb hby at_16) rfl ((if0 _ _).trans (feq c16_128).1) (Steps.refl _)) ?_
      show own_Fin _ _ _ _ (s₁.setTop (mkF m 19 #[iv p1, iv p2, iv p3, iv p4, iv p5, iv (0 : Int32), .unset, .unset, .unset, .unset, .unset, .unset, .unset] []))
      refine own_go (XS.iconst X0w.here hx rfl (hb hby at_19) (Steps.refl _)) ?_
      show own_Fin _ _ _ _ (s₁.setTop (mkF m 20 #[iv p1, iv p2, iv p3, iv p4, iv p5, iv (0 : Int32), .unset, .unset, .unset, .unset, .unset, .unset, .unset] [(.int (1 : Int32))]))
      refine own_go (XS.goto X0w.here hx rfl (pc0 := 20) (pc' := 24) rfl (hb hby at_20) (by decide) (by decide) (Steps.refl _)) ?_
      show own_Fin _ _ _ _ (s₁.setTop (mkF m 24 #[iv p1, iv p2, iv p3, iv p4, iv p5, iv (0 : Int32), .unset, .unset, .unset, .unset, .unset, .unset, .unset] [(.int (1 : Int32))]))
      refine own_go (XS.istore X0w.here hx rfl (hb hby at_24) rfl rfl (Steps.refl _)) ?_
      show own_Fin _ _ _ _ (s₁.setTop (mkF m 26 #[iv p1, iv p2, iv p3, iv p4, iv p5, iv (0 : Int32), iv (1 : Int32), .unset, .unset, .unset, .unset, .unset, .unset] []))
      refine own_go (XS.iloadN X0w.here hx rfl (hb hby at_26) rfl (Steps.refl _)) ?_
      show own_Fin _ _ _ _ (s₁.setTop (mkF m 27 #[iv p1, iv p2, iv p3, iv p4, iv p5, iv (0 : Int32), iv (1 : Int32), .unset, .unset, .unset, .unset, .unset, .unset] [(.int p1)]))
      refine own_go (XS.iconst X0w.here hx rfl (hb hby at_27) (Steps.refl _)) ?_
      show own_Fin _ _ _ _ (s₁.setTop (mkF m 28 #[iv p1, iv p2, iv p3, iv p4, iv p5, iv (0 : Int32), iv (1 : Int32), .unset, .unset, .unset, .unset, .unset, .unset] [(.int (4 : Int32)), (.int p1)]))
      refine own_go (XS.iand X0w.here hx rfl (hb hby at_28) rfl (Steps.refl _)) ?_
      show own_Fin _ _ _ _ (s₁.setTop (mkF m 29 #[iv p1, iv p2, iv p3, iv p4, iv p5, iv (0 : Int32), iv (1 : Int32), .unset, .unset, .unset, .unset, .unset, .unset] [(.int (p1 &&& (4 : Int32)))]))
      by_cases c29_141 : (p1 &&& (4 : Int32)) = (0 : Int32)
      · refine own_go (XS.ifYes X0w.here hx rfl (pc0 := 29) (pc' := 36) rfl (hb hby at_29) rfl ((if0 _ _).trans (teq c29_141).1) (by decide) (by decide) (Steps.refl _)) ?_
        show own_Fin _ _ _ _ (s₁.setTop (mkF m 36 #[iv p1, iv p2, iv p3, iv p4, iv p5, iv (0 : Int32), iv (1 : Int32), .unset, .unset, .unset, .unset, .unset, .unset] []))
        refine own_go (XS.iconst X0w.here hx rfl (hb hby at_36) (Steps.refl _)) ?_
        show own_Fin _ _ _ _ (s₁.setTop (mkF m 37 #[iv p1, iv p2, iv p3, iv p4, iv p5, iv (0 : Int32), iv (1 : Int32), .unset, .unset, .unset, .unset, .unset, .unset] [(.int (0 : Int32))]))
        refine own_go (XS.istore X0w.here hx rfl (hb hby at_37) rfl rfl (Steps.refl _)) ?_
        show own_Fin _ _ _ _ (s₁.setTop (mkF m 39 #[iv p1, iv p2, iv p3, iv p4, iv p5, iv (0 : Int32), iv (1 : Int32), iv (0 : Int32), .unset, .unset, .unset, .unset, .unset] []))
        refine own_go (XS.iload X0w.here hx rfl (hb hby at_39) rfl (Steps.refl _)) ?_
        show own_Fin _ _ _ _ (s₁.setTop (mkF m 41 #[iv p1, iv p2, iv p3, iv p4, iv p5, iv (0 : Int32), iv (1 : Int32), iv (0 : Int32), .unset, .unset, .unset, .unset, .unset] [(.int (0 : Int32))]))
        refine own_go (XS.ifYes X0w.here hx rfl (pc0 := 41) (pc' := 51) rfl (hb hby at_41) rfl ((if0 _ _).trans (teq (by decide : (0 : Int32) = (0 : Int32))).1) (by decide) (by decide) (Steps.refl _)) ?_
        show own_Fin _ _ _ _ (s₁.setTop (mkF m 51 #[iv p1, iv p2, iv p3, iv p4, iv p5, iv (0 : Int32), iv (1 : Int32), iv (0 : Int32), .unset, .unset, .unset, .unset, .unset] []))
        refine own_go (XS.aconstNull X0w.here hx rfl (hb hby at_51) (Steps.refl _)) ?_
        show own_Fin _ _ _ _ (s₁.setTop (mkF m 52 #[iv p1, iv p2, iv p3, iv p4, iv p5, iv (0 : Int32), iv (1 : Int32), iv (0 : Int32), .unset, .unset, .unset, .unset, .unset] [.null]))
        refine own_go (XS.astore X0w.here hx rfl (hb hby at_52) rfl rfl rfl (Steps.refl _)) ?_
        show own_Fin _ _ _ _ (s₁.setTop (mkF m 54 #[iv p1, iv p2, iv p3, iv p4, iv p5, iv (0 : Int32), iv (1 : Int32), iv (0 : Int32), .val .null, .unset, .unset, .unset, .unset] []))
        refine own_go (XS.iload X0w.here hx rfl (hb hby at_54) rfl (Steps.refl _)) ?_
        show own_Fin _ _ _ _ (s₁.setTop (mkF m 56 #[iv p1, iv p2, iv p3, iv p4, iv p5, iv (0 : Int32), iv (1 : Int32), iv (0 : Int32), .val .null, .unset, .unset, .unset, .unset] [(.int (1 : Int32))]))
        refine own_go (XS.ifNo X0w.here hx rfl (hb hby at_56) rfl ((if0 _ _).trans (feq (by decide : ¬ ((1 : Int32) = (0 : Int32)))).1) (Steps.refl _)) ?_
        show own_Fin _ _ _ _ (s₁.setTop (mkF m 59 #[iv p1, iv p2, iv p3, iv p4, iv p5, iv (0 : Int32), iv (1 : Int32), iv (0 : Int32), .val .null, .unset, .unset, .unset, .unset] []))
        refine own_go (XS.iloadN X0w.here hx rfl (hb hby at_59) rfl (Steps.refl _)) ?_
        show own_Fin _ _ _ _ (s₁.setTop (mkF m 60 #[iv p1, iv p2, iv p3, iv p4, iv p5, iv (0 : Int32), iv (1 : Int32), iv (0 : Int32), .val .null, .unset, .unset, .unset, .unset] [(.int p3)]))
        obtain ⟨_, _, ⟨T142, L142, k142, n142⟩, -, X142, hs2142, hgr142, ⟨Lc142, ⟨hQ142, hK142⟩, l142, y142, z142⟩, st142⟩ := callSS X0w hx (y := (⟨"com/example/pryority/pryority/UriReferenceIsAbsolutePinLaw", "draw", "(I)Ljava/lang/String;"⟩ : MethodName)) hown (mvT hZ (hw _ (List.mem_of_getElem? (i := 0) rfl))) (mvT hZ (hw _ (List.mem_of_getElem? (i := 1) rfl))) (mvT hZ (hw _ (List.mem_of_getElem? (i := 2) rfl))) (mvT hZ (hw _ (List.mem_of_getElem? (i := 3) rfl))) (by decide) (own_backK (W := 0) (rmdr l Z a0 hw [] p3 cs h0 n0 Z0 O0 S_COMPACT_STRINGS hcs hh7 hcw) hZ (hw _ (List.mem_of_getElem? (i := 3) rfl)) (hw _ (List.mem_of_getElem? (i := 2) rfl)) (by decide) (by decide)) (g := (mkF m 60 #[iv p1, iv p2, iv p3, iv p4, iv p5, iv (0 : Int32), iv (1 : Int32), iv (0 : Int32), .val .null, .unset, .unset, .unset, .unset] [(.int p3)])) rfl (by rw [hml]; rfl) (argsL := [(.int p3)]) (rest := []) (lenOf pd__28_I_29_Ljava_2f_lang_2f_String_3b_ rfl) rfl (by show 2 * 0 + _ ≤ _; exact Nat.le_of_eq rfl) (hb hby at_60) (fun _ hv => ⟨rfl, e0, (by decide : 0 + 4 ≤ _), (by decide : 0 + 10 ≤ _), own_K.warm hK0 hv⟩)
        dsimp only [Pt.U, Pt.locs, Pt.cells, Pt.slots] at X142 l142 y142 z142 st142 hQ142 hs2142 hgr142 hK142
        subst l142 y142 z142
        obtain ⟨Xr142, hS142, hZ142, hown142⟩ := rebS hS0 (show 0 ≤ s₁.heap.size by rw [e0]; exact hk0) X142 hs2142 hgr142 hZ hown
        refine own_go st142 ?_
        obtain ⟨r_142, rfl, Nq142, K142, g_r_142, sb_r_142, r142_0⟩ := hQ142
        have Od142 := O0.keep K142 all0
        have Z142 : n0 ≤ T142.heap.size := Nat.le_trans Z0 K142.1
        have hk142 : 0 ≤ T142.heap.size := Nat.le_trans hk0 K142.1
        have hkr142 : T142.heap.size ≤ T142.heap.size := Nat.le_refl _
        have N142 := Fr.app N0 Nq142
        show own_Fin _ _ _ _ (T142.setTop (mkF m 63 #[iv p1, iv p2, iv p3, iv p4, iv p5, iv (0 : Int32), iv (1 : Int32), iv (0 : Int32), .val .null, .unset, .unset, .unset, .unset] [(.ref r_142)]))
        refine own_go (XS.goto Xr142.here hx rfl (pc0 := 63) (pc' := 67) rfl (hb hby at_63) (by decide) (by decide) (Steps.refl _)) ?_
        show own_Fin _ _ _ _ (T142.setTop (mkF m 67 #[iv p1, iv p2, iv p3, iv p4, iv p5, iv (0 : Int32), iv (1 : Int32), iv (0 : Int32), .val .null, .unset, .unset, .unset, .unset] [(.ref r_142)]))
        refine own_go (XS.astore Xr142.here hx rfl (hb hby at_67) rfl rfl rfl (Steps.refl _)) ?_
        show own_Fin _ _ _ _ (T142.setTop (mkF m 69 #[iv p1, iv p2, iv p3, iv p4, iv p5, iv (0 : Int32), iv (1 : Int32), iv (0 : Int32), .val .null, rv r_142, .unset, .unset, .unset] []))
        refine own_go (XS.iloadN Xr142.here hx rfl (hb hby at_69) rfl (Steps.refl _)) ?_
        show own_Fin _ _ _ _ (T142.setTop (mkF m 70 #[iv p1, iv p2, iv p3, iv p4, iv p5, iv (0 : Int32), iv (1 : Int32), iv (0 : Int32), .val .null, rv r_142, .unset, .unset, .unset] [(.int p4)]))
        obtain ⟨_, _, ⟨T143, L143, k143, n143⟩, -, X143, hs2143, hgr143, ⟨Lc143, ⟨hQ143, hK143⟩, l143, y143, z143⟩, st143⟩ := callSS Xr142 hx (y := (⟨"com/example/pryority/pryority/UriReferenceIsAbsolutePinLaw", "draw", "(I)Ljava/lang/String;"⟩ : MethodName)) hown142 (mvT hZ142 (hw _ (List.mem_of_getElem? (i := 0) rfl))) (mvT hZ142 (hw _ (List.mem_of_getElem? (i := 1) rfl))) (mvT hZ142 (hw _ (List.mem_of_getElem? (i := 2) rfl))) (mvT hZ142 (hw _ (List.mem_of_getElem? (i := 3) rfl))) (by decide) (own_backK (W := 0) (rmdr l Z a0 hw [] p4 cs T142.heap n0 Z142 Od142 S_COMPACT_STRINGS hcs hh7 hcw) hZ142 (hw _ (List.mem_of_getElem? (i := 3) rfl)) (hw _ (List.mem_of_getElem? (i := 2) rfl)) (by decide) (by decide)) (g := (mkF m 70 #[iv p1, iv p2, iv p3, iv p4, iv p5, iv (0 : Int32), iv (1 : Int32), iv (0 : Int32), .val .null, rv r_142, .unset, .unset, .unset] [(.int p4)])) rfl (by rw [hml]; rfl) (argsL := [(.int p4)]) (rest := []) (lenOf pd__28_I_29_Ljava_2f_lang_2f_String_3b_ rfl) rfl (by show 2 * 0 + _ ≤ _; exact Nat.le_of_eq rfl) (hb hby at_70) (fun _ hv => ⟨rfl, rfl, (by decide : 4 + 4 ≤ _), (by decide : 10 + 10 ≤ _), own_K.warm hK142 hv⟩)
        dsimp only [Pt.U, Pt.locs, Pt.cells, Pt.slots] at X143 l143 y143 z143 st143 hQ143 hs2143 hgr143 hK143
        subst l143 y143 z143
        obtain ⟨Xr143, hS143, hZ143, hown143⟩ := rebS hS142 (show T142.heap.size ≤ T142.heap.size from hkr142) X143 hs2143 hgr143 hZ142 hown142
        refine own_go st143 ?_
        obtain ⟨r_143, rfl, Nq143, K143, g_r_143, sb_r_143, r143_0⟩ := hQ143
        have ne_r_142_r_143 : r_142 ≠ r_143 := Nat.ne_of_lt (Nat.lt_of_lt_of_le r142_0.lt sb_r_143)
        have Od143 := Od142.keep K143 all0
        have r142_0_143 := r142_0.keep K143
        have Z143 : n0 ≤ T143.heap.size := Nat.le_trans Z142 K143.1
        have hk143 : T142.heap.size ≤ T143.heap.size := Nat.le_trans hkr142 K143.1
        have hkr143 : T143.heap.size ≤ T143.heap.size := Nat.le_refl _
        have N143 := Fr.app N142 Nq143
        show own_Fin _ _ _ _ (T143.setTop (mkF m 73 #[iv p1, iv p2, iv p3, iv p4, iv p5, iv (0 : Int32), iv (1 : Int32), iv (0 : Int32), .val .null, rv r_142, .unset, .unset, .unset] [(.ref r_143)]))
        refine own_go (XS.astore Xr143.here hx rfl (hb hby at_73) rfl rfl rfl (Steps.refl _)) ?_
        show own_Fin _ _ _ _ (T143.setTop (mkF m 75 #[iv p1, iv p2, iv p3, iv p4, iv p5, iv (0 : Int32), iv (1 : Int32), iv (0 : Int32), .val .null, rv r_142, rv r_143, .unset, .unset] []))
        refine own_go (XS.iload Xr143.here hx rfl (hb hby at_75) rfl (Steps.refl _)) ?_
        show own_Fin _ _ _ _ (T143.setTop (mkF m 77 #[iv p1, iv p2, iv p3, iv p4, iv p5, iv (0 : Int32), iv (1 : Int32), iv (0 : Int32), .val .null, rv r_142, rv r_143, .unset, .unset] [(.int (0 : Int32))]))
        refine own_go (XS.ifYes Xr143.here hx rfl (pc0 := 77) (pc' := 88) rfl (hb hby at_77) rfl ((if0 _ _).trans (teq (by decide : (0 : Int32) = (0 : Int32))).1) (by decide) (by decide) (Steps.refl _)) ?_
        show own_Fin _ _ _ _ (T143.setTop (mkF m 88 #[iv p1, iv p2, iv p3, iv p4, iv p5, iv (0 : Int32), iv (1 : Int32), iv (0 : Int32), .val .null, rv r_142, rv r_143, .unset, .unset] []))
        refine own_go (XS.aconstNull Xr143.here hx rfl (hb hby at_88) (Steps.refl _)) ?_
        show own_Fin _ _ _ _ (T143.setTop (mkF m 89 #[iv p1, iv p2, iv p3, iv p4, iv p5, iv (0 : Int32), iv (1 : Int32), iv (0 : Int32), .val .null, rv r_142, rv r_143, .unset, .unset] [.null]))
        refine own_go (XS.astore Xr143.here hx rfl (hb hby at_89) rfl rfl rfl (Steps.refl _)) ?_
        show own_Fin _ _ _ _ (T143.setTop (mkF m 91 #[iv p1, iv p2, iv p3, iv p4, iv p5, iv (0 : Int32), iv (1 : Int32), iv (0 : Int32), .val .null, rv r_142, rv r_143, .val .null, .unset] []))
        obtain ⟨T144, h144, X144, e144, E144, A144, D144, U144, st144⟩ := newO Xr143 hx hZ143 hown143 (hw _ (List.mem_of_getElem? (i := 26) rfl)) (hw _ (List.mem_of_getElem? (i := 27) rfl)) (hw _ (List.mem_of_getElem? (i := 28) rfl)) rfl (g := (mkF m 91 #[iv p1, iv p2, iv p3, iv p4, iv p5, iv (0 : Int32), iv (1 : Int32), iv (0 : Int32), .val .null, rv r_142, rv r_143, .val .null, .unset] [])) rfl (hb hby at_91) (by decide) (by decide)
        obtain ⟨b144, g144⟩ : ∃ z, z = T143.heap.size := ⟨_, rfl⟩
        rw [← g144] at A144 D144 U144 st144
        refine own_by st144 ?_
        have ne_r_142_b144 : r_142 ≠ b144 := Nat.ne_of_lt (Nat.lt_of_lt_of_eq r142_0_143.lt g144.symm)
        have ne_r_143_b144 : r_143 ≠ b144 := Nat.ne_of_lt (Nat.lt_of_lt_of_eq r143_0.lt g144.symm)
        have Od144 := Od143.ext E144
        have r142_0_144 := r142_0_143.ext E144
        have r143_0_144 := r143_0.ext E144
        have g_b144 : n0 ≤ b144 := Nat.le_trans Z143 (Nat.le_of_eq g144.symm)
        have Z144 : n0 ≤ h144.size := Nat.le_trans Z143 E144.1
        have hk144 : T143.heap.size ≤ h144.size := Nat.le_trans hkr143 E144.1
        have E_b144 := A144
        have F_scheme_b144 : Fld Z h144 b144 "com/example/pryority/pryority/UriReference" "scheme" "Ljava/lang/String;" .null := D144 (Or.inr (hw _ (List.mem_of_getElem? (i := 39) rfl))) (ty := (.object "java/lang/String")) (by decide)
        have F_authority_b144 : Fld Z h144 b144 "com/example/pryority/pryority/UriReference" "authority" "Ljava/lang/String;" .null := D144 (Or.inr (hw _ (List.mem_of_getElem? (i := 41) rfl))) (ty := (.object "java/lang/String")) (by decide)
        have F_path_b144 : Fld Z h144 b144 "com/example/pryority/pryority/UriReference" "path" "Ljava/lang/String;" .null := D144 (Or.inr (hw _ (List.mem_of_getElem? (i := 43) rfl))) (ty := (.object "java/lang/String")) (by decide)
        have F_query_b144 : Fld Z h144 b144 "com/example/pryority/pryority/UriReference" "query" "Ljava/lang/String;" .null := D144 (Or.inr (hw _ (List.mem_of_getElem? (i := 45) rfl))) (ty := (.object "java/lang/String")) (by decide)
        show own_Fin _ _ _ _ (T144.setTop (mkF m 94 #[iv p1, iv p2, iv p3, iv p4, iv p5, iv (0 : Int32), iv (1 : Int32), iv (0 : Int32), .val .null, rv r_142, rv r_143, .val .null, .unset] [(.ref b144)]))
        refine own_go (XS.dup X144.here hx rfl (hb hby at_94) rfl rfl (Steps.refl _)) ?_
        show own_Fin _ _ _ _ (T144.setTop (mkF m 95 #[iv p1, iv p2, iv p3, iv p4, iv p5, iv (0 : Int32), iv (1 : Int32), iv (0 : Int32), .val .null, rv r_142, rv r_143, .val .null, .unset] [(.ref b144), (.ref b144)]))
        refine own_go (XS.aload X144.here hx rfl (hb hby at_95) rfl rfl (Steps.refl _)) ?_
        show own_Fin _ _ _ _ (T144.setTop (mkF m 97 #[iv p1, iv p2, iv p3, iv p4, iv p5, iv (0 : Int32), iv (1 : Int32), iv (0 : Int32), .val .null, rv r_142, rv r_143, .val .null, .unset] [.null, (.ref b144), (.ref b144)]))
        refine own_go (XS.aload X144.here hx rfl (hb hby at_97) rfl rfl (Steps.refl _)) ?_
        show own_Fin _ _ _ _ (T144.setTop (mkF m 99 #[iv p1, iv p2, iv p3, iv p4, iv p5, iv (0 : Int32), iv (1 : Int32), iv (0 : Int32), .val .null, rv r_142, rv r_143, .val .null, .unset] [(.ref r_142), .null, (.ref b144), (.ref b144)]))
        refine own_go (XS.aload X144.here hx rfl (hb hby at_99) rfl rfl (Steps.refl _)) ?_
        show own_Fin _ _ _ _ (T144.setTop (mkF m 101 #[iv p1, iv p2, iv p3, iv p4, iv p5, iv (0 : Int32), iv (1 : Int32), iv (0 : Int32), .val .null, rv r_142, rv r_143, .val .null, .unset] [(.ref r_143), (.ref r_142), .null, (.ref b144), (.ref b144)]))
        refine own_go (XS.aload X144.here hx rfl (hb hby at_101) rfl rfl (Steps.refl _)) ?_
        show own_Fin _ _ _ _ (T144.setTop (mkF m 103 #[iv p1, iv p2, iv p3, iv p4, iv p5, iv (0 : Int32), iv (1 : Int32), iv (0 : Int32), .val .null, rv r_142, rv r_143, .val .null, .unset] [.null, (.ref r_143), (.ref r_142), .null, (.ref b144), (.ref b144)]))
        obtain ⟨_, _, ⟨T145, L145, k145, n145⟩, -, X145, ⟨Lc145, hQ145, l145, y145, z145⟩, st145⟩ := X144.specialBack hx (y := (⟨"com/example/pryority/pryority/UriReference", "<init>", "(Ljava/lang/String;Ljava/lang/String;Ljava/lang/String;Ljava/lang/String;)V"⟩ : MethodName)) rfl hown143 (mvT hZ143 (hw _ (List.mem_of_getElem? (i := 29) rfl))) (mvT hZ143 (hw _ (List.mem_of_getElem? (i := 30) rfl))) (mvT hZ143 (hw _ (List.mem_of_getElem? (i := 31) rfl))) (by decide) (backOf (W := 1) (rmui_2 l Z a0 hw [] b144 r_142 r_143 h144 n0 Z144 E_b144 F_scheme_b144 F_authority_b144 F_path_b144 F_query_b144 g_b144) hZ143 (hw _ (List.mem_of_getElem? (i := 31) rfl)) (hw _ (List.mem_of_getElem? (i := 28) rfl)) (by decide) (by decide)) (g := (mkF m 103 #[iv p1, iv p2, iv p3, iv p4, iv p5, iv (0 : Int32), iv (1 : Int32), iv (0 : Int32), .val .null, rv r_142, rv r_143, .val .null, .unset] [.null, (.ref r_143), (.ref r_142), .null, (.ref b144), (.ref b144)])) rfl (by rw [hml]; rfl) (Steps.refl _) (a := b144) (argsL := [.null, (.ref r_142), (.ref r_143), .null]) (rest := [(.ref b144)]) (lenOf pd__28_Ljava_2f_lang_2f_String_3b_Ljava_2f_lang_2f_String_3b_Ljava_2f_lang_2f_String_3b_Ljava_2f_lang_2f_String_3b__29_V rfl) rfl (by show 2 * 0 + _ ≤ _; exact Nat.le_of_eq rfl) (hb hby at_103) (fun _ hv => ⟨rfl, e144, (by decide : 9 + 0 ≤ _), (by decide : 24 + 0 ≤ _)⟩)
        dsimp only [Pt.U, Pt.locs, Pt.cells, Pt.slots] at X145 l145 y145 z145 st145 hQ145
        subst l145 y145 z145
        refine own_go st145 ?_
        obtain ⟨rfl, Nq145, K145, r145_0, r145_1, r145_2, r145_3, r145_4⟩ := hQ145
        have Od145 := Od144.keep K145 (allS g_b144 all0)
        have r142_0_145 := r142_0_144.keep K145
        have r143_0_145 := r143_0_144.keep K145
        have E_b144_145 := E_b144.keep K145
        have Z145 : n0 ≤ T145.heap.size := Nat.le_trans Z144 K145.1
        have hk145 : T143.heap.size ≤ T145.heap.size := Nat.le_trans hk144 K145.1
        have N145 := Fr.app N143 Nq145
        show own_Fin _ _ _ _ (T145.setTop (mkF m 106 #[iv p1, iv p2, iv p3, iv p4, iv p5, iv (0 : Int32), iv (1 : Int32), iv (0 : Int32), .val .null, rv r_142, rv r_143, .val .null, .unset] [(.ref b144)]))
        refine own_go (XS.astore X145.here hx rfl (hb hby at_106) rfl rfl rfl (Steps.refl _)) ?_
        show own_Fin _ _ _ _ (T145.setTop (mkF m 108 #[iv p1, iv p2, iv p3, iv p4, iv p5, iv (0 : Int32), iv (1 : Int32), iv (0 : Int32), .val .null, rv r_142, rv r_143, .val .null, rv b144] []))
        refine own_go (XS.aload X145.here hx rfl (hb hby at_108) rfl rfl (Steps.refl _)) ?_
        show own_Fin _ _ _ _ (T145.setTop (mkF m 110 #[iv p1, iv p2, iv p3, iv p4, iv p5, iv (0 : Int32), iv (1 : Int32), iv (0 : Int32), .val .null, rv r_142, rv r_143, .val .null, rv b144] [(.ref b144)]))
        obtain ⟨cq146, kq146, q146a, q146b, q146c⟩ := isOf hZ143 rfl r145_0
        obtain ⟨_, _, ⟨T146, L146, k146, n146⟩, -, X146, ⟨Lc146, hQ146, l146, y146, z146⟩, st146⟩ := X145.virtualBack hx (y := (⟨"com/example/pryority/pryority/UriReference", "isAbsolute", "()Z"⟩ : MethodName)) (z := (⟨"com/example/pryority/pryority/UriReference", "isAbsolute", "()Z"⟩ : MethodName)) hown143 (mvT hZ143 (hw _ (List.mem_of_getElem? (i := 46) rfl))) (mvT hZ143 (hw _ (List.mem_of_getElem? (i := 47) rfl))) (notFace_of_selects (args := #[]) (mvT hZ143 (hw _ (List.mem_of_getElem? (i := 49) rfl)))) (mvT hZ143 (hw _ (List.mem_of_getElem? (i := 49) rfl))) (mvT hZ143 (hw _ (List.mem_of_getElem? (i := 48) rfl))) (by decide) (backOf (W := 0) (rmia_0 l Z a0 hw [] b144 T145.heap n0 Z145 r145_1) hZ143 (hw _ (List.mem_of_getElem? (i := 50) rfl)) (hw _ (List.mem_of_getElem? (i := 28) rfl)) (by decide) (by decide)) q146a q146c (g := (mkF m 110 #[iv p1, iv p2, iv p3, iv p4, iv p5, iv (0 : Int32), iv (1 : Int32), iv (0 : Int32), .val .null, rv r_142, rv r_143, .val .null, rv b144] [(.ref b144)])) rfl (by rw [hml]; rfl) (Steps.refl _) (argsL := []) (rest := []) (lenOf pd__28__29_Z rfl) rfl (by show 2 * 0 + _ ≤ _; exact Nat.le_of_eq rfl) (hb hby at_110) (fun _ hv => ⟨rfl, rfl, (by decide : 9 + 0 ≤ _), (by decide : 24 + 0 ≤ _)⟩)
        dsimp only [Pt.U, Pt.locs, Pt.cells, Pt.slots] at X146 l146 y146 z146 st146 hQ146
        subst l146 y146 z146
        obtain ⟨rfl, Nq146, e146⟩ := hQ146
        refine own_go st146 ?_
        have N146 := Fr.app N145 Nq146
        show own_Fin _ _ _ _ (T146.setTop (mkF m 113 #[iv p1, iv p2, iv p3, iv p4, iv p5, iv (0 : Int32), iv (1 : Int32), iv (0 : Int32), .val .null, rv r_142, rv r_143, .val .null, rv b144] [(.int (0 : Int32))]))
        refine own_go (XS.iload X146.here hx rfl (hb hby at_113) rfl (Steps.refl _)) ?_
        show own_Fin _ _ _ _ (T146.setTop (mkF m 115 #[iv p1, iv p2, iv p3, iv p4, iv p5, iv (0 : Int32), iv (1 : Int32), iv (0 : Int32), .val .null, rv r_142, rv r_143, .val .null, rv b144] [(.int (0 : Int32)), (.int (0 : Int32))]))
        refine own_go (XS.icmpNo X146.here hx rfl (hb hby at_115) rfl (teq (by decide : (0 : Int32) = (0 : Int32))).2 (Steps.refl _)) ?_
        show own_Fin _ _ _ _ (T146.setTop (mkF m 118 #[iv p1, iv p2, iv p3, iv p4, iv p5, iv (0 : Int32), iv (1 : Int32), iv (0 : Int32), .val .null, rv r_142, rv r_143, .val .null, rv b144] []))
        refine own_go (XS.iconst X146.here hx rfl (hb hby at_118) (Steps.refl _)) ?_
        show own_Fin _ _ _ _ (T146.setTop (mkF m 119 #[iv p1, iv p2, iv p3, iv p4, iv p5, iv (0 : Int32), iv (1 : Int32), iv (0 : Int32), .val .null, rv r_142, rv r_143, .val .null, rv b144] [(.int (1 : Int32))]))
        refine own_go (XS.goto X146.here hx rfl (pc0 := 119) (pc' := 123) rfl (hb hby at_119) (by decide) (by decide) (Steps.refl _)) ?_
        show own_Fin _ _ _ _ (T146.setTop (mkF m 123 #[iv p1, iv p2, iv p3, iv p4, iv p5, iv (0 : Int32), iv (1 : Int32), iv (0 : Int32), .val .null, rv r_142, rv r_143, .val .null, rv b144] [(.int (1 : Int32))]))
        obtain ⟨fs147, hr147, hrun147, hended147, hRW147⟩ := X146.leaveW (s := s) hS143 (n := T143.heap.size) (by rw [e146]; exact hk145) (v := some (.int (1 : Int32))) (fun h => by rw [Bd.returns] at h; cases h)
        refine own_done (retN X146 hx (t := .boolean) Bd.returns (by simp) (hb hby at_123) hr147) hrun147 hended147 ⟨_, _, rfl, ?_, hRW147.1, hRW147.2.1, hRW147.2.2.1, hRW147.2.2.2.mono (by decide) (by decide)⟩
        show Q0 Z p1 p2 p3 p4 p5 cs h0 n0 _ T146.heap _
        rw [e146]
        exact ⟨rfl, N146⟩
      · refine own_go (XS.ifNo X0w.here hx rfl (hb hby at_29) rfl ((if0 _ _).trans (feq c29_141).1) (Steps.refl _)) ?_
        show own_Fin _ _ _ _ (s₁.setTop (mkF m 32 #[iv p1, iv p2, iv p3, iv p4, iv p5, iv (0 : Int32), iv (1 : Int32), .unset, .unset, .unset, .unset, .unset, .unset] []))
        refine own_go (XS.iconst X0w.here hx rfl (hb hby at_32) (Steps.refl _)) ?_
        show own_Fin _ _ _ _ (s₁.setTop (mkF m 33 #[iv p1, iv p2, iv p3, iv p4, iv p5, iv (0 : Int32), iv (1 : Int32), .unset, .unset, .unset, .unset, .unset, .unset] [(.int (1 : Int32))]))
        refine own_go (XS.goto X0w.here hx rfl (pc0 := 33) (pc' := 37) rfl (hb hby at_33) (by decide) (by decide) (Steps.refl _)) ?_
        show own_Fin _ _ _ _ (s₁.setTop (mkF m 37 #[iv p1, iv p2, iv p3, iv p4, iv p5, iv (0 : Int32), iv (1 : Int32), .unset, .unset, .unset, .unset, .unset, .unset] [(.int (1 : Int32))]))
        refine own_go (XS.istore X0w.here hx rfl (hb hby at_37) rfl rfl (Steps.refl _)) ?_
        show own_Fin _ _ _ _ (s₁.setTop (mkF m 39 #[iv p1, iv p2, iv p3, iv p4, iv p5, iv (0 : Int32), iv (1 : Int32), iv (1 : Int32), .unset, .unset, .unset, .unset, .unset] []))
        refine own_go (XS.iload X0w.here hx rfl (hb hby at_39) rfl (Steps.refl _)) ?_
        show own_Fin _ _ _ _ (s₁.setTop (mkF m 41 #[iv p1, iv p2, iv p3, iv p4, iv p5, iv (0 : Int32), iv (1 : Int32), iv (1 : Int32), .unset, .unset, .unset, .unset, .unset] [(.int (0 : Int32))]))
        refine own_go (XS.ifYes X0w.here hx rfl (pc0 := 41) (pc' := 51) rfl (hb hby at_41) rfl ((if0 _ _).trans (teq (by decide : (0 : Int32) = (0 : Int32))).1) (by decide) (by decide) (Steps.refl _)) ?_
        show own_Fin _ _ _ _ (s₁.setTop (mkF m 51 #[iv p1, iv p2, iv p3, iv p4, iv p5, iv (0 : Int32), iv (1 : Int32), iv (1 : Int32), .unset, .unset, .unset, .unset, .unset] []))
        refine own_go (XS.aconstNull X0w.here hx rfl (hb hby at_51) (Steps.refl _)) ?_
        show own_Fin _ _ _ _ (s₁.setTop (mkF m 52 #[iv p1, iv p2, iv p3, iv p4, iv p5, iv (0 : Int32), iv (1 : Int32), iv (1 : Int32), .unset, .unset, .unset, .unset, .unset] [.null]))
        refine own_go (XS.astore X0w.here hx rfl (hb hby at_52) rfl rfl rfl (Steps.refl _)) ?_
        show own_Fin _ _ _ _ (s₁.setTop (mkF m 54 #[iv p1, iv p2, iv p3, iv p4, iv p5, iv (0 : Int32), iv (1 : Int32), iv (1 : Int32), .val .null, .unset, .unset, .unset, .unset] []))
        refine own_go (XS.iload X0w.here hx rfl (hb hby at_54) rfl (Steps.refl _)) ?_
        show own_Fin _ _ _ _ (s₁.setTop (mkF m 56 #[iv p1, iv p2, iv p3, iv p4, iv p5, iv (0 : Int32), iv (1 : Int32), iv (1 : Int32), .val .null, .unset, .unset, .unset, .unset] [(.int (1 : Int32))]))
        refine own_go (XS.ifNo X0w.here hx rfl (hb hby at_56) rfl ((if0 _ _).trans (feq (by decide : ¬ ((1 : Int32) = (0 : Int32)))).1) (Steps.refl _)) ?_
        show own_Fin _ _ _ _ (s₁.setTop (mkF m 59 #[iv p1, iv p2, iv p3, iv p4, iv p5, iv (0 : Int32), iv (1 : Int32), iv (1 : Int32), .val .null, .unset, .unset, .unset, .unset] []))
        refine own_go (XS.iloadN X0w.here hx rfl (hb hby at_59) rfl (Steps.refl _)) ?_
        show own_Fin _ _ _ _ (s₁.setTop (mkF m 60 #[iv p1, iv p2, iv p3, iv p4, iv p5, iv (0 : Int32), iv (1 : Int32), iv (1 : Int32), .val .null, .unset, .unset, .unset, .unset] [(.int p3)]))
        obtain ⟨_, _, ⟨T148, L148, k148, n148⟩, -, X148, hs2148, hgr148, ⟨Lc148, ⟨hQ148, hK148⟩, l148, y148, z148⟩, st148⟩ := callSS X0w hx (y := (⟨"com/example/pryority/pryority/UriReferenceIsAbsolutePinLaw", "draw", "(I)Ljava/lang/String;"⟩ : MethodName)) hown (mvT hZ (hw _ (List.mem_of_getElem? (i := 0) rfl))) (mvT hZ (hw _ (List.mem_of_getElem? (i := 1) rfl))) (mvT hZ (hw _ (List.mem_of_getElem? (i := 2) rfl))) (mvT hZ (hw _ (List.mem_of_getElem? (i := 3) rfl))) (by decide) (own_backK (W := 0) (rmdr l Z a0 hw [] p3 cs h0 n0 Z0 O0 S_COMPACT_STRINGS hcs hh7 hcw) hZ (hw _ (List.mem_of_getElem? (i := 3) rfl)) (hw _ (List.mem_of_getElem? (i := 2) rfl)) (by decide) (by decide)) (g := (mkF m 60 #[iv p1, iv p2, iv p3, iv p4, iv p5, iv (0 : Int32), iv (1 : Int32), iv (1 : Int32), .val .null, .unset, .unset, .unset, .unset] [(.int p3)])) rfl (by rw [hml]; rfl) (argsL := [(.int p3)]) (rest := []) (lenOf pd__28_I_29_Ljava_2f_lang_2f_String_3b_ rfl) rfl (by show 2 * 0 + _ ≤ _; exact Nat.le_of_eq rfl) (hb hby at_60) (fun _ hv => ⟨rfl, e0, (by decide : 0 + 4 ≤ _), (by decide : 0 + 10 ≤ _), own_K.warm hK0 hv⟩)
        dsimp only [Pt.U, Pt.locs, Pt.cells, Pt.slots] at X148 l148 y148 z148 st148 hQ148 hs2148 hgr148 hK148
        subst l148 y148 z148
        obtain ⟨Xr148, hS148, hZ148, hown148⟩ := rebS hS0 (show 0 ≤ s₁.heap.size by rw [e0]; exact hk0) X148 hs2148 hgr148 hZ hown
        refine own_go st148 ?_
        obtain ⟨r_148, rfl, Nq148, K148, g_r_148, sb_r_148, r148_0⟩ := hQ148
        have Od148 := O0.keep K148 all0
        have Z148 : n0 ≤ T148.heap.size := Nat.le_trans Z0 K148.1
        have hk148 : 0 ≤ T148.heap.size := Nat.le_trans hk0 K148.1
        have hkr148 : T148.heap.size ≤ T148.heap.size := Nat.le_refl _
        have N148 := Fr.app N0 Nq148
        show own_Fin _ _ _ _ (T148.setTop (mkF m 63 #[iv p1, iv p2, iv p3, iv p4, iv p5, iv (0 : Int32), iv (1 : Int32), iv (1 : Int32), .val .null, .unset, .unset, .unset, .unset] [(.ref r_148)]))
        refine own_go (XS.goto Xr148.here hx rfl (pc0 := 63) (pc' := 67) rfl (hb hby at_63) (by decide) (by decide) (Steps.refl _)) ?_
        show own_Fin _ _ _ _ (T148.setTop (mkF m 67 #[iv p1, iv p2, iv p3, iv p4, iv p5, iv (0 : Int32), iv (1 : Int32), iv (1 : Int32), .val .null, .unset, .unset, .unset, .unset] [(.ref r_148)]))
        refine own_go (XS.astore Xr148.here hx rfl (hb hby at_67) rfl rfl rfl (Steps.refl _)) ?_
        show own_Fin _ _ _ _ (T148.setTop (mkF m 69 #[iv p1, iv p2, iv p3, iv p4, iv p5, iv (0 : Int32), iv (1 : Int32), iv (1 : Int32), .val .null, rv r_148, .unset, .unset, .unset] []))
        refine own_go (XS.iloadN Xr148.here hx rfl (hb hby at_69) rfl (Steps.refl _)) ?_
        show own_Fin _ _ _ _ (T148.setTop (mkF m 70 #[iv p1, iv p2, iv p3, iv p4, iv p5, iv (0 : Int32), iv (1 : Int32), iv (1 : Int32), .val .null, rv r_148, .unset, .unset, .unset] [(.int p4)]))
        obtain ⟨_, _, ⟨T149, L149, k149, n149⟩, -, X149, hs2149, hgr149, ⟨Lc149, ⟨hQ149, hK149⟩, l149, y149, z149⟩, st149⟩ := callSS Xr148 hx (y := (⟨"com/example/pryority/pryority/UriReferenceIsAbsolutePinLaw", "draw", "(I)Ljava/lang/String;"⟩ : MethodName)) hown148 (mvT hZ148 (hw _ (List.mem_of_getElem? (i := 0) rfl))) (mvT hZ148 (hw _ (List.mem_of_getElem? (i := 1) rfl))) (mvT hZ148 (hw _ (List.mem_of_getElem? (i := 2) rfl))) (mvT hZ148 (hw _ (List.mem_of_getElem? (i := 3) rfl))) (by decide) (own_backK (W := 0) (rmdr l Z a0 hw [] p4 cs T148.heap n0 Z148 Od148 S_COMPACT_STRINGS hcs hh7 hcw) hZ148 (hw _ (List.mem_of_getElem? (i := 3) rfl)) (hw _ (List.mem_of_getElem? (i := 2) rfl)) (by decide) (by decide)) (g := (mkF m 70 #[iv p1, iv p2, iv p3, iv p4, iv p5, iv (0 : Int32), iv (1 : Int32), iv (1 : Int32), .val .null, rv r_148, .unset, .unset, .unset] [(.int p4)])) rfl (by rw [hml]; rfl) (argsL := [(.int p4)]) (rest := []) (lenOf pd__28_I_29_Ljava_2f_lang_2f_String_3b_ rfl) rfl (by show 2 * 0 + _ ≤ _; exact Nat.le_of_eq rfl) (hb hby at_70) (fun _ hv => ⟨rfl, rfl, (by decide : 4 + 4 ≤ _), (by decide : 10 + 10 ≤ _), own_K.warm hK148 hv⟩)
        dsimp only [Pt.U, Pt.locs, Pt.cells, Pt.slots] at X149 l149 y149 z149 st149 hQ149 hs2149 hgr149 hK149
        subst l149 y149 z149
        obtain ⟨Xr149, hS149, hZ149, hown149⟩ := rebS hS148 (show T148.heap.size ≤ T148.heap.size from hkr148) X149 hs2149 hgr149 hZ148 hown148
        refine own_go st149 ?_
        obtain ⟨r_149, rfl, Nq149, K149, g_r_149, sb_r_149, r149_0⟩ := hQ149
        have ne_r_148_r_149 : r_148 ≠ r_149 := Nat.ne_of_lt (Nat.lt_of_lt_of_le r148_0.lt sb_r_149)
        have Od149 := Od148.keep K149 all0
        have r148_0_149 := r148_0.keep K149
        have Z149 : n0 ≤ T149.heap.size := Nat.le_trans Z148 K149.1
        have hk149 : T148.heap.size ≤ T149.heap.size := Nat.le_trans hkr148 K149.1
        have hkr149 : T149.heap.size ≤ T149.heap.size := Nat.le_refl _
        have N149 := Fr.app N148 Nq149
        show own_Fin _ _ _ _ (T149.setTop (mkF m 73 #[iv p1, iv p2, iv p3, iv p4, iv p5, iv (0 : Int32), iv (1 : Int32), iv (1 : Int32), .val .null, rv r_148, .unset, .unset, .unset] [(.ref r_149)]))
        refine own_go (XS.astore Xr149.here hx rfl (hb hby at_73) rfl rfl rfl (Steps.refl _)) ?_
        show own_Fin _ _ _ _ (T149.setTop (mkF m 75 #[iv p1, iv p2, iv p3, iv p4, iv p5, iv (0 : Int32), iv (1 : Int32), iv (1 : Int32), .val .null, rv r_148, rv r_149, .unset, .unset] []))
        refine own_go (XS.iload Xr149.here hx rfl (hb hby at_75) rfl (Steps.refl _)) ?_
        show own_Fin _ _ _ _ (T149.setTop (mkF m 77 #[iv p1, iv p2, iv p3, iv p4, iv p5, iv (0 : Int32), iv (1 : Int32), iv (1 : Int32), .val .null, rv r_148, rv r_149, .unset, .unset] [(.int (1 : Int32))]))
        refine own_go (XS.ifNo Xr149.here hx rfl (hb hby at_77) rfl ((if0 _ _).trans (feq (by decide : ¬ ((1 : Int32) = (0 : Int32)))).1) (Steps.refl _)) ?_
        show own_Fin _ _ _ _ (T149.setTop (mkF m 80 #[iv p1, iv p2, iv p3, iv p4, iv p5, iv (0 : Int32), iv (1 : Int32), iv (1 : Int32), .val .null, rv r_148, rv r_149, .unset, .unset] []))
        refine own_go (XS.iload Xr149.here hx rfl (hb hby at_80) rfl (Steps.refl _)) ?_
        show own_Fin _ _ _ _ (T149.setTop (mkF m 82 #[iv p1, iv p2, iv p3, iv p4, iv p5, iv (0 : Int32), iv (1 : Int32), iv (1 : Int32), .val .null, rv r_148, rv r_149, .unset, .unset] [(.int p5)]))
        obtain ⟨_, _, ⟨T150, L150, k150, n150⟩, -, X150, hs2150, hgr150, ⟨Lc150, ⟨hQ150, hK150⟩, l150, y150, z150⟩, st150⟩ := callSS Xr149 hx (y := (⟨"com/example/pryority/pryority/UriReferenceIsAbsolutePinLaw", "draw", "(I)Ljava/lang/String;"⟩ : MethodName)) hown149 (mvT hZ149 (hw _ (List.mem_of_getElem? (i := 0) rfl))) (mvT hZ149 (hw _ (List.mem_of_getElem? (i := 1) rfl))) (mvT hZ149 (hw _ (List.mem_of_getElem? (i := 2) rfl))) (mvT hZ149 (hw _ (List.mem_of_getElem? (i := 3) rfl))) (by decide) (own_backK (W := 0) (rmdr l Z a0 hw [] p5 cs T149.heap n0 Z149 Od149 S_COMPACT_STRINGS hcs hh7 hcw) hZ149 (hw _ (List.mem_of_getElem? (i := 3) rfl)) (hw _ (List.mem_of_getElem? (i := 2) rfl)) (by decide) (by decide)) (g := (mkF m 82 #[iv p1, iv p2, iv p3, iv p4, iv p5, iv (0 : Int32), iv (1 : Int32), iv (1 : Int32), .val .null, rv r_148, rv r_149, .unset, .unset] [(.int p5)])) rfl (by rw [hml]; rfl) (argsL := [(.int p5)]) (rest := []) (lenOf pd__28_I_29_Ljava_2f_lang_2f_String_3b_ rfl) rfl (by show 2 * 0 + _ ≤ _; exact Nat.le_of_eq rfl) (hb hby at_82) (fun _ hv => ⟨rfl, rfl, (by decide : 8 + 4 ≤ _), (by decide : 20 + 10 ≤ _), own_K.warm hK149 hv⟩)
        dsimp only [Pt.U, Pt.locs, Pt.cells, Pt.slots] at X150 l150 y150 z150 st150 hQ150 hs2150 hgr150 hK150
        subst l150 y150 z150
        obtain ⟨Xr150, hS150, hZ150, hown150⟩ := rebS hS149 (show T149.heap.size ≤ T149.heap.size from hkr149) X150 hs2150 hgr150 hZ149 hown149
        refine own_go st150 ?_
        obtain ⟨r_150, rfl, Nq150, K150, g_r_150, sb_r_150, r150_0⟩ := hQ150
        have ne_r_148_r_150 : r_148 ≠ r_150 := Nat.ne_of_lt (Nat.lt_of_lt_of_le r148_0_149.lt sb_r_150)
        have ne_r_149_r_150 : r_149 ≠ r_150 := Nat.ne_of_lt (Nat.lt_of_lt_of_le r149_0.lt sb_r_150)
        have Od150 := Od149.keep K150 all0
        have r148_0_150 := r148_0_149.keep K150
        have r149_0_150 := r149_0.keep K150
        have Z150 : n0 ≤ T150.heap.size := Nat.le_trans Z149 K150.1
        have hk150 : T149.heap.size ≤ T150.heap.size := Nat.le_trans hkr149 K150.1
        have hkr150 : T150.heap.size ≤ T150.heap.size := Nat.le_refl _
        have N150 := Fr.app N149 Nq150
        show own_Fin _ _ _ _ (T150.setTop (mkF m 85 #[iv p1, iv p2, iv p3, iv p4, iv p5, iv (0 : Int32), iv (1 : Int32), iv (1 : Int32), .val .null, rv r_148, rv r_149, .unset, .unset] [(.ref r_150)]))
        refine own_go (XS.goto Xr150.here hx rfl (pc0 := 85) (pc' := 89) rfl (hb hby at_85) (by decide) (by decide) (Steps.refl _)) ?_
        show own_Fin _ _ _ _ (T150.setTop (mkF m 89 #[iv p1, iv p2, iv p3, iv p4, iv p5, iv (0 : Int32), iv (1 : Int32), iv (1 : Int32), .val .null, rv r_148, rv r_149, .unset, .unset] [(.ref r_150)]))
        refine own_go (XS.astore Xr150.here hx rfl (hb hby at_89) rfl rfl rfl (Steps.refl _)) ?_
        show own_Fin _ _ _ _ (T150.setTop (mkF m 91 #[iv p1, iv p2, iv p3, iv p4, iv p5, iv (0 : Int32), iv (1 : Int32), iv (1 : Int32), .val .null, rv r_148, rv r_149, rv r_150, .unset] []))
        obtain ⟨T151, h151, X151, e151, E151, A151, D151, U151, st151⟩ := newO Xr150 hx hZ150 hown150 (hw _ (List.mem_of_getElem? (i := 26) rfl)) (hw _ (List.mem_of_getElem? (i := 27) rfl)) (hw _ (List.mem_of_getElem? (i := 28) rfl)) rfl (g := (mkF m 91 #[iv p1, iv p2, iv p3, iv p4, iv p5, iv (0 : Int32), iv (1 : Int32), iv (1 : Int32), .val .null, rv r_148, rv r_149, rv r_150, .unset] [])) rfl (hb hby at_91) (by decide) (by decide)
        obtain ⟨b151, g151⟩ : ∃ z, z = T150.heap.size := ⟨_, rfl⟩
        rw [← g151] at A151 D151 U151 st151
        refine own_by st151 ?_
        have ne_r_148_b151 : r_148 ≠ b151 := Nat.ne_of_lt (Nat.lt_of_lt_of_eq r148_0_150.lt g151.symm)
        have ne_r_149_b151 : r_149 ≠ b151 := Nat.ne_of_lt (Nat.lt_of_lt_of_eq r149_0_150.lt g151.symm)
        have ne_r_150_b151 : r_150 ≠ b151 := Nat.ne_of_lt (Nat.lt_of_lt_of_eq r150_0.lt g151.symm)
        have Od151 := Od150.ext E151
        have r148_0_151 := r148_0_150.ext E151
        have r149_0_151 := r149_0_150.ext E151
        have r150_0_151 := r150_0.ext E151
        have g_b151 : n0 ≤ b151 := Nat.le_trans Z150 (Nat.le_of_eq g151.symm)
        have Z151 : n0 ≤ h151.size := Nat.le_trans Z150 E151.1
        have hk151 : T150.heap.size ≤ h151.size := Nat.le_trans hkr150 E151.1
        have E_b151 := A151
        have F_scheme_b151 : Fld Z h151 b151 "com/example/pryority/pryority/UriReference" "scheme" "Ljava/lang/String;" .null := D151 (Or.inr (hw _ (List.mem_of_getElem? (i := 39) rfl))) (ty := (.object "java/lang/String")) (by decide)
        have F_authority_b151 : Fld Z h151 b151 "com/example/pryority/pryority/UriReference" "authority" "Ljava/lang/String;" .null := D151 (Or.inr (hw _ (List.mem_of_getElem? (i := 41) rfl))) (ty := (.object "java/lang/String")) (by decide)
        have F_path_b151 : Fld Z h151 b151 "com/example/pryority/pryority/UriReference" "path" "Ljava/lang/String;" .null := D151 (Or.inr (hw _ (List.mem_of_getElem? (i := 43) rfl))) (ty := (.object "java/lang/String")) (by decide)
        have F_query_b151 : Fld Z h151 b151 "com/example/pryority/pryority/UriReference" "query" "Ljava/lang/String;" .null := D151 (Or.inr (hw _ (List.mem_of_getElem? (i := 45) rfl))) (ty := (.object "java/lang/String")) (by decide)
        show own_Fin _ _ _ _ (T151.setTop (mkF m 94 #[iv p1, iv p2, iv p3, iv p4, iv p5, iv (0 : Int32), iv (1 : Int32), iv (1 : Int32), .val .null, rv r_148, rv r_149, rv r_150, .unset] [(.ref b151)]))
        refine own_go (XS.dup X151.here hx rfl (hb hby at_94) rfl rfl (Steps.refl _)) ?_
        show own_Fin _ _ _ _ (T151.setTop (mkF m 95 #[iv p1, iv p2, iv p3, iv p4, iv p5, iv (0 : Int32), iv (1 : Int32), iv (1 : Int32), .val .null, rv r_148, rv r_149, rv r_150, .unset] [(.ref b151), (.ref b151)]))
        refine own_go (XS.aload X151.here hx rfl (hb hby at_95) rfl rfl (Steps.refl _)) ?_
        show own_Fin _ _ _ _ (T151.setTop (mkF m 97 #[iv p1, iv p2, iv p3, iv p4, iv p5, iv (0 : Int32), iv (1 : Int32), iv (1 : Int32), .val .null, rv r_148, rv r_149, rv r_150, .unset] [.null, (.ref b151), (.ref b151)]))
        refine own_go (XS.aload X151.here hx rfl (hb hby at_97) rfl rfl (Steps.refl _)) ?_
        show own_Fin _ _ _ _ (T151.setTop (mkF m 99 #[iv p1, iv p2, iv p3, iv p4, iv p5, iv (0 : Int32), iv (1 : Int32), iv (1 : Int32), .val .null, rv r_148, rv r_149, rv r_150, .unset] [(.ref r_148), .null, (.ref b151), (.ref b151)]))
        refine own_go (XS.aload X151.here hx rfl (hb hby at_99) rfl rfl (Steps.refl _)) ?_
        show own_Fin _ _ _ _ (T151.setTop (mkF m 101 #[iv p1, iv p2, iv p3, iv p4, iv p5, iv (0 : Int32), iv (1 : Int32), iv (1 : Int32), .val .null, rv r_148, rv r_149, rv r_150, .unset] [(.ref r_149), (.ref r_148), .null, (.ref b151), (.ref b151)]))
        refine own_go (XS.aload X151.here hx rfl (hb hby at_101) rfl rfl (Steps.refl _)) ?_
        show own_Fin _ _ _ _ (T151.setTop (mkF m 103 #[iv p1, iv p2, iv p3, iv p4, iv p5, iv (0 : Int32), iv (1 : Int32), iv (1 : Int32), .val .null, rv r_148, rv r_149, rv r_150, .unset] [(.ref r_150), (.ref r_149), (.ref r_148), .null, (.ref b151), (.ref b151)]))
        obtain ⟨_, _, ⟨T152, L152, k152, n152⟩, -, X152, ⟨Lc152, hQ152, l152, y152, z152⟩, st152⟩ := X151.specialBack hx (y := (⟨"com/example/pryority/pryority/UriReference", "<init>", "(Ljava/lang/String;Ljava/lang/String;Ljava/lang/String;Ljava/lang/String;)V"⟩ : MethodName)) rfl hown150 (mvT hZ150 (hw _ (List.mem_of_getElem? (i := 29) rfl))) (mvT hZ150 (hw _ (List.mem_of_getElem? (i := 30) rfl))) (mvT hZ150 (hw _ (List.mem_of_getElem? (i := 31) rfl))) (by decide) (backOf (W := 1) (rmui_6 l Z a0 hw [] b151 r_148 r_149 r_150 h151 n0 Z151 E_b151 F_scheme_b151 F_authority_b151 F_path_b151 F_query_b151 g_b151) hZ150 (hw _ (List.mem_of_getElem? (i := 31) rfl)) (hw _ (List.mem_of_getElem? (i := 28) rfl)) (by decide) (by decide)) (g := (mkF m 103 #[iv p1, iv p2, iv p3, iv p4, iv p5, iv (0 : Int32), iv (1 : Int32), iv (1 : Int32), .val .null, rv r_148, rv r_149, rv r_150, .unset] [(.ref r_150), (.ref r_149), (.ref r_148), .null, (.ref b151), (.ref b151)])) rfl (by rw [hml]; rfl) (Steps.refl _) (a := b151) (argsL := [.null, (.ref r_148), (.ref r_149), (.ref r_150)]) (rest := [(.ref b151)]) (lenOf pd__28_Ljava_2f_lang_2f_String_3b_Ljava_2f_lang_2f_String_3b_Ljava_2f_lang_2f_String_3b_Ljava_2f_lang_2f_String_3b__29_V rfl) rfl (by show 2 * 0 + _ ≤ _; exact Nat.le_of_eq rfl) (hb hby at_103) (fun _ hv => ⟨rfl, e151, (by decide : 13 + 0 ≤ _), (by decide : 34 + 0 ≤ _)⟩)
        dsimp only [Pt.U, Pt.locs, Pt.cells, Pt.slots] at X152 l152 y152 z152 st152 hQ152
        subst l152 y152 z152
        refine own_go st152 ?_
        obtain ⟨rfl, Nq152, K152, r152_0, r152_1, r152_2, r152_3, r152_4⟩ := hQ152
        have Od152 := Od151.keep K152 (allS g_b151 all0)
        have r148_0_152 := r148_0_151.keep K152
        have r149_0_152 := r149_0_151.keep K152
        have r150_0_152 := r150_0_151.keep K152
        have E_b151_152 := E_b151.keep K152
        have Z152 : n0 ≤ T152.heap.size := Nat.le_trans Z151 K152.1
        have hk152 : T150.heap.size ≤ T152.heap.size := Nat.le_trans hk151 K152.1
        have N152 := Fr.app N150 Nq152
        show own_Fin _ _ _ _ (T152.setTop (mkF m 106 #[iv p1, iv p2, iv p3, iv p4, iv p5, iv (0 : Int32), iv (1 : Int32), iv (1 : Int32), .val .null, rv r_148, rv r_149, rv r_150, .unset] [(.ref b151)]))
        refine own_go (XS.astore X152.here hx rfl (hb hby at_106) rfl rfl rfl (Steps.refl _)) ?_
        show own_Fin _ _ _ _ (T152.setTop (mkF m 108 #[iv p1, iv p2, iv p3, iv p4, iv p5, iv (0 : Int32), iv (1 : Int32), iv (1 : Int32), .val .null, rv r_148, rv r_149, rv r_150, rv b151] []))
        refine own_go (XS.aload X152.here hx rfl (hb hby at_108) rfl rfl (Steps.refl _)) ?_
        show own_Fin _ _ _ _ (T152.setTop (mkF m 110 #[iv p1, iv p2, iv p3, iv p4, iv p5, iv (0 : Int32), iv (1 : Int32), iv (1 : Int32), .val .null, rv r_148, rv r_149, rv r_150, rv b151] [(.ref b151)]))
        obtain ⟨cq153, kq153, q153a, q153b, q153c⟩ := isOf hZ150 rfl r152_0
        obtain ⟨_, _, ⟨T153, L153, k153, n153⟩, -, X153, ⟨Lc153, hQ153, l153, y153, z153⟩, st153⟩ := X152.virtualBack hx (y := (⟨"com/example/pryority/pryority/UriReference", "isAbsolute", "()Z"⟩ : MethodName)) (z := (⟨"com/example/pryority/pryority/UriReference", "isAbsolute", "()Z"⟩ : MethodName)) hown150 (mvT hZ150 (hw _ (List.mem_of_getElem? (i := 46) rfl))) (mvT hZ150 (hw _ (List.mem_of_getElem? (i := 47) rfl))) (notFace_of_selects (args := #[]) (mvT hZ150 (hw _ (List.mem_of_getElem? (i := 49) rfl)))) (mvT hZ150 (hw _ (List.mem_of_getElem? (i := 49) rfl))) (mvT hZ150 (hw _ (List.mem_of_getElem? (i := 48) rfl))) (by decide) (backOf (W := 0) (rmia_0 l Z a0 hw [] b151 T152.heap n0 Z152 r152_1) hZ150 (hw _ (List.mem_of_getElem? (i := 50) rfl)) (hw _ (List.mem_of_getElem? (i := 28) rfl)) (by decide) (by decide)) q153a q153c (g := (mkF m 110 #[iv p1, iv p2, iv p3, iv p4, iv p5, iv (0 : Int32), iv (1 : Int32), iv (1 : Int32), .val .null, rv r_148, rv r_149, rv r_150, rv b151] [(.ref b151)])) rfl (by rw [hml]; rfl) (Steps.refl _) (argsL := []) (rest := []) (lenOf pd__28__29_Z rfl) rfl (by show 2 * 0 + _ ≤ _; exact Nat.le_of_eq rfl) (hb hby at_110) (fun _ hv => ⟨rfl, rfl, (by decide : 13 + 0 ≤ _), (by decide : 34 + 0 ≤ _)⟩)
        dsimp only [Pt.U, Pt.locs, Pt.cells, Pt.slots] at X153 l153 y153 z153 st153 hQ153
        subst l153 y153 z153
        obtain ⟨rfl, Nq153, e153⟩ := hQ153
        refine own_go st153 ?_
        have N153 := Fr.app N152 Nq153
        show own_Fin _ _ _ _ (T153.setTop (mkF m 113 #[iv p1, iv p2, iv p3, iv p4, iv p5, iv (0 : Int32), iv (1 : Int32), iv (1 : Int32), .val .null, rv r_148, rv r_149, rv r_150, rv b151] [(.int (0 : Int32))]))
        refine own_go (XS.iload X153.here hx rfl (hb hby at_113) rfl (Steps.refl _)) ?_
        show own_Fin _ _ _ _ (T153.setTop (mkF m 115 #[iv p1, iv p2, iv p3, iv p4, iv p5, iv (0 : Int32), iv (1 : Int32), iv (1 : Int32), .val .null, rv r_148, rv r_149, rv r_150, rv b151] [(.int (0 : Int32)), (.int (0 : Int32))]))
        refine own_go (XS.icmpNo X153.here hx rfl (hb hby at_115) rfl (teq (by decide : (0 : Int32) = (0 : Int32))).2 (Steps.refl _)) ?_
        show own_Fin _ _ _ _ (T153.setTop (mkF m 118 #[iv p1, iv p2, iv p3, iv p4, iv p5, iv (0 : Int32), iv (1 : Int32), iv (1 : Int32), .val .null, rv r_148, rv r_149, rv r_150, rv b151] []))
        refine own_go (XS.iconst X153.here hx rfl (hb hby at_118) (Steps.refl _)) ?_
        show own_Fin _ _ _ _ (T153.setTop (mkF m 119 #[iv p1, iv p2, iv p3, iv p4, iv p5, iv (0 : Int32), iv (1 : Int32), iv (1 : Int32), .val .null, rv r_148, rv r_149, rv r_150, rv b151] [(.int (1 : Int32))]))
        refine own_go (XS.goto X153.here hx rfl (pc0 := 119) (pc' := 123) rfl (hb hby at_119) (by decide) (by decide) (Steps.refl _)) ?_
        show own_Fin _ _ _ _ (T153.setTop (mkF m 123 #[iv p1, iv p2, iv p3, iv p4, iv p5, iv (0 : Int32), iv (1 : Int32), iv (1 : Int32), .val .null, rv r_148, rv r_149, rv r_150, rv b151] [(.int (1 : Int32))]))
        obtain ⟨fs154, hr154, hrun154, hended154, hRW154⟩ := X153.leaveW (s := s) hS150 (n := T150.heap.size) (by rw [e153]; exact hk152) (v := some (.int (1 : Int32))) (fun h => by rw [Bd.returns] at h; cases h)
        refine own_done (retN X153 hx (t := .boolean) Bd.returns (by simp) (hb hby at_123) hr154) hrun154 hended154 ⟨_, _, rfl, ?_, hRW154.1, hRW154.2.1, hRW154.2.2.1, hRW154.2.2.2.mono (by decide) (by decide)⟩
        show Q0 Z p1 p2 p3 p4 p5 cs h0 n0 _ T153.heap _
        rw [e153]
        exact ⟨rfl, N153⟩
  · refine own_go (XS.ifNo X0w.here hx rfl (hb hby at_3) rfl ((if0 _ _).trans (feq c3_127).1) (Steps.refl _)) ?_
    show own_Fin _ _ _ _ (s₁.setTop (mkF m 6 #[iv p1, iv p2, iv p3, iv p4, iv p5, .unset, .unset, .unset, .unset, .unset, .unset, .unset, .unset] []))
    refine own_go (XS.iconst X0w.here hx rfl (hb hby at_6) (Steps.refl _)) ?_
    show own_Fin _ _ _ _ (s₁.setTop (mkF m 7 #[iv p1, iv p2, iv p3, iv p4, iv p5, .unset, .unset, .unset, .unset, .unset, .unset, .unset, .unset] [(.int (1 : Int32))]))
    refine own_go (XS.goto X0w.here hx rfl (pc0 := 7) (pc' := 11) rfl (hb hby at_7) (by decide) (by decide) (Steps.refl _)) ?_
    show own_Fin _ _ _ _ (s₁.setTop (mkF m 11 #[iv p1, iv p2, iv p3, iv p4, iv p5, .unset, .unset, .unset, .unset, .unset, .unset, .unset, .unset] [(.int (1 : Int32))]))
    refine own_go (XS.istore X0w.here hx rfl (hb hby at_11) rfl rfl (Steps.refl _)) ?_
    show own_Fin _ _ _ _ (s₁.setTop (mkF m 13 #[iv p1, iv p2, iv p3, iv p4, iv p5, iv (1 : Int32), .unset, .unset, .unset, .unset, .unset, .unset, .unset] []))
    refine own_go (XS.iloadN X0w.here hx rfl (hb hby at_13) rfl (Steps.refl _)) ?_
    show own_Fin _ _ _ _ (s₁.setTop (mkF m 14 #[iv p1, iv p2, iv p3, iv p4, iv p5, iv (1 : Int32), .unset, .unset, .unset, .unset, .unset, .unset, .unset] [(.int p1)]))
    refine own_go (XS.iconst X0w.here hx rfl (hb hby at_14) (Steps.refl _)) ?_
    show own_Fin _ _ _ _ (s₁.setTop (mkF m 15 #[iv p1, iv p2, iv p3, iv p4, iv p5, iv (1 : Int32), .unset, .unset, .unset, .unset, .unset, .unset, .unset] [(.int (2 : Int32)), (.int p1)]))
    refine own_go (XS.iand X0w.here hx rfl (hb hby at_15) rfl (Steps.refl _)) ?_
    show own_Fin _ _ _ _ (s₁.setTop (mkF m 16 #[iv p1, iv p2, iv p3, iv p4, iv p5, iv (1 : Int32), .unset, .unset, .unset, .unset, .unset, .unset, .unset] [(.int (p1 &&& (2 : Int32)))]))
    by_cases c16_155 : (p1 &&& (2 : Int32)) = (0 : Int32)
    · refine own_go (XS.ifYes X0w.here hx rfl (pc0 := 16) (pc' := 23) rfl (hb hby at_16) rfl ((if0 _ _).trans (teq c16_155).1) (by decide) (by decide) (Steps.refl _)) ?_
      show own_Fin _ _ _ _ (s₁.setTop (mkF m 23 #[iv p1, iv p2, iv p3, iv p4, iv p5, iv (1 : Int32), .unset, .unset, .unset, .unset, .unset, .unset, .unset] []))
      refine own_go (XS.iconst X0w.here hx rfl (hb hby at_23) (Steps.refl _)) ?_
      show own_Fin _ _ _ _ (s₁.setTop (mkF m 24 #[iv p1, iv p2, iv p3, iv p4, iv p5, iv (1 : Int32), .unset, .unset, .unset, .unset, .unset, .unset, .unset] [(.int (0 : Int32))]))
      refine own_go (XS.istore X0w.here hx rfl (hb hby at_24) rfl rfl (Steps.refl _)) ?_
      show own_Fin _ _ _ _ (s₁.setTop (mkF m 26 #[iv p1, iv p2, iv p3, iv p4, iv p5, iv (1 : Int32), iv (0 : Int32), .unset, .unset, .unset, .unset, .unset, .unset] []))
      refine own_go (XS.iloadN X0w.here hx rfl (hb hby at_26) rfl (Steps.refl _)) ?_
      show own_Fin _ _ _ _ (s₁.setTop (mkF m 27 #[iv p1, iv p2, iv p3, iv p4, iv p5, iv (1 : Int32), iv (0 : Int32), .unset, .unset, .unset, .unset, .unset, .unset] [(.int p1)]))
      refine own_go (XS.iconst X0w.here hx rfl (hb hby at_27) (Steps.refl _)) ?_
      show own_Fin _ _ _ _ (s₁.setTop (mkF m 28 #[iv p1, iv p2, iv p3, iv p4, iv p5, iv (1 : Int32), iv (0 : Int32), .unset, .unset, .unset, .unset, .unset, .unset] [(.int (4 : Int32)), (.int p1)]))
      refine own_go (XS.iand X0w.here hx rfl (hb hby at_28) rfl (Steps.refl _)) ?_
      show own_Fin _ _ _ _ (s₁.setTop (mkF m 29 #[iv p1, iv p2, iv p3, iv p4, iv p5, iv (1 : Int32), iv (0 : Int32), .unset, .unset, .unset, .unset, .unset, .unset] [(.int (p1 &&& (4 : Int32)))]))
      by_cases c29_156 : (p1 &&& (4 : Int32)) = (0 : Int32)
      · refine own_go (XS.ifYes X0w.here hx rfl (pc0 := 29) (pc' := 36) rfl (hb hby at_29) rfl ((if0 _ _).trans (teq c29_156).1) (by decide) (by decide) (Steps.refl _)) ?_
        show own_Fin _ _ _ _ (s₁.setTop (mkF m 36 #[iv p1, iv p2, iv p3, iv p4, iv p5, iv (1 : Int32), iv (0 : Int32), .unset, .unset, .unset, .unset, .unset, .unset] []))
        refine own_go (XS.iconst X0w.here hx rfl (hb hby at_36) (Steps.refl _)) ?_
        show own_Fin _ _ _ _ (s₁.setTop (mkF m 37 #[iv p1, iv p2, iv p3, iv p4, iv p5, iv (1 : Int32), iv (0 : Int32), .unset, .unset, .unset, .unset, .unset, .unset] [(.int (0 : Int32))]))
        refine own_go (XS.istore X0w.here hx rfl (hb hby at_37) rfl rfl (Steps.refl _)) ?_
        show own_Fin _ _ _ _ (s₁.setTop (mkF m 39 #[iv p1, iv p2, iv p3, iv p4, iv p5, iv (1 : Int32), iv (0 : Int32), iv (0 : Int32), .unset, .unset, .unset, .unset, .unset] []))
        refine own_go (XS.iload X0w.here hx rfl (hb hby at_39) rfl (Steps.refl _)) ?_
        show own_Fin _ _ _ _ (s₁.setTop (mkF m 41 #[iv p1, iv p2, iv p3, iv p4, iv p5, iv (1 : Int32), iv (0 : Int32), iv (0 : Int32), .unset, .unset, .unset, .unset, .unset] [(.int (1 : Int32))]))
        refine own_go (XS.ifNo X0w.here hx rfl (hb hby at_41) rfl ((if0 _ _).trans (feq (by decide : ¬ ((1 : Int32) = (0 : Int32)))).1) (Steps.refl _)) ?_
        show own_Fin _ _ _ _ (s₁.setTop (mkF m 44 #[iv p1, iv p2, iv p3, iv p4, iv p5, iv (1 : Int32), iv (0 : Int32), iv (0 : Int32), .unset, .unset, .unset, .unset, .unset] []))
        refine own_go (XS.iloadN X0w.here hx rfl (hb hby at_44) rfl (Steps.refl _)) ?_
        show own_Fin _ _ _ _ (s₁.setTop (mkF m 45 #[iv p1, iv p2, iv p3, iv p4, iv p5, iv (1 : Int32), iv (0 : Int32), iv (0 : Int32), .unset, .unset, .unset, .unset, .unset] [(.int p2)]))
        obtain ⟨_, _, ⟨T157, L157, k157, n157⟩, -, X157, hs2157, hgr157, ⟨Lc157, ⟨hQ157, hK157⟩, l157, y157, z157⟩, st157⟩ := callSS X0w hx (y := (⟨"com/example/pryority/pryority/UriReferenceIsAbsolutePinLaw", "draw", "(I)Ljava/lang/String;"⟩ : MethodName)) hown (mvT hZ (hw _ (List.mem_of_getElem? (i := 0) rfl))) (mvT hZ (hw _ (List.mem_of_getElem? (i := 1) rfl))) (mvT hZ (hw _ (List.mem_of_getElem? (i := 2) rfl))) (mvT hZ (hw _ (List.mem_of_getElem? (i := 3) rfl))) (by decide) (own_backK (W := 0) (rmdr l Z a0 hw [] p2 cs h0 n0 Z0 O0 S_COMPACT_STRINGS hcs hh7 hcw) hZ (hw _ (List.mem_of_getElem? (i := 3) rfl)) (hw _ (List.mem_of_getElem? (i := 2) rfl)) (by decide) (by decide)) (g := (mkF m 45 #[iv p1, iv p2, iv p3, iv p4, iv p5, iv (1 : Int32), iv (0 : Int32), iv (0 : Int32), .unset, .unset, .unset, .unset, .unset] [(.int p2)])) rfl (by rw [hml]; rfl) (argsL := [(.int p2)]) (rest := []) (lenOf pd__28_I_29_Ljava_2f_lang_2f_String_3b_ rfl) rfl (by show 2 * 0 + _ ≤ _; exact Nat.le_of_eq rfl) (hb hby at_45) (fun _ hv => ⟨rfl, e0, (by decide : 0 + 4 ≤ _), (by decide : 0 + 10 ≤ _), own_K.warm hK0 hv⟩)
        dsimp only [Pt.U, Pt.locs, Pt.cells, Pt.slots] at X157 l157 y157 z157 st157 hQ157 hs2157 hgr157 hK157
        subst l157 y157 z157
        obtain ⟨Xr157, hS157, hZ157, hown157⟩ := rebS hS0 (show 0 ≤ s₁.heap.size by rw [e0]; exact hk0) X157 hs2157 hgr157 hZ hown
        refine own_go st157 ?_
        obtain ⟨r_157, rfl, Nq157, K157, g_r_157, sb_r_157, r157_0⟩ := hQ157
        have Od157 := O0.keep K157 all0
        have Z157 : n0 ≤ T157.heap.size := Nat.le_trans Z0 K157.1
        have hk157 : 0 ≤ T157.heap.size := Nat.le_trans hk0 K157.1
        have hkr157 : T157.heap.size ≤ T157.heap.size := Nat.le_refl _
        have N157 := Fr.app N0 Nq157
        show own_Fin _ _ _ _ (T157.setTop (mkF m 48 #[iv p1, iv p2, iv p3, iv p4, iv p5, iv (1 : Int32), iv (0 : Int32), iv (0 : Int32), .unset, .unset, .unset, .unset, .unset] [(.ref r_157)]))
        refine own_go (XS.goto Xr157.here hx rfl (pc0 := 48) (pc' := 52) rfl (hb hby at_48) (by decide) (by decide) (Steps.refl _)) ?_
        show own_Fin _ _ _ _ (T157.setTop (mkF m 52 #[iv p1, iv p2, iv p3, iv p4, iv p5, iv (1 : Int32), iv (0 : Int32), iv (0 : Int32), .unset, .unset, .unset, .unset, .unset] [(.ref r_157)]))
        refine own_go (XS.astore Xr157.here hx rfl (hb hby at_52) rfl rfl rfl (Steps.refl _)) ?_
        show own_Fin _ _ _ _ (T157.setTop (mkF m 54 #[iv p1, iv p2, iv p3, iv p4, iv p5, iv (1 : Int32), iv (0 : Int32), iv (0 : Int32), rv r_157, .unset, .unset, .unset, .unset] []))
        refine own_go (XS.iload Xr157.here hx rfl (hb hby at_54) rfl (Steps.refl _)) ?_
        show own_Fin _ _ _ _ (T157.setTop (mkF m 56 #[iv p1, iv p2, iv p3, iv p4, iv p5, iv (1 : Int32), iv (0 : Int32), iv (0 : Int32), rv r_157, .unset, .unset, .unset, .unset] [(.int (0 : Int32))]))
        refine own_go (XS.ifYes Xr157.here hx rfl (pc0 := 56) (pc' := 66) rfl (hb hby at_56) rfl ((if0 _ _).trans (teq (by decide : (0 : Int32) = (0 : Int32))).1) (by decide) (by decide) (Steps.refl _)) ?_
        show own_Fin _ _ _ _ (T157.setTop (mkF m 66 #[iv p1, iv p2, iv p3, iv p4, iv p5, iv (1 : Int32), iv (0 : Int32), iv (0 : Int32), rv r_157, .unset, .unset, .unset, .unset] []))
        refine own_go (XS.aconstNull Xr157.here hx rfl (hb hby at_66) (Steps.refl _)) ?_
        show own_Fin _ _ _ _ (T157.setTop (mkF m 67 #[iv p1, iv p2, iv p3, iv p4, iv p5, iv (1 : Int32), iv (0 : Int32), iv (0 : Int32), rv r_157, .unset, .unset, .unset, .unset] [.null]))
        refine own_go (XS.astore Xr157.here hx rfl (hb hby at_67) rfl rfl rfl (Steps.refl _)) ?_
        show own_Fin _ _ _ _ (T157.setTop (mkF m 69 #[iv p1, iv p2, iv p3, iv p4, iv p5, iv (1 : Int32), iv (0 : Int32), iv (0 : Int32), rv r_157, .val .null, .unset, .unset, .unset] []))
        refine own_go (XS.iloadN Xr157.here hx rfl (hb hby at_69) rfl (Steps.refl _)) ?_
        show own_Fin _ _ _ _ (T157.setTop (mkF m 70 #[iv p1, iv p2, iv p3, iv p4, iv p5, iv (1 : Int32), iv (0 : Int32), iv (0 : Int32), rv r_157, .val .null, .unset, .unset, .unset] [(.int p4)]))
        obtain ⟨_, _, ⟨T158, L158, k158, n158⟩, -, X158, hs2158, hgr158, ⟨Lc158, ⟨hQ158, hK158⟩, l158, y158, z158⟩, st158⟩ := callSS Xr157 hx (y := (⟨"com/example/pryority/pryority/UriReferenceIsAbsolutePinLaw", "draw", "(I)Ljava/lang/String;"⟩ : MethodName)) hown157 (mvT hZ157 (hw _ (List.mem_of_getElem? (i := 0) rfl))) (mvT hZ157 (hw _ (List.mem_of_getElem? (i := 1) rfl))) (mvT hZ157 (hw _ (List.mem_of_getElem? (i := 2) rfl))) (mvT hZ157 (hw _ (List.mem_of_getElem? (i := 3) rfl))) (by decide) (own_backK (W := 0) (rmdr l Z a0 hw [] p4 cs T157.heap n0 Z157 Od157 S_COMPACT_STRINGS hcs hh7 hcw) hZ157 (hw _ (List.mem_of_getElem? (i := 3) rfl)) (hw _ (List.mem_of_getElem? (i := 2) rfl)) (by decide) (by decide)) (g := (mkF m 70 #[iv p1, iv p2, iv p3, iv p4, iv p5, iv (1 : Int32), iv (0 : Int32), iv (0 : Int32), rv r_157, .val .null, .unset, .unset, .unset] [(.int p4)])) rfl (by rw [hml]; rfl) (argsL := [(.int p4)]) (rest := []) (lenOf pd__28_I_29_Ljava_2f_lang_2f_String_3b_ rfl) rfl (by show 2 * 0 + _ ≤ _; exact Nat.le_of_eq rfl) (hb hby at_70) (fun _ hv => ⟨rfl, rfl, (by decide : 4 + 4 ≤ _), (by decide : 10 + 10 ≤ _), own_K.warm hK157 hv⟩)
        dsimp only [Pt.U, Pt.locs, Pt.cells, Pt.slots] at X158 l158 y158 z158 st158 hQ158 hs2158 hgr158 hK158
        subst l158 y158 z158
        obtain ⟨Xr158, hS158, hZ158, hown158⟩ := rebS hS157 (show T157.heap.size ≤ T157.heap.size from hkr157) X158 hs2158 hgr158 hZ157 hown157
        refine own_go st158 ?_
        obtain ⟨r_158, rfl, Nq158, K158, g_r_158, sb_r_158, r158_0⟩ := hQ158
        have ne_r_157_r_158 : r_157 ≠ r_158 := Nat.ne_of_lt (Nat.lt_of_lt_of_le r157_0.lt sb_r_158)
        have Od158 := Od157.keep K158 all0
        have r157_0_158 := r157_0.keep K158
        have Z158 : n0 ≤ T158.heap.size := Nat.le_trans Z157 K158.1
        have hk158 : T157.heap.size ≤ T158.heap.size := Nat.le_trans hkr157 K158.1
        have hkr158 : T158.heap.size ≤ T158.heap.size := Nat.le_refl _
        have N158 := Fr.app N157 Nq158
        show own_Fin _ _ _ _ (T158.setTop (mkF m 73 #[iv p1, iv p2, iv p3, iv p4, iv p5, iv (1 : Int32), iv (0 : Int32), iv (0 : Int32), rv r_157, .val .null, .unset, .unset, .unset] [(.ref r_158)]))
        refine own_go (XS.astore Xr158.here hx rfl (hb hby at_73) rfl rfl rfl (Steps.refl _)) ?_
        show own_Fin _ _ _ _ (T158.setTop (mkF m 75 #[iv p1, iv p2, iv p3, iv p4, iv p5, iv (1 : Int32), iv (0 : Int32), iv (0 : Int32), rv r_157, .val .null, rv r_158, .unset, .unset] []))
        refine own_go (XS.iload Xr158.here hx rfl (hb hby at_75) rfl (Steps.refl _)) ?_
        show own_Fin _ _ _ _ (T158.setTop (mkF m 77 #[iv p1, iv p2, iv p3, iv p4, iv p5, iv (1 : Int32), iv (0 : Int32), iv (0 : Int32), rv r_157, .val .null, rv r_158, .unset, .unset] [(.int (0 : Int32))]))
        refine own_go (XS.ifYes Xr158.here hx rfl (pc0 := 77) (pc' := 88) rfl (hb hby at_77) rfl ((if0 _ _).trans (teq (by decide : (0 : Int32) = (0 : Int32))).1) (by decide) (by decide) (Steps.refl _)) ?_
        show own_Fin _ _ _ _ (T158.setTop (mkF m 88 #[iv p1, iv p2, iv p3, iv p4, iv p5, iv (1 : Int32), iv (0 : Int32), iv (0 : Int32), rv r_157, .val .null, rv r_158, .unset, .unset] []))
        refine own_go (XS.aconstNull Xr158.here hx rfl (hb hby at_88) (Steps.refl _)) ?_
        show own_Fin _ _ _ _ (T158.setTop (mkF m 89 #[iv p1, iv p2, iv p3, iv p4, iv p5, iv (1 : Int32), iv (0 : Int32), iv (0 : Int32), rv r_157, .val .null, rv r_158, .unset, .unset] [.null]))
        refine own_go (XS.astore Xr158.here hx rfl (hb hby at_89) rfl rfl rfl (Steps.refl _)) ?_
        show own_Fin _ _ _ _ (T158.setTop (mkF m 91 #[iv p1, iv p2, iv p3, iv p4, iv p5, iv (1 : Int32), iv (0 : Int32), iv (0 : Int32), rv r_157, .val .null, rv r_158, .val .null, .unset] []))
        obtain ⟨T159, h159, X159, e159, E159, A159, D159, U159, st159⟩ := newO Xr158 hx hZ158 hown158 (hw _ (List.mem_of_getElem? (i := 26) rfl)) (hw _ (List.mem_of_getElem? (i := 27) rfl)) (hw _ (List.mem_of_getElem? (i := 28) rfl)) rfl (g := (mkF m 91 #[iv p1, iv p2, iv p3, iv p4, iv p5, iv (1 : Int32), iv (0 : Int32), iv (0 : Int32), rv r_157, .val .null, rv r_158, .val .null, .unset] [])) rfl (hb hby at_91) (by decide) (by decide)
        obtain ⟨b159, g159⟩ : ∃ z, z = T158.heap.size := ⟨_, rfl⟩
        rw [← g159] at A159 D159 U159 st159
        refine own_by st159 ?_
        have ne_r_157_b159 : r_157 ≠ b159 := Nat.ne_of_lt (Nat.lt_of_lt_of_eq r157_0_158.lt g159.symm)
        have ne_r_158_b159 : r_158 ≠ b159 := Nat.ne_of_lt (Nat.lt_of_lt_of_eq r158_0.lt g159.symm)
        have Od159 := Od158.ext E159
        have r157_0_159 := r157_0_158.ext E159
        have r158_0_159 := r158_0.ext E159
        have g_b159 : n0 ≤ b159 := Nat.le_trans Z158 (Nat.le_of_eq g159.symm)
        have Z159 : n0 ≤ h159.size := Nat.le_trans Z158 E159.1
        have hk159 : T158.heap.size ≤ h159.size := Nat.le_trans hkr158 E159.1
        have E_b159 := A159
        have F_scheme_b159 : Fld Z h159 b159 "com/example/pryority/pryority/UriReference" "scheme" "Ljava/lang/String;" .null := D159 (Or.inr (hw _ (List.mem_of_getElem? (i := 39) rfl))) (ty := (.object "java/lang/String")) (by decide)
        have F_authority_b159 : Fld Z h159 b159 "com/example/pryority/pryority/UriReference" "authority" "Ljava/lang/String;" .null := D159 (Or.inr (hw _ (List.mem_of_getElem? (i := 41) rfl))) (ty := (.object "java/lang/String")) (by decide)
        have F_path_b159 : Fld Z h159 b159 "com/example/pryority/pryority/UriReference" "path" "Ljava/lang/String;" .null := D159 (Or.inr (hw _ (List.mem_of_getElem? (i := 43) rfl))) (ty := (.object "java/lang/String")) (by decide)
        have F_query_b159 : Fld Z h159 b159 "com/example/pryority/pryority/UriReference" "query" "Ljava/lang/String;" .null := D159 (Or.inr (hw _ (List.mem_of_getElem? (i := 45) rfl))) (ty := (.object "java/lang/String")) (by decide)
        show own_Fin _ _ _ _ (T159.setTop (mkF m 94 #[iv p1, iv p2, iv p3, iv p4, iv p5, iv (1 : Int32), iv (0 : Int32), iv (0 : Int32), rv r_157, .val .null, rv r_158, .val .null, .unset] [(.ref b159)]))
        refine own_go (XS.dup X159.here hx rfl (hb hby at_94) rfl rfl (Steps.refl _)) ?_
        show own_Fin _ _ _ _ (T159.setTop (mkF m 95 #[iv p1, iv p2, iv p3, iv p4, iv p5, iv (1 : Int32), iv (0 : Int32), iv (0 : Int32), rv r_157, .val .null, rv r_158, .val .null, .unset] [(.ref b159), (.ref b159)]))
        refine own_go (XS.aload X159.here hx rfl (hb hby at_95) rfl rfl (Steps.refl _)) ?_
        show own_Fin _ _ _ _ (T159.setTop (mkF m 97 #[iv p1, iv p2, iv p3, iv p4, iv p5, iv (1 : Int32), iv (0 : Int32), iv (0 : Int32), rv r_157, .val .null, rv r_158, .val .null, .unset] [(.ref r_157), (.ref b159), (.ref b159)]))
        refine own_go (XS.aload X159.here hx rfl (hb hby at_97) rfl rfl (Steps.refl _)) ?_
        show own_Fin _ _ _ _ (T159.setTop (mkF m 99 #[iv p1, iv p2, iv p3, iv p4, iv p5, iv (1 : Int32), iv (0 : Int32), iv (0 : Int32), rv r_157, .val .null, rv r_158, .val .null, .unset] [.null, (.ref r_157), (.ref b159), (.ref b159)]))
        refine own_go (XS.aload X159.here hx rfl (hb hby at_99) rfl rfl (Steps.refl _)) ?_
        show own_Fin _ _ _ _ (T159.setTop (mkF m 101 #[iv p1, iv p2, iv p3, iv p4, iv p5, iv (1 : Int32), iv (0 : Int32), iv (0 : Int32), rv r_157, .val .null, rv r_158, .val .null, .unset] [(.ref r_158), .null, (.ref r_157), (.ref b159), (.ref b159)]))
        refine own_go (XS.aload X159.here hx rfl (hb hby at_101) rfl rfl (Steps.refl _)) ?_
        show own_Fin _ _ _ _ (T159.setTop (mkF m 103 #[iv p1, iv p2, iv p3, iv p4, iv p5, iv (1 : Int32), iv (0 : Int32), iv (0 : Int32), rv r_157, .val .null, rv r_158, .val .null, .unset] [.null, (.ref r_158), .null, (.ref r_157), (.ref b159), (.ref b159)]))
        obtain ⟨_, _, ⟨T160, L160, k160, n160⟩, -, X160, ⟨Lc160, hQ160, l160, y160, z160⟩, st160⟩ := X159.specialBack hx (y := (⟨"com/example/pryority/pryority/UriReference", "<init>", "(Ljava/lang/String;Ljava/lang/String;Ljava/lang/String;Ljava/lang/String;)V"⟩ : MethodName)) rfl hown158 (mvT hZ158 (hw _ (List.mem_of_getElem? (i := 29) rfl))) (mvT hZ158 (hw _ (List.mem_of_getElem? (i := 30) rfl))) (mvT hZ158 (hw _ (List.mem_of_getElem? (i := 31) rfl))) (by decide) (backOf (W := 1) (rmui_1 l Z a0 hw [] b159 r_157 r_158 h159 n0 Z159 E_b159 F_scheme_b159 F_authority_b159 F_path_b159 F_query_b159 g_b159) hZ158 (hw _ (List.mem_of_getElem? (i := 31) rfl)) (hw _ (List.mem_of_getElem? (i := 28) rfl)) (by decide) (by decide)) (g := (mkF m 103 #[iv p1, iv p2, iv p3, iv p4, iv p5, iv (1 : Int32), iv (0 : Int32), iv (0 : Int32), rv r_157, .val .null, rv r_158, .val .null, .unset] [.null, (.ref r_158), .null, (.ref r_157), (.ref b159), (.ref b159)])) rfl (by rw [hml]; rfl) (Steps.refl _) (a := b159) (argsL := [(.ref r_157), .null, (.ref r_158), .null]) (rest := [(.ref b159)]) (lenOf pd__28_Ljava_2f_lang_2f_String_3b_Ljava_2f_lang_2f_String_3b_Ljava_2f_lang_2f_String_3b_Ljava_2f_lang_2f_String_3b__29_V rfl) rfl (by show 2 * 0 + _ ≤ _; exact Nat.le_of_eq rfl) (hb hby at_103) (fun _ hv => ⟨rfl, e159, (by decide : 9 + 0 ≤ _), (by decide : 24 + 0 ≤ _)⟩)
        dsimp only [Pt.U, Pt.locs, Pt.cells, Pt.slots] at X160 l160 y160 z160 st160 hQ160
        subst l160 y160 z160
        refine own_go st160 ?_
        obtain ⟨rfl, Nq160, K160, r160_0, r160_1, r160_2, r160_3, r160_4⟩ := hQ160
        have Od160 := Od159.keep K160 (allS g_b159 all0)
        have r157_0_160 := r157_0_159.keep K160
        have r158_0_160 := r158_0_159.keep K160
        have E_b159_160 := E_b159.keep K160
        have Z160 : n0 ≤ T160.heap.size := Nat.le_trans Z159 K160.1
        have hk160 : T158.heap.size ≤ T160.heap.size := Nat.le_trans hk159 K160.1
        have N160 := Fr.app N158 Nq160
        show own_Fin _ _ _ _ (T160.setTop (mkF m 106 #[iv p1, iv p2, iv p3, iv p4, iv p5, iv (1 : Int32), iv (0 : Int32), iv (0 : Int32), rv r_157, .val .null, rv r_158, .val .null, .unset] [(.ref b159)]))
        refine own_go (XS.astore X160.here hx rfl (hb hby at_106) rfl rfl rfl (Steps.refl _)) ?_
        show own_Fin _ _ _ _ (T160.setTop (mkF m 108 #[iv p1, iv p2, iv p3, iv p4, iv p5, iv (1 : Int32), iv (0 : Int32), iv (0 : Int32), rv r_157, .val .null, rv r_158, .val .null, rv b159] []))
        refine own_go (XS.aload X160.here hx rfl (hb hby at_108) rfl rfl (Steps.refl _)) ?_
        show own_Fin _ _ _ _ (T160.setTop (mkF m 110 #[iv p1, iv p2, iv p3, iv p4, iv p5, iv (1 : Int32), iv (0 : Int32), iv (0 : Int32), rv r_157, .val .null, rv r_158, .val .null, rv b159] [(.ref b159)]))
        obtain ⟨cq161, kq161, q161a, q161b, q161c⟩ := isOf hZ158 rfl r160_0
        obtain ⟨_, _, ⟨T161, L161, k161, n161⟩, -, X161, ⟨Lc161, hQ161, l161, y161, z161⟩, st161⟩ := X160.virtualBack hx (y := (⟨"com/example/pryority/pryority/UriReference", "isAbsolute", "()Z"⟩ : MethodName)) (z := (⟨"com/example/pryority/pryority/UriReference", "isAbsolute", "()Z"⟩ : MethodName)) hown158 (mvT hZ158 (hw _ (List.mem_of_getElem? (i := 46) rfl))) (mvT hZ158 (hw _ (List.mem_of_getElem? (i := 47) rfl))) (notFace_of_selects (args := #[]) (mvT hZ158 (hw _ (List.mem_of_getElem? (i := 49) rfl)))) (mvT hZ158 (hw _ (List.mem_of_getElem? (i := 49) rfl))) (mvT hZ158 (hw _ (List.mem_of_getElem? (i := 48) rfl))) (by decide) (backOf (W := 0) (rmia_1 l Z a0 hw [] b159 r_157 T160.heap n0 Z160 r160_1) hZ158 (hw _ (List.mem_of_getElem? (i := 50) rfl)) (hw _ (List.mem_of_getElem? (i := 28) rfl)) (by decide) (by decide)) q161a q161c (g := (mkF m 110 #[iv p1, iv p2, iv p3, iv p4, iv p5, iv (1 : Int32), iv (0 : Int32), iv (0 : Int32), rv r_157, .val .null, rv r_158, .val .null, rv b159] [(.ref b159)])) rfl (by rw [hml]; rfl) (Steps.refl _) (argsL := []) (rest := []) (lenOf pd__28__29_Z rfl) rfl (by show 2 * 0 + _ ≤ _; exact Nat.le_of_eq rfl) (hb hby at_110) (fun _ hv => ⟨rfl, rfl, (by decide : 9 + 0 ≤ _), (by decide : 24 + 0 ≤ _)⟩)
        dsimp only [Pt.U, Pt.locs, Pt.cells, Pt.slots] at X161 l161 y161 z161 st161 hQ161
        subst l161 y161 z161
        obtain ⟨rfl, Nq161, e161⟩ := hQ161
        refine own_go st161 ?_
        have N161 := Fr.app N160 Nq161
        show own_Fin _ _ _ _ (T161.setTop (mkF m 113 #[iv p1, iv p2, iv p3, iv p4, iv p5, iv (1 : Int32), iv (0 : Int32), iv (0 : Int32), rv r_157, .val .null, rv r_158, .val .null, rv b159] [(.int (1 : Int32))]))
        refine own_go (XS.iload X161.here hx rfl (hb hby at_113) rfl (Steps.refl _)) ?_
        show own_Fin _ _ _ _ (T161.setTop (mkF m 115 #[iv p1, iv p2, iv p3, iv p4, iv p5, iv (1 : Int32), iv (0 : Int32), iv (0 : Int32), rv r_157, .val .null, rv r_158, .val .null, rv b159] [(.int (1 : Int32)), (.int (1 : Int32))]))
        refine own_go (XS.icmpNo X161.here hx rfl (hb hby at_115) rfl (teq (by decide : (1 : Int32) = (1 : Int32))).2 (Steps.refl _)) ?_
        show own_Fin _ _ _ _ (T161.setTop (mkF m 118 #[iv p1, iv p2, iv p3, iv p4, iv p5, iv (1 : Int32), iv (0 : Int32), iv (0 : Int32), rv r_157, .val .null, rv r_158, .val .null, rv b159] []))
        refine own_go (XS.iconst X161.here hx rfl (hb hby at_118) (Steps.refl _)) ?_
        show own_Fin _ _ _ _ (T161.setTop (mkF m 119 #[iv p1, iv p2, iv p3, iv p4, iv p5, iv (1 : Int32), iv (0 : Int32), iv (0 : Int32), rv r_157, .val .null, rv r_158, .val .null, rv b159] [(.int (1 : Int32))]))
        refine own_go (XS.goto X161.here hx rfl (pc0 := 119) (pc' := 123) rfl (hb hby at_119) (by decide) (by decide) (Steps.refl _)) ?_
        show own_Fin _ _ _ _ (T161.setTop (mkF m 123 #[iv p1, iv p2, iv p3, iv p4, iv p5, iv (1 : Int32), iv (0 : Int32), iv (0 : Int32), rv r_157, .val .null, rv r_158, .val .null, rv b159] [(.int (1 : Int32))]))
        obtain ⟨fs162, hr162, hrun162, hended162, hRW162⟩ := X161.leaveW (s := s) hS158 (n := T158.heap.size) (by rw [e161]; exact hk160) (v := some (.int (1 : Int32))) (fun h => by rw [Bd.returns] at h; cases h)
        refine own_done (retN X161 hx (t := .boolean) Bd.returns (by simp) (hb hby at_123) hr162) hrun162 hended162 ⟨_, _, rfl, ?_, hRW162.1, hRW162.2.1, hRW162.2.2.1, hRW162.2.2.2.mono (by decide) (by decide)⟩
        show Q0 Z p1 p2 p3 p4 p5 cs h0 n0 _ T161.heap _
        rw [e161]
        exact ⟨rfl, N161⟩
      · refine own_go (XS.ifNo X0w.here hx rfl (hb hby at_29) rfl ((if0 _ _).trans (feq c29_156).1) (Steps.refl _)) ?_
        show own_Fin _ _ _ _ (s₁.setTop (mkF m 32 #[iv p1, iv p2, iv p3, iv p4, iv p5, iv (1 : Int32), iv (0 : Int32), .unset, .unset, .unset, .unset, .unset, .unset] []))
        refine own_go (XS.iconst X0w.here hx rfl (hb hby at_32) (Steps.refl _)) ?_
        show own_Fin _ _ _ _ (s₁.setTop (mkF m 33 #[iv p1, iv p2, iv p3, iv p4, iv p5, iv (1 : Int32), iv (0 : Int32), .unset, .unset, .unset, .unset, .unset, .unset] [(.int (1 : Int32))]))
        refine own_go (XS.goto X0w.here hx rfl (pc0 := 33) (pc' := 37) rfl (hb hby at_33) (by decide) (by decide) (Steps.refl _)) ?_
        show own_Fin _ _ _ _ (s₁.setTop (mkF m 37 #[iv p1, iv p2, iv p3, iv p4, iv p5, iv (1 : Int32), iv (0 : Int32), .unset, .unset, .unset, .unset, .unset, .unset] [(.int (1 : Int32))]))
        refine own_go (XS.istore X0w.here hx rfl (hb hby at_37) rfl rfl (Steps.refl _)) ?_
        show own_Fin _ _ _ _ (s₁.setTop (mkF m 39 #[iv p1, iv p2, iv p3, iv p4, iv p5, iv (1 : Int32), iv (0 : Int32), iv (1 : Int32), .unset, .unset, .unset, .unset, .unset] []))
        refine own_go (XS.iload X0w.here hx rfl (hb hby at_39) rfl (Steps.refl _)) ?_
        show own_Fin _ _ _ _ (s₁.setTop (mkF m 41 #[iv p1, iv p2, iv p3, iv p4, iv p5, iv (1 : Int32), iv (0 : Int32), iv (1 : Int32), .unset, .unset, .unset, .unset, .unset] [(.int (1 : Int32))]))
        refine own_go (XS.ifNo X0w.here hx rfl (hb hby at_41) rfl ((if0 _ _).trans (feq (by decide : ¬ ((1 : Int32) = (0 : Int32)))).1) (Steps.refl _)) ?_
        show own_Fin _ _ _ _ (s₁.setTop (mkF m 44 #[iv p1, iv p2, iv p3, iv p4, iv p5, iv (1 : Int32), iv (0 : Int32), iv (1 : Int32), .unset, .unset, .unset, .unset, .unset] []))
        refine own_go (XS.iloadN X0w.here hx rfl (hb hby at_44) rfl (Steps.refl _)) ?_
        show own_Fin _ _ _ _ (s₁.setTop (mkF m 45 #[iv p1, iv p2, iv p3, iv p4, iv p5, iv (1 : Int32), iv (0 : Int32), iv (1 : Int32), .unset, .unset, .unset, .unset, .unset] [(.int p2)]))
        obtain ⟨_, _, ⟨T163, L163, k163, n163⟩, -, X163, hs2163, hgr163, ⟨Lc163, ⟨hQ163, hK163⟩, l163, y163, z163⟩, st163⟩ := callSS X0w hx (y := (⟨"com/example/pryority/pryority/UriReferenceIsAbsolutePinLaw", "draw", "(I)Ljava/lang/String;"⟩ : MethodName)) hown (mvT hZ (hw _ (List.mem_of_getElem? (i := 0) rfl))) (mvT hZ (hw _ (List.mem_of_getElem? (i := 1) rfl))) (mvT hZ (hw _ (List.mem_of_getElem? (i := 2) rfl))) (mvT hZ (hw _ (List.mem_of_getElem? (i := 3) rfl))) (by decide) (own_backK (W := 0) (rmdr l Z a0 hw [] p2 cs h0 n0 Z0 O0 S_COMPACT_STRINGS hcs hh7 hcw) hZ (hw _ (List.mem_of_getElem? (i := 3) rfl)) (hw _ (List.mem_of_getElem? (i := 2) rfl)) (by decide) (by decide)) (g := (mkF m 45 #[iv p1, iv p2, iv p3, iv p4, iv p5, iv (1 : Int32), iv (0 : Int32), iv (1 : Int32), .unset, .unset, .unset, .unset, .unset] [(.int p2)])) rfl (by rw [hml]; rfl) (argsL := [(.int p2)]) (rest := []) (lenOf pd__28_I_29_Ljava_2f_lang_2f_String_3b_ rfl) rfl (by show 2 * 0 + _ ≤ _; exact Nat.le_of_eq rfl) (hb hby at_45) (fun _ hv => ⟨rfl, e0, (by decide : 0 + 4 ≤ _), (by decide : 0 + 10 ≤ _), own_K.warm hK0 hv⟩)
        dsimp only [Pt.U, Pt.locs, Pt.cells, Pt.slots] at X163 l163 y163 z163 st163 hQ163 hs2163 hgr163 hK163
        subst l163 y163 z163
        obtain ⟨Xr163, hS163, hZ163, hown163⟩ := rebS hS0 (show 0 ≤ s₁.heap.size by rw [e0]; exact hk0) X163 hs2163 hgr163 hZ hown
        refine own_go st163 ?_
        obtain ⟨r_163, rfl, Nq163, K163, g_r_163, sb_r_163, r163_0⟩ := hQ163
        have Od163 := O0.keep K163 all0
        have Z163 : n0 ≤ T163.heap.size := Nat.le_trans Z0 K163.1
        have hk163 : 0 ≤ T163.heap.size := Nat.le_trans hk0 K163.1
        have hkr163 : T163.heap.size ≤ T163.heap.size := Nat.le_refl _
        have N163 := Fr.app N0 Nq163
        show own_Fin _ _ _ _ (T163.setTop (mkF m 48 #[iv p1, iv p2, iv p3, iv p4, iv p5, iv (1 : Int32), iv (0 : Int32), iv (1 : Int32), .unset, .unset, .unset, .unset, .unset] [(.ref r_163)]))
        refine own_go (XS.goto Xr163.here hx rfl (pc0 := 48) (pc' := 52) rfl (hb hby at_48) (by decide) (by decide) (Steps.refl _)) ?_
        show own_Fin _ _ _ _ (T163.setTop (mkF m 52 #[iv p1, iv p2, iv p3, iv p4, iv p5, iv (1 : Int32), iv (0 : Int32), iv (1 : Int32), .unset, .unset, .unset, .unset, .unset] [(.ref r_163)]))
        refine own_go (XS.astore Xr163.here hx rfl (hb hby at_52) rfl rfl rfl (Steps.refl _)) ?_
        show own_Fin _ _ _ _ (T163.setTop (mkF m 54 #[iv p1, iv p2, iv p3, iv p4, iv p5, iv (1 : Int32), iv (0 : Int32), iv (1 : Int32), rv r_163, .unset, .unset, .unset, .unset] []))
        refine own_go (XS.iload Xr163.here hx rfl (hb hby at_54) rfl (Steps.refl _)) ?_
        show own_Fin _ _ _ _ (T163.setTop (mkF m 56 #[iv p1, iv p2, iv p3, iv p4, iv p5, iv (1 : Int32), iv (0 : Int32), iv (1 : Int32), rv r_163, .unset, .unset, .unset, .unset] [(.int (0 : Int32))]))
        refine own_go (XS.ifYes Xr163.here hx rfl (pc0 := 56) (pc' := 66) rfl (hb hby at_56) rfl ((if0 _ _).trans (teq (by decide : (0 : Int32) = (0 : Int32))).1) (by decide) (by decide) (Steps.refl _)) ?_
        show own_Fin _ _ _ _ (T163.setTop (mkF m 66 #[iv p1, iv p2, iv p3, iv p4, iv p5, iv (1 : Int32), iv (0 : Int32), iv (1 : Int32), rv r_163, .unset, .unset, .unset, .unset] []))
        refine own_go (XS.aconstNull Xr163.here hx rfl (hb hby at_66) (Steps.refl _)) ?_
        show own_Fin _ _ _ _ (T163.setTop (mkF m 67 #[iv p1, iv p2, iv p3, iv p4, iv p5, iv (1 : Int32), iv (0 : Int32), iv (1 : Int32), rv r_163, .unset, .unset, .unset, .unset] [.null]))
        refine own_go (XS.astore Xr163.here hx rfl (hb hby at_67) rfl rfl rfl (Steps.refl _)) ?_
        show own_Fin _ _ _ _ (T163.setTop (mkF m 69 #[iv p1, iv p2, iv p3, iv p4, iv p5, iv (1 : Int32), iv (0 : Int32), iv (1 : Int32), rv r_163, .val .null, .unset, .unset, .unset] []))
        refine own_go (XS.iloadN Xr163.here hx rfl (hb hby at_69) rfl (Steps.refl _)) ?_
        show own_Fin _ _ _ _ (T163.setTop (mkF m 70 #[iv p1, iv p2, iv p3, iv p4, iv p5, iv (1 : Int32), iv (0 : Int32), iv (1 : Int32), rv r_163, .val .null, .unset, .unset, .unset] [(.int p4)]))
        obtain ⟨_, _, ⟨T164, L164, k164, n164⟩, -, X164, hs2164, hgr164, ⟨Lc164, ⟨hQ164, hK164⟩, l164, y164, z164⟩, st164⟩ := callSS Xr163 hx (y := (⟨"com/example/pryority/pryority/UriReferenceIsAbsolutePinLaw", "draw", "(I)Ljava/lang/String;"⟩ : MethodName)) hown163 (mvT hZ163 (hw _ (List.mem_of_getElem? (i := 0) rfl))) (mvT hZ163 (hw _ (List.mem_of_getElem? (i := 1) rfl))) (mvT hZ163 (hw _ (List.mem_of_getElem? (i := 2) rfl))) (mvT hZ163 (hw _ (List.mem_of_getElem? (i := 3) rfl))) (by decide) (own_backK (W := 0) (rmdr l Z a0 hw [] p4 cs T163.heap n0 Z163 Od163 S_COMPACT_STRINGS hcs hh7 hcw) hZ163 (hw _ (List.mem_of_getElem? (i := 3) rfl)) (hw _ (List.mem_of_getElem? (i := 2) rfl)) (by decide) (by decide)) (g := (mkF m 70 #[iv p1, iv p2, iv p3, iv p4, iv p5, iv (1 : Int32), iv (0 : Int32), iv (1 : Int32), rv r_163, .val .null, .unset, .unset, .unset] [(.int p4)])) rfl (by rw [hml]; rfl) (argsL := [(.int p4)]) (rest := []) (lenOf pd__28_I_29_Ljava_2f_lang_2f_String_3b_ rfl) rfl (by show 2 * 0 + _ ≤ _; exact Nat.le_of_eq rfl) (hb hby at_70) (fun _ hv => ⟨rfl, rfl, (by decide : 4 + 4 ≤ _), (by decide : 10 + 10 ≤ _), own_K.warm hK163 hv⟩)
        dsimp only [Pt.U, Pt.locs, Pt.cells, Pt.slots] at X164 l164 y164 z164 st164 hQ164 hs2164 hgr164 hK164
        subst l164 y164 z164
        obtain ⟨Xr164, hS164, hZ164, hown164⟩ := rebS hS163 (show T163.heap.size ≤ T163.heap.size from hkr163) X164 hs2164 hgr164 hZ163 hown163
        refine own_go st164 ?_
        obtain ⟨r_164, rfl, Nq164, K164, g_r_164, sb_r_164, r164_0⟩ := hQ164
        have ne_r_163_r_164 : r_163 ≠ r_164 := Nat.ne_of_lt (Nat.lt_of_lt_of_le r163_0.lt sb_r_164)
        have Od164 := Od163.keep K164 all0
        have r163_0_164 := r163_0.keep K164
        have Z164 : n0 ≤ T164.heap.size := Nat.le_trans Z163 K164.1
        have hk164 : T163.heap.size ≤ T164.heap.size := Nat.le_trans hkr163 K164.1
        have hkr164 : T164.heap.size ≤ T164.heap.size := Nat.le_refl _
        have N164 := Fr.app N163 Nq164
        show own_Fin _ _ _ _ (T164.setTop (mkF m 73 #[iv p1, iv p2, iv p3, iv p4, iv p5, iv (1 : Int32), iv (0 : Int32), iv (1 : Int32), rv r_163, .val .null, .unset, .unset, .unset] [(.ref r_164)]))
        refine own_go (XS.astore Xr164.here hx rfl (hb hby at_73) rfl rfl rfl (Steps.refl _)) ?_
        show own_Fin _ _ _ _ (T164.setTop (mkF m 75 #[iv p1, iv p2, iv p3, iv p4, iv p5, iv (1 : Int32), iv (0 : Int32), iv (1 : Int32), rv r_163, .val .null, rv r_164, .unset, .unset] []))
        refine own_go (XS.iload Xr164.here hx rfl (hb hby at_75) rfl (Steps.refl _)) ?_
        show own_Fin _ _ _ _ (T164.setTop (mkF m 77 #[iv p1, iv p2, iv p3, iv p4, iv p5, iv (1 : Int32), iv (0 : Int32), iv (1 : Int32), rv r_163, .val .null, rv r_164, .unset, .unset] [(.int (1 : Int32))]))
        refine own_go (XS.ifNo Xr164.here hx rfl (hb hby at_77) rfl ((if0 _ _).trans (feq (by decide : ¬ ((1 : Int32) = (0 : Int32)))).1) (Steps.refl _)) ?_
        show own_Fin _ _ _ _ (T164.setTop (mkF m 80 #[iv p1, iv p2, iv p3, iv p4, iv p5, iv (1 : Int32), iv (0 : Int32), iv (1 : Int32), rv r_163, .val .null, rv r_164, .unset, .unset] []))
        refine own_go (XS.iload Xr164.here hx rfl (hb hby at_80) rfl (Steps.refl _)) ?_
        show own_Fin _ _ _ _ (T164.setTop (mkF m 82 #[iv p1, iv p2, iv p3, iv p4, iv p5, iv (1 : Int32), iv (0 : Int32), iv (1 : Int32), rv r_163, .val .null, rv r_164, .unset, .unset] [(.int p5)]))
        obtain ⟨_, _, ⟨T165, L165, k165, n165⟩, -, X165, hs2165, hgr165, ⟨Lc165, ⟨hQ165, hK165⟩, l165, y165, z165⟩, st165⟩ := callSS Xr164 hx (y := (⟨"com/example/pryority/pryority/UriReferenceIsAbsolutePinLaw", "draw", "(I)Ljava/lang/String;"⟩ : MethodName)) hown164 (mvT hZ164 (hw _ (List.mem_of_getElem? (i := 0) rfl))) (mvT hZ164 (hw _ (List.mem_of_getElem? (i := 1) rfl))) (mvT hZ164 (hw _ (List.mem_of_getElem? (i := 2) rfl))) (mvT hZ164 (hw _ (List.mem_of_getElem? (i := 3) rfl))) (by decide) (own_backK (W := 0) (rmdr l Z a0 hw [] p5 cs T164.heap n0 Z164 Od164 S_COMPACT_STRINGS hcs hh7 hcw) hZ164 (hw _ (List.mem_of_getElem? (i := 3) rfl)) (hw _ (List.mem_of_getElem? (i := 2) rfl)) (by decide) (by decide)) (g := (mkF m 82 #[iv p1, iv p2, iv p3, iv p4, iv p5, iv (1 : Int32), iv (0 : Int32), iv (1 : Int32), rv r_163, .val .null, rv r_164, .unset, .unset] [(.int p5)])) rfl (by rw [hml]; rfl) (argsL := [(.int p5)]) (rest := []) (lenOf pd__28_I_29_Ljava_2f_lang_2f_String_3b_ rfl) rfl (by show 2 * 0 + _ ≤ _; exact Nat.le_of_eq rfl) (hb hby at_82) (fun _ hv => ⟨rfl, rfl, (by decide : 8 + 4 ≤ _), (by decide : 20 + 10 ≤ _), own_K.warm hK164 hv⟩)
        dsimp only [Pt.U, Pt.locs, Pt.cells, Pt.slots] at X165 l165 y165 z165 st165 hQ165 hs2165 hgr165 hK165
        subst l165 y165 z165
        obtain ⟨Xr165, hS165, hZ165, hown165⟩ := rebS hS164 (show T164.heap.size ≤ T164.heap.size from hkr164) X165 hs2165 hgr165 hZ164 hown164
        refine own_go st165 ?_
        obtain ⟨r_165, rfl, Nq165, K165, g_r_165, sb_r_165, r165_0⟩ := hQ165
        have ne_r_163_r_165 : r_163 ≠ r_165 := Nat.ne_of_lt (Nat.lt_of_lt_of_le r163_0_164.lt sb_r_165)
        have ne_r_164_r_165 : r_164 ≠ r_165 := Nat.ne_of_lt (Nat.lt_of_lt_of_le r164_0.lt sb_r_165)
        have Od165 := Od164.keep K165 all0
        have r163_0_165 := r163_0_164.keep K165
        have r164_0_165 := r164_0.keep K165
        have Z165 : n0 ≤ T165.heap.size := Nat.le_trans Z164 K165.1
        have hk165 : T164.heap.size ≤ T165.heap.size := Nat.le_trans hkr164 K165.1
        have hkr165 : T165.heap.size ≤ T165.heap.size := Nat.le_refl _
        have N165 := Fr.app N164 Nq165
        show own_Fin _ _ _ _ (T165.setTop (mkF m 85 #[iv p1, iv p2, iv p3, iv p4, iv p5, iv (1 : Int32), iv (0 : Int32), iv (1 : Int32), rv r_163, .val .null, rv r_164, .unset, .unset] [(.ref r_165)]))
        refine own_go (XS.goto Xr165.here hx rfl (pc0 := 85) (pc' := 89) rfl (hb hby at_85) (by decide) (by decide) (Steps.refl _)) ?_
        show own_Fin _ _ _ _ (T165.setTop (mkF m 89 #[iv p1, iv p2, iv p3, iv p4, iv p5, iv (1 : Int32), iv (0 : Int32), iv (1 : Int32), rv r_163, .val .null, rv r_164, .unset, .unset] [(.ref r_165)]))
        refine own_go (XS.astore Xr165.here hx rfl (hb hby at_89) rfl rfl rfl (Steps.refl _)) ?_
        show own_Fin _ _ _ _ (T165.setTop (mkF m 91 #[iv p1, iv p2, iv p3, iv p4, iv p5, iv (1 : Int32), iv (0 : Int32), iv (1 : Int32), rv r_163, .val .null, rv r_164, rv r_165, .unset] []))
        obtain ⟨T166, h166, X166, e166, E166, A166, D166, U166, st166⟩ := newO Xr165 hx hZ165 hown165 (hw _ (List.mem_of_getElem? (i := 26) rfl)) (hw _ (List.mem_of_getElem? (i := 27) rfl)) (hw _ (List.mem_of_getElem? (i := 28) rfl)) rfl (g := (mkF m 91 #[iv p1, iv p2, iv p3, iv p4, iv p5, iv (1 : Int32), iv (0 : Int32), iv (1 : Int32), rv r_163, .val .null, rv r_164, rv r_165, .unset] [])) rfl (hb hby at_91) (by decide) (by decide)
        obtain ⟨b166, g166⟩ : ∃ z, z = T165.heap.size := ⟨_, rfl⟩
        rw [← g166] at A166 D166 U166 st166
        refine own_by st166 ?_
        have ne_r_163_b166 : r_163 ≠ b166 := Nat.ne_of_lt (Nat.lt_of_lt_of_eq r163_0_165.lt g166.symm)
        have ne_r_164_b166 : r_164 ≠ b166 := Nat.ne_of_lt (Nat.lt_of_lt_of_eq r164_0_165.lt g166.symm)
        have ne_r_165_b166 : r_165 ≠ b166 := Nat.ne_of_lt (Nat.lt_of_lt_of_eq r165_0.lt g166.symm)
        have Od166 := Od165.ext E166
        have r163_0_166 := r163_0_165.ext E166
        have r164_0_166 := r164_0_165.ext E166
        have r165_0_166 := r165_0.ext E166
        have g_b166 : n0 ≤ b166 := Nat.le_trans Z165 (Nat.le_of_eq g166.symm)
        have Z166 : n0 ≤ h166.size := Nat.le_trans Z165 E166.1
        have hk166 : T165.heap.size ≤ h166.size := Nat.le_trans hkr165 E166.1
        have E_b166 := A166
        have F_scheme_b166 : Fld Z h166 b166 "com/example/pryority/pryority/UriReference" "scheme" "Ljava/lang/String;" .null := D166 (Or.inr (hw _ (List.mem_of_getElem? (i := 39) rfl))) (ty := (.object "java/lang/String")) (by decide)
        have F_authority_b166 : Fld Z h166 b166 "com/example/pryority/pryority/UriReference" "authority" "Ljava/lang/String;" .null := D166 (Or.inr (hw _ (List.mem_of_getElem? (i := 41) rfl))) (ty := (.object "java/lang/String")) (by decide)
        have F_path_b166 : Fld Z h166 b166 "com/example/pryority/pryority/UriReference" "path" "Ljava/lang/String;" .null := D166 (Or.inr (hw _ (List.mem_of_getElem? (i := 43) rfl))) (ty := (.object "java/lang/String")) (by decide)
        have F_query_b166 : Fld Z h166 b166 "com/example/pryority/pryority/UriReference" "query" "Ljava/lang/String;" .null := D166 (Or.inr (hw _ (List.mem_of_getElem? (i := 45) rfl))) (ty := (.object "java/lang/String")) (by decide)
        show own_Fin _ _ _ _ (T166.setTop (mkF m 94 #[iv p1, iv p2, iv p3, iv p4, iv p5, iv (1 : Int32), iv (0 : Int32), iv (1 : Int32), rv r_163, .val .null, rv r_164, rv r_165, .unset] [(.ref b166)]))
        refine own_go (XS.dup X166.here hx rfl (hb hby at_94) rfl rfl (Steps.refl _)) ?_
        show own_Fin _ _ _ _ (T166.setTop (mkF m 95 #[iv p1, iv p2, iv p3, iv p4, iv p5, iv (1 : Int32), iv (0 : Int32), iv (1 : Int32), rv r_163, .val .null, rv r_164, rv r_165, .unset] [(.ref b166), (.ref b166)]))
        refine own_go (XS.aload X166.here hx rfl (hb hby at_95) rfl rfl (Steps.refl _)) ?_
        show own_Fin _ _ _ _ (T166.setTop (mkF m 97 #[iv p1, iv p2, iv p3, iv p4, iv p5, iv (1 : Int32), iv (0 : Int32), iv (1 : Int32), rv r_163, .val .null, rv r_164, rv r_165, .unset] [(.ref r_163), (.ref b166), (.ref b166)]))
        refine own_go (XS.aload X166.here hx rfl (hb hby at_97) rfl rfl (Steps.refl _)) ?_
        show own_Fin _ _ _ _ (T166.setTop (mkF m 99 #[iv p1, iv p2, iv p3, iv p4, iv p5, iv (1 : Int32), iv (0 : Int32), iv (1 : Int32), rv r_163, .val .null, rv r_164, rv r_165, .unset] [.null, (.ref r_163), (.ref b166), (.ref b166)]))
        refine own_go (XS.aload X166.here hx rfl (hb hby at_99) rfl rfl (Steps.refl _)) ?_
        show own_Fin _ _ _ _ (T166.setTop (mkF m 101 #[iv p1, iv p2, iv p3, iv p4, iv p5, iv (1 : Int32), iv (0 : Int32), iv (1 : Int32), rv r_163, .val .null, rv r_164, rv r_165, .unset] [(.ref r_164), .null, (.ref r_163), (.ref b166), (.ref b166)]))
        refine own_go (XS.aload X166.here hx rfl (hb hby at_101) rfl rfl (Steps.refl _)) ?_
        show own_Fin _ _ _ _ (T166.setTop (mkF m 103 #[iv p1, iv p2, iv p3, iv p4, iv p5, iv (1 : Int32), iv (0 : Int32), iv (1 : Int32), rv r_163, .val .null, rv r_164, rv r_165, .unset] [(.ref r_165), (.ref r_164), .null, (.ref r_163), (.ref b166), (.ref b166)]))
        obtain ⟨_, _, ⟨T167, L167, k167, n167⟩, -, X167, ⟨Lc167, hQ167, l167, y167, z167⟩, st167⟩ := X166.specialBack hx (y := (⟨"com/example/pryority/pryority/UriReference", "<init>", "(Ljava/lang/String;Ljava/lang/String;Ljava/lang/String;Ljava/lang/String;)V"⟩ : MethodName)) rfl hown165 (mvT hZ165 (hw _ (List.mem_of_getElem? (i := 29) rfl))) (mvT hZ165 (hw _ (List.mem_of_getElem? (i := 30) rfl))) (mvT hZ165 (hw _ (List.mem_of_getElem? (i := 31) rfl))) (by decide) (backOf (W := 1) (rmui_5 l Z a0 hw [] b166 r_163 r_164 r_165 h166 n0 Z166 E_b166 F_scheme_b166 F_authority_b166 F_path_b166 F_query_b166 g_b166) hZ165 (hw _ (List.mem_of_getElem? (i := 31) rfl)) (hw _ (List.mem_of_getElem? (i := 28) rfl)) (by decide) (by decide)) (g := (mkF m 103 #[iv p1, iv p2, iv p3, iv p4, iv p5, iv (1 : Int32), iv (0 : Int32), iv (1 : Int32), rv r_163, .val .null, rv r_164, rv r_165, .unset] [(.ref r_165), (.ref r_164), .null, (.ref r_163), (.ref b166), (.ref b166)])) rfl (by rw [hml]; rfl) (Steps.refl _) (a := b166) (argsL := [(.ref r_163), .null, (.ref r_164), (.ref r_165)]) (rest := [(.ref b166)]) (lenOf pd__28_Ljava_2f_lang_2f_String_3b_Ljava_2f_lang_2f_String_3b_Ljava_2f_lang_2f_String_3b_Ljava_2f_lang_2f_String_3b__29_V rfl) rfl (by show 2 * 0 + _ ≤ _; exact Nat.le_of_eq rfl) (hb hby at_103) (fun _ hv => ⟨rfl, e166, (by decide : 13 + 0 ≤ _), (by decide : 34 + 0 ≤ _)⟩)
        dsimp only [Pt.U, Pt.locs, Pt.cells, Pt.slots] at X167 l167 y167 z167 st167 hQ167
        subst l167 y167 z167
        refine own_go st167 ?_
        obtain ⟨rfl, Nq167, K167, r167_0, r167_1, r167_2, r167_3, r167_4⟩ := hQ167
        have Od167 := Od166.keep K167 (allS g_b166 all0)
        have r163_0_167 := r163_0_166.keep K167
        have r164_0_167 := r164_0_166.keep K167
        have r165_0_167 := r165_0_166.keep K167
        have E_b166_167 := E_b166.keep K167
        have Z167 : n0 ≤ T167.heap.size := Nat.le_trans Z166 K167.1
        have hk167 : T165.heap.size ≤ T167.heap.size := Nat.le_trans hk166 K167.1
        have N167 := Fr.app N165 Nq167
        show own_Fin _ _ _ _ (T167.setTop (mkF m 106 #[iv p1, iv p2, iv p3, iv p4, iv p5, iv (1 : Int32), iv (0 : Int32), iv (1 : Int32), rv r_163, .val .null, rv r_164, rv r_165, .unset] [(.ref b166)]))
        refine own_go (XS.astore X167.here hx rfl (hb hby at_106) rfl rfl rfl (Steps.refl _)) ?_
        show own_Fin _ _ _ _ (T167.setTop (mkF m 108 #[iv p1, iv p2, iv p3, iv p4, iv p5, iv (1 : Int32), iv (0 : Int32), iv (1 : Int32), rv r_163, .val .null, rv r_164, rv r_165, rv b166] []))
        refine own_go (XS.aload X167.here hx rfl (hb hby at_108) rfl rfl (Steps.refl _)) ?_
        show own_Fin _ _ _ _ (T167.setTop (mkF m 110 #[iv p1, iv p2, iv p3, iv p4, iv p5, iv (1 : Int32), iv (0 : Int32), iv (1 : Int32), rv r_163, .val .null, rv r_164, rv r_165, rv b166] [(.ref b166)]))
        obtain ⟨cq168, kq168, q168a, q168b, q168c⟩ := isOf hZ165 rfl r167_0
        obtain ⟨_, _, ⟨T168, L168, k168, n168⟩, -, X168, ⟨Lc168, hQ168, l168, y168, z168⟩, st168⟩ := X167.virtualBack hx (y := (⟨"com/example/pryority/pryority/UriReference", "isAbsolute", "()Z"⟩ : MethodName)) (z := (⟨"com/example/pryority/pryority/UriReference", "isAbsolute", "()Z"⟩ : MethodName)) hown165 (mvT hZ165 (hw _ (List.mem_of_getElem? (i := 46) rfl))) (mvT hZ165 (hw _ (List.mem_of_getElem? (i := 47) rfl))) (notFace_of_selects (args := #[]) (mvT hZ165 (hw _ (List.mem_of_getElem? (i := 49) rfl)))) (mvT hZ165 (hw _ (List.mem_of_getElem? (i := 49) rfl))) (mvT hZ165 (hw _ (List.mem_of_getElem? (i := 48) rfl))) (by decide) (backOf (W := 0) (rmia_1 l Z a0 hw [] b166 r_163 T167.heap n0 Z167 r167_1) hZ165 (hw _ (List.mem_of_getElem? (i := 50) rfl)) (hw _ (List.mem_of_getElem? (i := 28) rfl)) (by decide) (by decide)) q168a q168c (g := (mkF m 110 #[iv p1, iv p2, iv p3, iv p4, iv p5, iv (1 : Int32), iv (0 : Int32), iv (1 : Int32), rv r_163, .val .null, rv r_164, rv r_165, rv b166] [(.ref b166)])) rfl (by rw [hml]; rfl) (Steps.refl _) (argsL := []) (rest := []) (lenOf pd__28__29_Z rfl) rfl (by show 2 * 0 + _ ≤ _; exact Nat.le_of_eq rfl) (hb hby at_110) (fun _ hv => ⟨rfl, rfl, (by decide : 13 + 0 ≤ _), (by decide : 34 + 0 ≤ _)⟩)
        dsimp only [Pt.U, Pt.locs, Pt.cells, Pt.slots] at X168 l168 y168 z168 st168 hQ168
        subst l168 y168 z168
        obtain ⟨rfl, Nq168, e168⟩ := hQ168
        refine own_go st168 ?_
        have N168 := Fr.app N167 Nq168
        show own_Fin _ _ _ _ (T168.setTop (mkF m 113 #[iv p1, iv p2, iv p3, iv p4, iv p5, iv (1 : Int32), iv (0 : Int32), iv (1 : Int32), rv r_163, .val .null, rv r_164, rv r_165, rv b166] [(.int (1 : Int32))]))
        refine own_go (XS.iload X168.here hx rfl (hb hby at_113) rfl (Steps.refl _)) ?_
        show own_Fin _ _ _ _ (T168.setTop (mkF m 115 #[iv p1, iv p2, iv p3, iv p4, iv p5, iv (1 : Int32), iv (0 : Int32), iv (1 : Int32), rv r_163, .val .null, rv r_164, rv r_165, rv b166] [(.int (1 : Int32)), (.int (1 : Int32))]))
        refine own_go (XS.icmpNo X168.here hx rfl (hb hby at_115) rfl (teq (by decide : (1 : Int32) = (1 : Int32))).2 (Steps.refl _)) ?_
        show own_Fin _ _ _ _ (T168.setTop (mkF m 118 #[iv p1, iv p2, iv p3, iv p4, iv p5, iv (1 : Int32), iv (0 : Int32), iv (1 : Int32), rv r_163, .val .null, rv r_164, rv r_165, rv b166] []))
        refine own_go (XS.iconst X168.here hx rfl (hb hby at_118) (Steps.refl _)) ?_
        show own_Fin _ _ _ _ (T168.setTop (mkF m 119 #[iv p1, iv p2, iv p3, iv p4, iv p5, iv (1 : Int32), iv (0 : Int32), iv (1 : Int32), rv r_163, .val .null, rv r_164, rv r_165, rv b166] [(.int (1 : Int32))]))
        refine own_go (XS.goto X168.here hx rfl (pc0 := 119) (pc' := 123) rfl (hb hby at_119) (by decide) (by decide) (Steps.refl _)) ?_
        show own_Fin _ _ _ _ (T168.setTop (mkF m 123 #[iv p1, iv p2, iv p3, iv p4, iv p5, iv (1 : Int32), iv (0 : Int32), iv (1 : Int32), rv r_163, .val .null, rv r_164, rv r_165, rv b166] [(.int (1 : Int32))]))
        obtain ⟨fs169, hr169, hrun169, hended169, hRW169⟩ := X168.leaveW (s := s) hS165 (n := T165.heap.size) (by rw [e168]; exact hk167) (v := some (.int (1 : Int32))) (fun h => by rw [Bd.returns] at h; cases h)
        refine own_done (retN X168 hx (t := .boolean) Bd.returns (by simp) (hb hby at_123) hr169) hrun169 hended169 ⟨_, _, rfl, ?_, hRW169.1, hRW169.2.1, hRW169.2.2.1, hRW169.2.2.2.mono (by decide) (by decide)⟩
        show Q0 Z p1 p2 p3 p4 p5 cs h0 n0 _ T168.heap _
        rw [e168]
        exact ⟨rfl, N168⟩
    · refine own_go (XS.ifNo X0w.here hx rfl (hb hby at_16) rfl ((if0 _ _).trans (feq c16_155).1) (Steps.refl _)) ?_
      show own_Fin _ _ _ _ (s₁.setTop (mkF m 19 #[iv p1, iv p2, iv p3, iv p4, iv p5, iv (1 : Int32), .unset, .unset, .unset, .unset, .unset, .unset, .unset] []))
      refine own_go (XS.iconst X0w.here hx rfl (hb hby at_19) (Steps.refl _)) ?_
      show own_Fin _ _ _ _ (s₁.setTop (mkF m 20 #[iv p1, iv p2, iv p3, iv p4, iv p5, iv (1 : Int32), .unset, .unset, .unset, .unset, .unset, .unset, .unset] [(.int (1 : Int32))]))
      refine own_go (XS.goto X0w.here hx rfl (pc0 := 20) (pc' := 24) rfl (hb hby at_20) (by decide) (by decide) (Steps.refl _)) ?_
      show own_Fin _ _ _ _ (s₁.setTop (mkF m 24 #[iv p1, iv p2, iv p3, iv p4, iv p5, iv (1 : Int32), .unset, .unset, .unset, .unset, .unset, .unset, .unset] [(.int (1 : Int32))]))
      refine own_go (XS.istore X0w.here hx rfl (hb hby at_24) rfl rfl (Steps.refl _)) ?_
      show own_Fin _ _ _ _ (s₁.setTop (mkF m 26 #[iv p1, iv p2, iv p3, iv p4, iv p5, iv (1 : Int32), iv (1 : Int32), .unset, .unset, .unset, .unset, .unset, .unset] []))
      refine own_go (XS.iloadN X0w.here hx rfl (hb hby at_26) rfl (Steps.refl _)) ?_
      show own_Fin _ _ _ _ (s₁.setTop (mkF m 27 #[iv p1, iv p2, iv p3, iv p4, iv p5, iv (1 : Int32), iv (1 : Int32), .unset, .unset, .unset, .unset, .unset, .unset] [(.int p1)]))
      refine own_go (XS.iconst X0w.here hx rfl (hb hby at_27) (Steps.refl _)) ?_
      show own_Fin _ _ _ _ (s₁.setTop (mkF m 28 #[iv p1, iv p2, iv p3, iv p4, iv p5, iv (1 : Int32), iv (1 : Int32), .unset, .unset, .unset, .unset, .unset, .unset] [(.int (4 : Int32)), (.int p1)]))
      refine own_go (XS.iand X0w.here hx rfl (hb hby at_28) rfl (Steps.refl _)) ?_
      show own_Fin _ _ _ _ (s₁.setTop (mkF m 29 #[iv p1, iv p2, iv p3, iv p4, iv p5, iv (1 : Int32), iv (1 : Int32), .unset, .unset, .unset, .unset, .unset, .unset] [(.int (p1 &&& (4 : Int32)))]))
      by_cases c29_170 : (p1 &&& (4 : Int32)) = (0 : Int32)
      · refine own_go (XS.ifYes X0w.here hx rfl (pc0 := 29) (pc' := 36) rfl (hb hby at_29) rfl ((if0 _ _).trans (teq c29_170).1) (by decide) (by decide) (Steps.refl _)) ?_
        show own_Fin _ _ _ _ (s₁.setTop (mkF m 36 #[iv p1, iv p2, iv p3, iv p4, iv p5, iv (1 : Int32), iv (1 : Int32), .unset, .unset, .unset, .unset, .unset, .unset] []))
        refine own_go (XS.iconst X0w.here hx rfl (hb hby at_36) (Steps.refl _)) ?_
        show own_Fin _ _ _ _ (s₁.setTop (mkF m 37 #[iv p1, iv p2, iv p3, iv p4, iv p5, iv (1 : Int32), iv (1 : Int32), .unset, .unset, .unset, .unset, .unset, .unset] [(.int (0 : Int32))]))
        refine own_go (XS.istore X0w.here hx rfl (hb hby at_37) rfl rfl (Steps.refl _)) ?_
        show own_Fin _ _ _ _ (s₁.setTop (mkF m 39 #[iv p1, iv p2, iv p3, iv p4, iv p5, iv (1 : Int32), iv (1 : Int32), iv (0 : Int32), .unset, .unset, .unset, .unset, .unset] []))
        refine own_go (XS.iload X0w.here hx rfl (hb hby at_39) rfl (Steps.refl _)) ?_
        show own_Fin _ _ _ _ (s₁.setTop (mkF m 41 #[iv p1, iv p2, iv p3, iv p4, iv p5, iv (1 : Int32), iv (1 : Int32), iv (0 : Int32), .unset, .unset, .unset, .unset, .unset] [(.int (1 : Int32))]))
        refine own_go (XS.ifNo X0w.here hx rfl (hb hby at_41) rfl ((if0 _ _).trans (feq (by decide : ¬ ((1 : Int32) = (0 : Int32)))).1) (Steps.refl _)) ?_
        show own_Fin _ _ _ _ (s₁.setTop (mkF m 44 #[iv p1, iv p2, iv p3, iv p4, iv p5, iv (1 : Int32), iv (1 : Int32), iv (0 : Int32), .unset, .unset, .unset, .unset, .unset] []))
        refine own_go (XS.iloadN X0w.here hx rfl (hb hby at_44) rfl (Steps.refl _)) ?_
        show own_Fin _ _ _ _ (s₁.setTop (mkF m 45 #[iv p1, iv p2, iv p3, iv p4, iv p5, iv (1 : Int32), iv (1 : Int32), iv (0 : Int32), .unset, .unset, .unset, .unset, .unset] [(.int p2)]))
        obtain ⟨_, _, ⟨T171, L171, k171, n171⟩, -, X171, hs2171, hgr171, ⟨Lc171, ⟨hQ171, hK171⟩, l171, y171, z171⟩, st171⟩ := callSS X0w hx (y := (⟨"com/example/pryority/pryority/UriReferenceIsAbsolutePinLaw", "draw", "(I)Ljava/lang/String;"⟩ : MethodName)) hown (mvT hZ (hw _ (List.mem_of_getElem? (i := 0) rfl))) (mvT hZ (hw _ (List.mem_of_getElem? (i := 1) rfl))) (mvT hZ (hw _ (List.mem_of_getElem? (i := 2) rfl))) (mvT hZ (hw _ (List.mem_of_getElem? (i := 3) rfl))) (by decide) (own_backK (W := 0) (rmdr l Z a0 hw [] p2 cs h0 n0 Z0 O0 S_COMPACT_STRINGS hcs hh7 hcw) hZ (hw _ (List.mem_of_getElem? (i := 3) rfl)) (hw _ (List.mem_of_getElem? (i := 2) rfl)) (by decide) (by decide)) (g := (mkF m 45 #[iv p1, iv p2, iv p3, iv p4, iv p5, iv (1 : Int32), iv (1 : Int32), iv (0 : Int32), .unset, .unset, .unset, .unset, .unset] [(.int p2)])) rfl (by rw [hml]; rfl) (argsL := [(.int p2)]) (rest := []) (lenOf pd__28_I_29_Ljava_2f_lang_2f_String_3b_ rfl) rfl (by show 2 * 0 + _ ≤ _; exact Nat.le_of_eq rfl) (hb hby at_45) (fun _ hv => ⟨rfl, e0, (by decide : 0 + 4 ≤ _), (by decide : 0 + 10 ≤ _), own_K.warm hK0 hv⟩)
        dsimp only [Pt.U, Pt.locs, Pt.cells, Pt.slots] at X171 l171 y171 z171 st171 hQ171 hs2171 hgr171 hK171
        subst l171 y171 z171
        obtain ⟨Xr171, hS171, hZ171, hown171⟩ := rebS hS0 (show 0 ≤ s₁.heap.size by rw [e0]; exact hk0) X171 hs2171 hgr171 hZ hown
        refine own_go st171 ?_
        obtain ⟨r_171, rfl, Nq171, K171, g_r_171, sb_r_171, r171_0⟩ := hQ171
        have Od171 := O0.keep K171 all0
        have Z171 : n0 ≤ T171.heap.size := Nat.le_trans Z0 K171.1
        have hk171 : 0 ≤ T171.heap.size := Nat.le_trans hk0 K171.1
        have hkr171 : T171.heap.size ≤ T171.heap.size := Nat.le_refl _
        have N171 := Fr.app N0 Nq171
        show own_Fin _ _ _ _ (T171.setTop (mkF m 48 #[iv p1, iv p2, iv p3, iv p4, iv p5, iv (1 : Int32), iv (1 : Int32), iv (0 : Int32), .unset, .unset, .unset, .unset, .unset] [(.ref r_171)]))
        refine own_go (XS.goto Xr171.here hx rfl (pc0 := 48) (pc' := 52) rfl (hb hby at_48) (by decide) (by decide) (Steps.refl _)) ?_
        show own_Fin _ _ _ _ (T171.setTop (mkF m 52 #[iv p1, iv p2, iv p3, iv p4, iv p5, iv (1 : Int32), iv (1 : Int32), iv (0 : Int32), .unset, .unset, .unset, .unset, .unset] [(.ref r_171)]))
        refine own_go (XS.astore Xr171.here hx rfl (hb hby at_52) rfl rfl rfl (Steps.refl _)) ?_
        show own_Fin _ _ _ _ (T171.setTop (mkF m 54 #[iv p1, iv p2, iv p3, iv p4, iv p5, iv (1 : Int32), iv (1 : Int32), iv (0 : Int32), rv r_171, .unset, .unset, .unset, .unset] []))
        refine own_go (XS.iload Xr171.here hx rfl (hb hby at_54) rfl (Steps.refl _)) ?_
        show own_Fin _ _ _ _ (T171.setTop (mkF m 56 #[iv p1, iv p2, iv p3, iv p4, iv p5, iv (1 : Int32), iv (1 : Int32), iv (0 : Int32), rv r_171, .unset, .unset, .unset, .unset] [(.int (1 : Int32))]))
        refine own_go (XS.ifNo Xr171.here hx rfl (hb hby at_56) rfl ((if0 _ _).trans (feq (by decide : ¬ ((1 : Int32) = (0 : Int32)))).1) (Steps.refl _)) ?_
        show own_Fin _ _ _ _ (T171.setTop (mkF m 59 #[iv p1, iv p2, iv p3, iv p4, iv p5, iv (1 : Int32), iv (1 : Int32), iv (0 : Int32), rv r_171, .unset, .unset, .unset, .unset] []))
        refine own_go (XS.iloadN Xr171.here hx rfl (hb hby at_59) rfl (Steps.refl _)) ?_
        show own_Fin _ _ _ _ (T171.setTop (mkF m 60 #[iv p1, iv p2, iv p3, iv p4, iv p5, iv (1 : Int32), iv (1 : Int32), iv (0 : Int32), rv r_171, .unset, .unset, .unset, .unset] [(.int p3)]))
        obtain ⟨_, _, ⟨T172, L172, k172, n172⟩, -, X172, hs2172, hgr172, ⟨Lc172, ⟨hQ172, hK172⟩, l172, y172, z172⟩, st172⟩ := callSS Xr171 hx (y := (⟨"com/example/pryority/pryority/UriReferenceIsAbsolutePinLaw", "draw", "(I)Ljava/lang/String;"⟩ : MethodName)) hown171 (mvT hZ171 (hw _ (List.mem_of_getElem? (i := 0) rfl))) (mvT hZ171 (hw _ (List.mem_of_getElem? (i := 1) rfl))) (mvT hZ171 (hw _ (List.mem_of_getElem? (i := 2) rfl))) (mvT hZ171 (hw _ (List.mem_of_getElem? (i := 3) rfl))) (by decide) (own_backK (W := 0) (rmdr l Z a0 hw [] p3 cs T171.heap n0 Z171 Od171 S_COMPACT_STRINGS hcs hh7 hcw) hZ171 (hw _ (List.mem_of_getElem? (i := 3) rfl)) (hw _ (List.mem_of_getElem? (i := 2) rfl)) (by decide) (by decide)) (g := (mkF m 60 #[iv p1, iv p2, iv p3, iv p4, iv p5, iv (1 : Int32), iv (1 : Int32), iv (0 : Int32), rv r_171, .unset, .unset, .unset, .unset] [(.int p3)])) rfl (by rw [hml]; rfl) (argsL := [(.int p3)]) (rest := []) (lenOf pd__28_I_29_Ljava_2f_lang_2f_String_3b_ rfl) rfl (by show 2 * 0 + _ ≤ _; exact Nat.le_of_eq rfl) (hb hby at_60) (fun _ hv => ⟨rfl, rfl, (by decide : 4 + 4 ≤ _), (by decide : 10 + 10 ≤ _), own_K.warm hK171 hv⟩)
        dsimp only [Pt.U, Pt.locs, Pt.cells, Pt.slots] at X172 l172 y172 z172 st172 hQ172 hs2172 hgr172 hK172
        subst l172 y172 z172
        obtain ⟨Xr172, hS172, hZ172, hown172⟩ := rebS hS171 (show T171.heap.size ≤ T171.heap.size from hkr171) X172 hs2172 hgr172 hZ171 hown171
        refine own_go st172 ?_
        obtain ⟨r_172, rfl, Nq172, K172, g_r_172, sb_r_172, r172_0⟩ := hQ172
        have ne_r_171_r_172 : r_171 ≠ r_172 := Nat.ne_of_lt (Nat.lt_of_lt_of_le r171_0.lt sb_r_172)
        have Od172 := Od171.keep K172 all0
        have r171_0_172 := r171_0.keep K172
        have Z172 : n0 ≤ T172.heap.size := Nat.le_trans Z171 K172.1
        have hk172 : T171.heap.size ≤ T172.heap.size := Nat.le_trans hkr171 K172.1
        have hkr172 : T172.heap.size ≤ T172.heap.size := Nat.le_refl _
        have N172 := Fr.app N171 Nq172
        show own_Fin _ _ _ _ (T172.setTop (mkF m 63 #[iv p1, iv p2, iv p3, iv p4, iv p5, iv (1 : Int32), iv (1 : Int32), iv (0 : Int32), rv r_171, .unset, .unset, .unset, .unset] [(.ref r_172)]))
        refine own_go (XS.goto Xr172.here hx rfl (pc0 := 63) (pc' := 67) rfl (hb hby at_63) (by decide) (by decide) (Steps.refl _)) ?_
        show own_Fin _ _ _ _ (T172.setTop (mkF m 67 #[iv p1, iv p2, iv p3, iv p4, iv p5, iv (1 : Int32), iv (1 : Int32), iv (0 : Int32), rv r_171, .unset, .unset, .unset, .unset] [(.ref r_172)]))
        refine own_go (XS.astore Xr172.here hx rfl (hb hby at_67) rfl rfl rfl (Steps.refl _)) ?_
        show own_Fin _ _ _ _ (T172.setTop (mkF m 69 #[iv p1, iv p2, iv p3, iv p4, iv p5, iv (1 : Int32), iv (1 : Int32), iv (0 : Int32), rv r_171, rv r_172, .unset, .unset, .unset] []))
        refine own_go (XS.iloadN Xr172.here hx rfl (hb hby at_69) rfl (Steps.refl _)) ?_
        show own_Fin _ _ _ _ (T172.setTop (mkF m 70 #[iv p1, iv p2, iv p3, iv p4, iv p5, iv (1 : Int32), iv (1 : Int32), iv (0 : Int32), rv r_171, rv r_172, .unset, .unset, .unset] [(.int p4)]))
        obtain ⟨_, _, ⟨T173, L173, k173, n173⟩, -, X173, hs2173, hgr173, ⟨Lc173, ⟨hQ173, hK173⟩, l173, y173, z173⟩, st173⟩ := callSS Xr172 hx (y := (⟨"com/example/pryority/pryority/UriReferenceIsAbsolutePinLaw", "draw", "(I)Ljava/lang/String;"⟩ : MethodName)) hown172 (mvT hZ172 (hw _ (List.mem_of_getElem? (i := 0) rfl))) (mvT hZ172 (hw _ (List.mem_of_getElem? (i := 1) rfl))) (mvT hZ172 (hw _ (List.mem_of_getElem? (i := 2) rfl))) (mvT hZ172 (hw _ (List.mem_of_getElem? (i := 3) rfl))) (by decide) (own_backK (W := 0) (rmdr l Z a0 hw [] p4 cs T172.heap n0 Z172 Od172 S_COMPACT_STRINGS hcs hh7 hcw) hZ172 (hw _ (List.mem_of_getElem? (i := 3) rfl)) (hw _ (List.mem_of_getElem? (i := 2) rfl)) (by decide) (by decide)) (g := (mkF m 70 #[iv p1, iv p2, iv p3, iv p4, iv p5, iv (1 : Int32), iv (1 : Int32), iv (0 : Int32), rv r_171, rv r_172, .unset, .unset, .unset] [(.int p4)])) rfl (by rw [hml]; rfl) (argsL := [(.int p4)]) (rest := []) (lenOf pd__28_I_29_Ljava_2f_lang_2f_String_3b_ rfl) rfl (by show 2 * 0 + _ ≤ _; exact Nat.le_of_eq rfl) (hb hby at_70) (fun _ hv => ⟨rfl, rfl, (by decide : 8 + 4 ≤ _), (by decide : 20 + 10 ≤ _), own_K.warm hK172 hv⟩)
        dsimp only [Pt.U, Pt.locs, Pt.cells, Pt.slots] at X173 l173 y173 z173 st173 hQ173 hs2173 hgr173 hK173
        subst l173 y173 z173
        obtain ⟨Xr173, hS173, hZ173, hown173⟩ := rebS hS172 (show T172.heap.size ≤ T172.heap.size from hkr172) X173 hs2173 hgr173 hZ172 hown172
        refine own_go st173 ?_
        obtain ⟨r_173, rfl, Nq173, K173, g_r_173, sb_r_173, r173_0⟩ := hQ173
        have ne_r_171_r_173 : r_171 ≠ r_173 := Nat.ne_of_lt (Nat.lt_of_lt_of_le r171_0_172.lt sb_r_173)
        have ne_r_172_r_173 : r_172 ≠ r_173 := Nat.ne_of_lt (Nat.lt_of_lt_of_le r172_0.lt sb_r_173)
        have Od173 := Od172.keep K173 all0
        have r171_0_173 := r171_0_172.keep K173
        have r172_0_173 := r172_0.keep K173
        have Z173 : n0 ≤ T173.heap.size := Nat.le_trans Z172 K173.1
        have hk173 : T172.heap.size ≤ T173.heap.size := Nat.le_trans hkr172 K173.1
        have hkr173 : T173.heap.size ≤ T173.heap.size := Nat.le_refl _
        have N173 := Fr.app N172 Nq173
        show own_Fin _ _ _ _ (T173.setTop (mkF m 73 #[iv p1, iv p2, iv p3, iv p4, iv p5, iv (1 : Int32), iv (1 : Int32), iv (0 : Int32), rv r_171, rv r_172, .unset, .unset, .unset] [(.ref r_173)]))
        refine own_go (XS.astore Xr173.here hx rfl (hb hby at_73) rfl rfl rfl (Steps.refl _)) ?_
        show own_Fin _ _ _ _ (T173.setTop (mkF m 75 #[iv p1, iv p2, iv p3, iv p4, iv p5, iv (1 : Int32), iv (1 : Int32), iv (0 : Int32), rv r_171, rv r_172, rv r_173, .unset, .unset] []))
        refine own_go (XS.iload Xr173.here hx rfl (hb hby at_75) rfl (Steps.refl _)) ?_
        show own_Fin _ _ _ _ (T173.setTop (mkF m 77 #[iv p1, iv p2, iv p3, iv p4, iv p5, iv (1 : Int32), iv (1 : Int32), iv (0 : Int32), rv r_171, rv r_172, rv r_173, .unset, .unset] [(.int (0 : Int32))]))
        refine own_go (XS.ifYes Xr173.here hx rfl (pc0 := 77) (pc' := 88) rfl (hb hby at_77) rfl ((if0 _ _).trans (teq (by decide : (0 : Int32) = (0 : Int32))).1) (by decide) (by decide) (Steps.refl _)) ?_
        show own_Fin _ _ _ _ (T173.setTop (mkF m 88 #[iv p1, iv p2, iv p3, iv p4, iv p5, iv (1 : Int32), iv (1 : Int32), iv (0 : Int32), rv r_171, rv r_172, rv r_173, .unset, .unset] []))
        refine own_go (XS.aconstNull Xr173.here hx rfl (hb hby at_88) (Steps.refl _)) ?_
        show own_Fin _ _ _ _ (T173.setTop (mkF m 89 #[iv p1, iv p2, iv p3, iv p4, iv p5, iv (1 : Int32), iv (1 : Int32), iv (0 : Int32), rv r_171, rv r_172, rv r_173, .unset, .unset] [.null]))
        refine own_go (XS.astore Xr173.here hx rfl (hb hby at_89) rfl rfl rfl (Steps.refl _)) ?_
        show own_Fin _ _ _ _ (T173.setTop (mkF m 91 #[iv p1, iv p2, iv p3, iv p4, iv p5, iv (1 : Int32), iv (1 : Int32), iv (0 : Int32), rv r_171, rv r_172, rv r_173, .val .null, .unset] []))
        obtain ⟨T174, h174, X174, e174, E174, A174, D174, U174, st174⟩ := newO Xr173 hx hZ173 hown173 (hw _ (List.mem_of_getElem? (i := 26) rfl)) (hw _ (List.mem_of_getElem? (i := 27) rfl)) (hw _ (List.mem_of_getElem? (i := 28) rfl)) rfl (g := (mkF m 91 #[iv p1, iv p2, iv p3, iv p4, iv p5, iv (1 : Int32), iv (1 : Int32), iv (0 : Int32), rv r_171, rv r_172, rv r_173, .val .null, .unset] [])) rfl (hb hby at_91) (by decide) (by decide)
        obtain ⟨b174, g174⟩ : ∃ z, z = T173.heap.size := ⟨_, rfl⟩
        rw [← g174] at A174 D174 U174 st174
        refine own_by st174 ?_
        have ne_r_171_b174 : r_171 ≠ b174 := Nat.ne_of_lt (Nat.lt_of_lt_of_eq r171_0_173.lt g174.symm)
        have ne_r_172_b174 : r_172 ≠ b174 := Nat.ne_of_lt (Nat.lt_of_lt_of_eq r172_0_173.lt g174.symm)
        have ne_r_173_b174 : r_173 ≠ b174 := Nat.ne_of_lt (Nat.lt_of_lt_of_eq r173_0.lt g174.symm)
        have Od174 := Od173.ext E174
        have r171_0_174 := r171_0_173.ext E174
        have r172_0_174 := r172_0_173.ext E174
        have r173_0_174 := r173_0.ext E174
        have g_b174 : n0 ≤ b174 := Nat.le_trans Z173 (Nat.le_of_eq g174.symm)
        have Z174 : n0 ≤ h174.size := Nat.le_trans Z173 E174.1
        have hk174 : T173.heap.size ≤ h174.size := Nat.le_trans hkr173 E174.1
        have E_b174 := A174
        have F_scheme_b174 : Fld Z h174 b174 "com/example/pryority/pryority/UriReference" "scheme" "Ljava/lang/String;" .null := D174 (Or.inr (hw _ (List.mem_of_getElem? (i := 39) rfl))) (ty := (.object "java/lang/String")) (by decide)
        have F_authority_b174 : Fld Z h174 b174 "com/example/pryority/pryority/UriReference" "authority" "Ljava/lang/String;" .null := D174 (Or.inr (hw _ (List.mem_of_getElem? (i := 41) rfl))) (ty := (.object "java/lang/String")) (by decide)
        have F_path_b174 : Fld Z h174 b174 "com/example/pryority/pryority/UriReference" "path" "Ljava/lang/String;" .null := D174 (Or.inr (hw _ (List.mem_of_getElem? (i := 43) rfl))) (ty := (.object "java/lang/String")) (by decide)
        have F_query_b174 : Fld Z h174 b174 "com/example/pryority/pryority/UriReference" "query" "Ljava/lang/String;" .null := D174 (Or.inr (hw _ (List.mem_of_getElem? (i := 45) rfl))) (ty := (.object "java/lang/String")) (by decide)
        show own_Fin _ _ _ _ (T174.setTop (mkF m 94 #[iv p1, iv p2, iv p3, iv p4, iv p5, iv (1 : Int32), iv (1 : Int32), iv (0 : Int32), rv r_171, rv r_172, rv r_173, .val .null, .unset] [(.ref b174)]))
        refine own_go (XS.dup X174.here hx rfl (hb hby at_94) rfl rfl (Steps.refl _)) ?_
        show own_Fin _ _ _ _ (T174.setTop (mkF m 95 #[iv p1, iv p2, iv p3, iv p4, iv p5, iv (1 : Int32), iv (1 : Int32), iv (0 : Int32), rv r_171, rv r_172, rv r_173, .val .null, .unset] [(.ref b174), (.ref b174)]))
        refine own_go (XS.aload X174.here hx rfl (hb hby at_95) rfl rfl (Steps.refl _)) ?_
        show own_Fin _ _ _ _ (T174.setTop (mkF m 97 #[iv p1, iv p2, iv p3, iv p4, iv p5, iv (1 : Int32), iv (1 : Int32), iv (0 : Int32), rv r_171, rv r_172, rv r_173, .val .null, .unset] [(.ref r_171), (.ref b174), (.ref b174)]))
        refine own_go (XS.aload X174.here hx rfl (hb hby at_97) rfl rfl (Steps.refl _)) ?_
        show own_Fin _ _ _ _ (T174.setTop (mkF m 99 #[iv p1, iv p2, iv p3, iv p4, iv p5, iv (1 : Int32), iv (1 : Int32), iv (0 : Int32), rv r_171, rv r_172, rv r_173, .val .null, .unset] [(.ref r_172), (.ref r_171), (.ref b174), (.ref b174)]))
        refine own_go (XS.aload X174.here hx rfl (hb hby at_99) rfl rfl (Steps.refl _)) ?_
        show own_Fin _ _ _ _ (T174.setTop (mkF m 101 #[iv p1, iv p2, iv p3, iv p4, iv p5, iv (1 : Int32), iv (1 : Int32), iv (0 : Int32), rv r_171, rv r_172, rv r_173, .val .null, .unset] [(.ref r_173), (.ref r_172), (.ref r_171), (.ref b174), (.ref b174)]))
        refine own_go (XS.aload X174.here hx rfl (hb hby at_101) rfl rfl (Steps.refl _)) ?_
        show own_Fin _ _ _ _ (T174.setTop (mkF m 103 #[iv p1, iv p2, iv p3, iv p4, iv p5, iv (1 : Int32), iv (1 : Int32), iv (0 : Int32), rv r_171, rv r_172, rv r_173, .val .null, .unset] [.null, (.ref r_173), (.ref r_172), (.ref r_171), (.ref b174), (.ref b174)]))
        obtain ⟨_, _, ⟨T175, L175, k175, n175⟩, -, X175, ⟨Lc175, hQ175, l175, y175, z175⟩, st175⟩ := X174.specialBack hx (y := (⟨"com/example/pryority/pryority/UriReference", "<init>", "(Ljava/lang/String;Ljava/lang/String;Ljava/lang/String;Ljava/lang/String;)V"⟩ : MethodName)) rfl hown173 (mvT hZ173 (hw _ (List.mem_of_getElem? (i := 29) rfl))) (mvT hZ173 (hw _ (List.mem_of_getElem? (i := 30) rfl))) (mvT hZ173 (hw _ (List.mem_of_getElem? (i := 31) rfl))) (by decide) (backOf (W := 1) (rmui_3 l Z a0 hw [] b174 r_171 r_172 r_173 h174 n0 Z174 E_b174 F_scheme_b174 F_authority_b174 F_path_b174 F_query_b174 g_b174) hZ173 (hw _ (List.mem_of_getElem? (i := 31) rfl)) (hw _ (List.mem_of_getElem? (i := 28) rfl)) (by decide) (by decide)) (g := (mkF m 103 #[iv p1, iv p2, iv p3, iv p4, iv p5, iv (1 : Int32), iv (1 : Int32), iv (0 : Int32), rv r_171, rv r_172, rv r_173, .val .null, .unset] [.null, (.ref r_173), (.ref r_172), (.ref r_171), (.ref b174), (.ref b174)])) rfl (by rw [hml]; rfl) (Steps.refl _) (a := b174) (argsL := [(.ref r_171), (.ref r_172), (.ref r_173), .null]) (rest := [(.ref b174)]) (lenOf pd__28_Ljava_2f_lang_2f_String_3b_Ljava_2f_lang_2f_String_3b_Ljava_2f_lang_2f_String_3b_Ljava_2f_lang_2f_String_3b__29_V rfl) rfl (by show 2 * 0 + _ ≤ _; exact Nat.le_of_eq rfl) (hb hby at_103) (fun _ hv => ⟨rfl, e174, (by decide : 13 + 0 ≤ _), (by decide : 34 + 0 ≤ _)⟩)
        dsimp only [Pt.U, Pt.locs, Pt.cells, Pt.slots] at X175 l175 y175 z175 st175 hQ175
        subst l175 y175 z175
        refine own_go st175 ?_
        obtain ⟨rfl, Nq175, K175, r175_0, r175_1, r175_2, r175_3, r175_4⟩ := hQ175
        have Od175 := Od174.keep K175 (allS g_b174 all0)
        have r171_0_175 := r171_0_174.keep K175
        have r172_0_175 := r172_0_174.keep K175
        have r173_0_175 := r173_0_174.keep K175
        have E_b174_175 := E_b174.keep K175
        have Z175 : n0 ≤ T175.heap.size := Nat.le_trans Z174 K175.1
        have hk175 : T173.heap.size ≤ T175.heap.size := Nat.le_trans hk174 K175.1
        have N175 := Fr.app N173 Nq175
        show own_Fin _ _ _ _ (T175.setTop (mkF m 106 #[iv p1, iv p2, iv p3, iv p4, iv p5, iv (1 : Int32), iv (1 : Int32), iv (0 : Int32), rv r_171, rv r_172, rv r_173, .val .null, .unset] [(.ref b174)]))
        refine own_go (XS.astore X175.here hx rfl (hb hby at_106) rfl rfl rfl (Steps.refl _)) ?_
        show own_Fin _ _ _ _ (T175.setTop (mkF m 108 #[iv p1, iv p2, iv p3, iv p4, iv p5, iv (1 : Int32), iv (1 : Int32), iv (0 : Int32), rv r_171, rv r_172, rv r_173, .val .null, rv b174] []))
        refine own_go (XS.aload X175.here hx rfl (hb hby at_108) rfl rfl (Steps.refl _)) ?_
        show own_Fin _ _ _ _ (T175.setTop (mkF m 110 #[iv p1, iv p2, iv p3, iv p4, iv p5, iv (1 : Int32), iv (1 : Int32), iv (0 : Int32), rv r_171, rv r_172, rv r_173, .val .null, rv b174] [(.ref b174)]))
        obtain ⟨cq176, kq176, q176a, q176b, q176c⟩ := isOf hZ173 rfl r175_0
        obtain ⟨_, _, ⟨T176, L176, k176, n176⟩, -, X176, ⟨Lc176, hQ176, l176, y176, z176⟩, st176⟩ := X175.virtualBack hx (y := (⟨"com/example/pryority/pryority/UriReference", "isAbsolute", "()Z"⟩ : MethodName)) (z := (⟨"com/example/pryority/pryority/UriReference", "isAbsolute", "()Z"⟩ : MethodName)) hown173 (mvT hZ173 (hw _ (List.mem_of_getElem? (i := 46) rfl))) (mvT hZ173 (hw _ (List.mem_of_getElem? (i := 47) rfl))) (notFace_of_selects (args := #[]) (mvT hZ173 (hw _ (List.mem_of_getElem? (i := 49) rfl)))) (mvT hZ173 (hw _ (List.mem_of_getElem? (i := 49) rfl))) (mvT hZ173 (hw _ (List.mem_of_getElem? (i := 48) rfl))) (by decide) (backOf (W := 0) (rmia_1 l Z a0 hw [] b174 r_171 T175.heap n0 Z175 r175_1) hZ173 (hw _ (List.mem_of_getElem? (i := 50) rfl)) (hw _ (List.mem_of_getElem? (i := 28) rfl)) (by decide) (by decide)) q176a q176c (g := (mkF m 110 #[iv p1, iv p2, iv p3, iv p4, iv p5, iv (1 : Int32), iv (1 : Int32), iv (0 : Int32), rv r_171, rv r_172, rv r_173, .val .null, rv b174] [(.ref b174)])) rfl (by rw [hml]; rfl) (Steps.refl _) (argsL := []) (rest := []) (lenOf pd__28__29_Z rfl) rfl (by show 2 * 0 + _ ≤ _; exact Nat.le_of_eq rfl) (hb hby at_110) (fun _ hv => ⟨rfl, rfl, (by decide : 13 + 0 ≤ _), (by decide : 34 + 0 ≤ _)⟩)
        dsimp only [Pt.U, Pt.locs, Pt.cells, Pt.slots] at X176 l176 y176 z176 st176 hQ176
        subst l176 y176 z176
        obtain ⟨rfl, Nq176, e176⟩ := hQ176
        refine own_go st176 ?_
        have N176 := Fr.app N175 Nq176
        show own_Fin _ _ _ _ (T176.setTop (mkF m 113 #[iv p1, iv p2, iv p3, iv p4, iv p5, iv (1 : Int32), iv (1 : Int32), iv (0 : Int32), rv r_171, rv r_172, rv r_173, .val .null, rv b174] [(.int (1 : Int32))]))
        refine own_go (XS.iload X176.here hx rfl (hb hby at_113) rfl (Steps.refl _)) ?_
        show own_Fin _ _ _ _ (T176.setTop (mkF m 115 #[iv p1, iv p2, iv p3, iv p4, iv p5, iv (1 : Int32), iv (1 : Int32), iv (0 : Int32), rv r_171, rv r_172, rv r_173, .val .null, rv b174] [(.int (1 : Int32)), (.int (1 : Int32))]))
        refine own_go (XS.icmpNo X176.here hx rfl (hb hby at_115) rfl (teq (by decide : (1 : Int32) = (1 : Int32))).2 (Steps.refl _)) ?_
        show own_Fin _ _ _ _ (T176.setTop (mkF m 118 #[iv p1, iv p2, iv p3, iv p4, iv p5, iv (1 : Int32), iv (1 : Int32), iv (0 : Int32), rv r_171, rv r_172, rv r_173, .val .null, rv b174] []))
        refine own_go (XS.iconst X176.here hx rfl (hb hby at_118) (Steps.refl _)) ?_
        show own_Fin _ _ _ _ (T176.setTop (mkF m 119 #[iv p1, iv p2, iv p3, iv p4, iv p5, iv (1 : Int32), iv (1 : Int32), iv (0 : Int32), rv r_171, rv r_172, rv r_173, .val .null, rv b174] [(.int (1 : Int32))]))
        refine own_go (XS.goto X176.here hx rfl (pc0 := 119) (pc' := 123) rfl (hb hby at_119) (by decide) (by decide) (Steps.refl _)) ?_
        show own_Fin _ _ _ _ (T176.setTop (mkF m 123 #[iv p1, iv p2, iv p3, iv p4, iv p5, iv (1 : Int32), iv (1 : Int32), iv (0 : Int32), rv r_171, rv r_172, rv r_173, .val .null, rv b174] [(.int (1 : Int32))]))
        obtain ⟨fs177, hr177, hrun177, hended177, hRW177⟩ := X176.leaveW (s := s) hS173 (n := T173.heap.size) (by rw [e176]; exact hk175) (v := some (.int (1 : Int32))) (fun h => by rw [Bd.returns] at h; cases h)
        refine own_done (retN X176 hx (t := .boolean) Bd.returns (by simp) (hb hby at_123) hr177) hrun177 hended177 ⟨_, _, rfl, ?_, hRW177.1, hRW177.2.1, hRW177.2.2.1, hRW177.2.2.2.mono (by decide) (by decide)⟩
        show Q0 Z p1 p2 p3 p4 p5 cs h0 n0 _ T176.heap _
        rw [e176]
        exact ⟨rfl, N176⟩
      · refine own_go (XS.ifNo X0w.here hx rfl (hb hby at_29) rfl ((if0 _ _).trans (feq c29_170).1) (Steps.refl _)) ?_
        show own_Fin _ _ _ _ (s₁.setTop (mkF m 32 #[iv p1, iv p2, iv p3, iv p4, iv p5, iv (1 : Int32), iv (1 : Int32), .unset, .unset, .unset, .unset, .unset, .unset] []))
        refine own_go (XS.iconst X0w.here hx rfl (hb hby at_32) (Steps.refl _)) ?_
        show own_Fin _ _ _ _ (s₁.setTop (mkF m 33 #[iv p1, iv p2, iv p3, iv p4, iv p5, iv (1 : Int32), iv (1 : Int32), .unset, .unset, .unset, .unset, .unset, .unset] [(.int (1 : Int32))]))
        refine own_go (XS.goto X0w.here hx rfl (pc0 := 33) (pc' := 37) rfl (hb hby at_33) (by decide) (by decide) (Steps.refl _)) ?_
        show own_Fin _ _ _ _ (s₁.setTop (mkF m 37 #[iv p1, iv p2, iv p3, iv p4, iv p5, iv (1 : Int32), iv (1 : Int32), .unset, .unset, .unset, .unset, .unset, .unset] [(.int (1 : Int32))]))
        refine own_go (XS.istore X0w.here hx rfl (hb hby at_37) rfl rfl (Steps.refl _)) ?_
        show own_Fin _ _ _ _ (s₁.setTop (mkF m 39 #[iv p1, iv p2, iv p3, iv p4, iv p5, iv (1 : Int32), iv (1 : Int32), iv (1 : Int32), .unset, .unset, .unset, .unset, .unset] []))
        refine own_go (XS.iload X0w.here hx rfl (hb hby at_39) rfl (Steps.refl _)) ?_
        show own_Fin _ _ _ _ (s₁.setTop (mkF m 41 #[iv p1, iv p2, iv p3, iv p4, iv p5, iv (1 : Int32), iv (1 : Int32), iv (1 : Int32), .unset, .unset, .unset, .unset, .unset] [(.int (1 : Int32))]))
        refine own_go (XS.ifNo X0w.here hx rfl (hb hby at_41) rfl ((if0 _ _).trans (feq (by decide : ¬ ((1 : Int32) = (0 : Int32)))).1) (Steps.refl _)) ?_
        show own_Fin _ _ _ _ (s₁.setTop (mkF m 44 #[iv p1, iv p2, iv p3, iv p4, iv p5, iv (1 : Int32), iv (1 : Int32), iv (1 : Int32), .unset, .unset, .unset, .unset, .unset] []))
        refine own_go (XS.iloadN X0w.here hx rfl (hb hby at_44) rfl (Steps.refl _)) ?_
        show own_Fin _ _ _ _ (s₁.setTop (mkF m 45 #[iv p1, iv p2, iv p3, iv p4, iv p5, iv (1 : Int32), iv (1 : Int32), iv (1 : Int32), .unset, .unset, .unset, .unset, .unset] [(.int p2)]))
        obtain ⟨_, _, ⟨T178, L178, k178, n178⟩, -, X178, hs2178, hgr178, ⟨Lc178, ⟨hQ178, hK178⟩, l178, y178, z178⟩, st178⟩ := callSS X0w hx (y := (⟨"com/example/pryority/pryority/UriReferenceIsAbsolutePinLaw", "draw", "(I)Ljava/lang/String;"⟩ : MethodName)) hown (mvT hZ (hw _ (List.mem_of_getElem? (i := 0) rfl))) (mvT hZ (hw _ (List.mem_of_getElem? (i := 1) rfl))) (mvT hZ (hw _ (List.mem_of_getElem? (i := 2) rfl))) (mvT hZ (hw _ (List.mem_of_getElem? (i := 3) rfl))) (by decide) (own_backK (W := 0) (rmdr l Z a0 hw [] p2 cs h0 n0 Z0 O0 S_COMPACT_STRINGS hcs hh7 hcw) hZ (hw _ (List.mem_of_getElem? (i := 3) rfl)) (hw _ (List.mem_of_getElem? (i := 2) rfl)) (by decide) (by decide)) (g := (mkF m 45 #[iv p1, iv p2, iv p3, iv p4, iv p5, iv (1 : Int32), iv (1 : Int32), iv (1 : Int32), .unset, .unset, .unset, .unset, .unset] [(.int p2)])) rfl (by rw [hml]; rfl) (argsL := [(.int p2)]) (rest := []) (lenOf pd__28_I_29_Ljava_2f_lang_2f_String_3b_ rfl) rfl (by show 2 * 0 + _ ≤ _; exact Nat.le_of_eq rfl) (hb hby at_45) (fun _ hv => ⟨rfl, e0, (by decide : 0 + 4 ≤ _), (by decide : 0 + 10 ≤ _), own_K.warm hK0 hv⟩)
        dsimp only [Pt.U, Pt.locs, Pt.cells, Pt.slots] at X178 l178 y178 z178 st178 hQ178 hs2178 hgr178 hK178
        subst l178 y178 z178
        obtain ⟨Xr178, hS178, hZ178, hown178⟩ := rebS hS0 (show 0 ≤ s₁.heap.size by rw [e0]; exact hk0) X178 hs2178 hgr178 hZ hown
        refine own_go st178 ?_
        obtain ⟨r_178, rfl, Nq178, K178, g_r_178, sb_r_178, r178_0⟩ := hQ178
        have Od178 := O0.keep K178 all0
        have Z178 : n0 ≤ T178.heap.size := Nat.le_trans Z0 K178.1
        have hk178 : 0 ≤ T178.heap.size := Nat.le_trans hk0 K178.1
        have hkr178 : T178.heap.size ≤ T178.heap.size := Nat.le_refl _
        have N178 := Fr.app N0 Nq178
        show own_Fin _ _ _ _ (T178.setTop (mkF m 48 #[iv p1, iv p2, iv p3, iv p4, iv p5, iv (1 : Int32), iv (1 : Int32), iv (1 : Int32), .unset, .unset, .unset, .unset, .unset] [(.ref r_178)]))
        refine own_go (XS.goto Xr178.here hx rfl (pc0 := 48) (pc' := 52) rfl (hb hby at_48) (by decide) (by decide) (Steps.refl _)) ?_
        show own_Fin _ _ _ _ (T178.setTop (mkF m 52 #[iv p1, iv p2, iv p3, iv p4, iv p5, iv (1 : Int32), iv (1 : Int32), iv (1 : Int32), .unset, .unset, .unset, .unset, .unset] [(.ref r_178)]))
        refine own_go (XS.astore Xr178.here hx rfl (hb hby at_52) rfl rfl rfl (Steps.refl _)) ?_
        show own_Fin _ _ _ _ (T178.setTop (mkF m 54 #[iv p1, iv p2, iv p3, iv p4, iv p5, iv (1 : Int32), iv (1 : Int32), iv (1 : Int32), rv r_178, .unset, .unset, .unset, .unset] []))
        refine own_go (XS.iload Xr178.here hx rfl (hb hby at_54) rfl (Steps.refl _)) ?_
        show own_Fin _ _ _ _ (T178.setTop (mkF m 56 #[iv p1, iv p2, iv p3, iv p4, iv p5, iv (1 : Int32), iv (1 : Int32), iv (1 : Int32), rv r_178, .unset, .unset, .unset, .unset] [(.int (1 : Int32))]))
        refine own_go (XS.ifNo Xr178.here hx rfl (hb hby at_56) rfl ((if0 _ _).trans (feq (by decide : ¬ ((1 : Int32) = (0 : Int32)))).1) (Steps.refl _)) ?_
        show own_Fin _ _ _ _ (T178.setTop (mkF m 59 #[iv p1, iv p2, iv p3, iv p4, iv p5, iv (1 : Int32), iv (1 : Int32), iv (1 : Int32), rv r_178, .unset, .unset, .unset, .unset] []))
        refine own_go (XS.iloadN Xr178.here hx rfl (hb hby at_59) rfl (Steps.refl _)) ?_
        show own_Fin _ _ _ _ (T178.setTop (mkF m 60 #[iv p1, iv p2, iv p3, iv p4, iv p5, iv (1 : Int32), iv (1 : Int32), iv (1 : Int32), rv r_178, .unset, .unset, .unset, .unset] [(.int p3)]))
        obtain ⟨_, _, ⟨T179, L179, k179, n179⟩, -, X179, hs2179, hgr179, ⟨Lc179, ⟨hQ179, hK179⟩, l179, y179, z179⟩, st179⟩ := callSS Xr178 hx (y := (⟨"com/example/pryority/pryority/UriReferenceIsAbsolutePinLaw", "draw", "(I)Ljava/lang/String;"⟩ : MethodName)) hown178 (mvT hZ178 (hw _ (List.mem_of_getElem? (i := 0) rfl))) (mvT hZ178 (hw _ (List.mem_of_getElem? (i := 1) rfl))) (mvT hZ178 (hw _ (List.mem_of_getElem? (i := 2) rfl))) (mvT hZ178 (hw _ (List.mem_of_getElem? (i := 3) rfl))) (by decide) (own_backK (W := 0) (rmdr l Z a0 hw [] p3 cs T178.heap n0 Z178 Od178 S_COMPACT_STRINGS hcs hh7 hcw) hZ178 (hw _ (List.mem_of_getElem? (i := 3) rfl)) (hw _ (List.mem_of_getElem? (i := 2) rfl)) (by decide) (by decide)) (g := (mkF m 60 #[iv p1, iv p2, iv p3, iv p4, iv p5, iv (1 : Int32), iv (1 : Int32), iv (1 : Int32), rv r_178, .unset, .unset, .unset, .unset] [(.int p3)])) rfl (by rw [hml]; rfl) (argsL := [(.int p3)]) (rest := []) (lenOf pd__28_I_29_Ljava_2f_lang_2f_String_3b_ rfl) rfl (by show 2 * 0 + _ ≤ _; exact Nat.le_of_eq rfl) (hb hby at_60) (fun _ hv => ⟨rfl, rfl, (by decide : 4 + 4 ≤ _), (by decide : 10 + 10 ≤ _), own_K.warm hK178 hv⟩)
        dsimp only [Pt.U, Pt.locs, Pt.cells, Pt.slots] at X179 l179 y179 z179 st179 hQ179 hs2179 hgr179 hK179
        subst l179 y179 z179
        obtain ⟨Xr179, hS179, hZ179, hown179⟩ := rebS hS178 (show T178.heap.size ≤ T178.heap.size from hkr178) X179 hs2179 hgr179 hZ178 hown178
        refine own_go st179 ?_
        obtain ⟨r_179, rfl, Nq179, K179, g_r_179, sb_r_179, r179_0⟩ := hQ179
        have ne_r_178_r_179 : r_178 ≠ r_179 := Nat.ne_of_lt (Nat.lt_of_lt_of_le r178_0.lt sb_r_179)
        have Od179 := Od178.keep K179 all0
        have r178_0_179 := r178_0.keep K179
        have Z179 : n0 ≤ T179.heap.size := Nat.le_trans Z178 K179.1
        have hk179 : T178.heap.size ≤ T179.heap.size := Nat.le_trans hkr178 K179.1
        have hkr179 : T179.heap.size ≤ T179.heap.size := Nat.le_refl _
        have N179 := Fr.app N178 Nq179
        show own_Fin _ _ _ _ (T179.setTop (mkF m 63 #[iv p1, iv p2, iv p3, iv p4, iv p5, iv (1 : Int32), iv (1 : Int32), iv (1 : Int32), rv r_178, .unset, .unset, .unset, .unset] [(.ref r_179)]))
        refine own_go (XS.goto Xr179.here hx rfl (pc0 := 63) (pc' := 67) rfl (hb hby at_63) (by decide) (by decide) (Steps.refl _)) ?_
        show own_Fin _ _ _ _ (T179.setTop (mkF m 67 #[iv p1, iv p2, iv p3, iv p4, iv p5, iv (1 : Int32), iv (1 : Int32), iv (1 : Int32), rv r_178, .unset, .unset, .unset, .unset] [(.ref r_179)]))
        refine own_go (XS.astore Xr179.here hx rfl (hb hby at_67) rfl rfl rfl (Steps.refl _)) ?_
        show own_Fin _ _ _ _ (T179.setTop (mkF m 69 #[iv p1, iv p2, iv p3, iv p4, iv p5, iv (1 : Int32), iv (1 : Int32), iv (1 : Int32), rv r_178, rv r_179, .unset, .unset, .unset] []))
        refine own_go (XS.iloadN Xr179.here hx rfl (hb hby at_69) rfl (Steps.refl _)) ?_
        show own_Fin _ _ _ _ (T179.setTop (mkF m 70 #[iv p1, iv p2, iv p3, iv p4, iv p5, iv (1 : Int32), iv (1 : Int32), iv (1 : Int32), rv r_178, rv r_179, .unset, .unset, .unset] [(.int p4)]))
        obtain ⟨_, _, ⟨T180, L180, k180, n180⟩, -, X180, hs2180, hgr180, ⟨Lc180, ⟨hQ180, hK180⟩, l180, y180, z180⟩, st180⟩ := callSS Xr179 hx (y := (⟨"com/example/pryority/pryority/UriReferenceIsAbsolutePinLaw", "draw", "(I)Ljava/lang/String;"⟩ : MethodName)) hown179 (mvT hZ179 (hw _ (List.mem_of_getElem? (i := 0) rfl))) (mvT hZ179 (hw _ (List.mem_of_getElem? (i := 1) rfl))) (mvT hZ179 (hw _ (List.mem_of_getElem? (i := 2) rfl))) (mvT hZ179 (hw _ (List.mem_of_getElem? (i := 3) rfl))) (by decide) (own_backK (W := 0) (rmdr l Z a0 hw [] p4 cs T179.heap n0 Z179 Od179 S_COMPACT_STRINGS hcs hh7 hcw) hZ179 (hw _ (List.mem_of_getElem? (i := 3) rfl)) (hw _ (List.mem_of_getElem? (i := 2) rfl)) (by decide) (by decide)) (g := (mkF m 70 #[iv p1, iv p2, iv p3, iv p4, iv p5, iv (1 : Int32), iv (1 : Int32), iv (1 : Int32), rv r_178, rv r_179, .unset, .unset, .unset] [(.int p4)])) rfl (by rw [hml]; rfl) (argsL := [(.int p4)]) (rest := []) (lenOf pd__28_I_29_Ljava_2f_lang_2f_String_3b_ rfl) rfl (by show 2 * 0 + _ ≤ _; exact Nat.le_of_eq rfl) (hb hby at_70) (fun _ hv => ⟨rfl, rfl, (by decide : 8 + 4 ≤ _), (by decide : 20 + 10 ≤ _), own_K.warm hK179 hv⟩)
        dsimp only [Pt.U, Pt.locs, Pt.cells, Pt.slots] at X180 l180 y180 z180 st180 hQ180 hs2180 hgr180 hK180
        subst l180 y180 z180
        obtain ⟨Xr180, hS180, hZ180, hown180⟩ := rebS hS179 (show T179.heap.size ≤ T179.heap.size from hkr179) X180 hs2180 hgr180 hZ179 hown179
        refine own_go st180 ?_
        obtain ⟨r_180, rfl, Nq180, K180, g_r_180, sb_r_180, r180_0⟩ := hQ180
        have ne_r_178_r_180 : r_178 ≠ r_180 := Nat.ne_of_lt (Nat.lt_of_lt_of_le r178_0_179.lt sb_r_180)
        have ne_r_179_r_180 : r_179 ≠ r_180 := Nat.ne_of_lt (Nat.lt_of_lt_of_le r179_0.lt sb_r_180)
        have Od180 := Od179.keep K180 all0
        have r178_0_180 := r178_0_179.keep K180
        have r179_0_180 := r179_0.keep K180
        have Z180 : n0 ≤ T180.heap.size := Nat.le_trans Z179 K180.1
        have hk180 : T179.heap.size ≤ T180.heap.size := Nat.le_trans hkr179 K180.1
        have hkr180 : T180.heap.size ≤ T180.heap.size := Nat.le_refl _
        have N180 := Fr.app N179 Nq180
        show own_Fin _ _ _ _ (T180.setTop (mkF m 73 #[iv p1, iv p2, iv p3, iv p4, iv p5, iv (1 : Int32), iv (1 : Int32), iv (1 : Int32), rv r_178, rv r_179, .unset, .unset, .unset] [(.ref r_180)]))
        refine own_go (XS.astore Xr180.here hx rfl (hb hby at_73) rfl rfl rfl (Steps.refl _)) ?_
        show own_Fin _ _ _ _ (T180.setTop (mkF m 75 #[iv p1, iv p2, iv p3, iv p4, iv p5, iv (1 : Int32), iv (1 : Int32), iv (1 : Int32), rv r_178, rv r_179, rv r_180, .unset, .unset] []))
        refine own_go (XS.iload Xr180.here hx rfl (hb hby at_75) rfl (Steps.refl _)) ?_
        show own_Fin _ _ _ _ (T180.setTop (mkF m 77 #[iv p1, iv p2, iv p3, iv p4, iv p5, iv (1 : Int32), iv (1 : Int32), iv (1 : Int32), rv r_178, rv r_179, rv r_180, .unset, .unset] [(.int (1 : Int32))]))
        refine own_go (XS.ifNo Xr180.here hx rfl (hb hby at_77) rfl ((if0 _ _).trans (feq (by decide : ¬ ((1 : Int32) = (0 : Int32)))).1) (Steps.refl _)) ?_
        show own_Fin _ _ _ _ (T180.setTop (mkF m 80 #[iv p1, iv p2, iv p3, iv p4, iv p5, iv (1 : Int32), iv (1 : Int32), iv (1 : Int32), rv r_178, rv r_179, rv r_180, .unset, .unset] []))
        refine own_go (XS.iload Xr180.here hx rfl (hb hby at_80) rfl (Steps.refl _)) ?_
        show own_Fin _ _ _ _ (T180.setTop (mkF m 82 #[iv p1, iv p2, iv p3, iv p4, iv p5, iv (1 : Int32), iv (1 : Int32), iv (1 : Int32), rv r_178, rv r_179, rv r_180, .unset, .unset] [(.int p5)]))
        obtain ⟨_, _, ⟨T181, L181, k181, n181⟩, -, X181, hs2181, hgr181, ⟨Lc181, ⟨hQ181, hK181⟩, l181, y181, z181⟩, st181⟩ := callSS Xr180 hx (y := (⟨"com/example/pryority/pryority/UriReferenceIsAbsolutePinLaw", "draw", "(I)Ljava/lang/String;"⟩ : MethodName)) hown180 (mvT hZ180 (hw _ (List.mem_of_getElem? (i := 0) rfl))) (mvT hZ180 (hw _ (List.mem_of_getElem? (i := 1) rfl))) (mvT hZ180 (hw _ (List.mem_of_getElem? (i := 2) rfl))) (mvT hZ180 (hw _ (List.mem_of_getElem? (i := 3) rfl))) (by decide) (own_backK (W := 0) (rmdr l Z a0 hw [] p5 cs T180.heap n0 Z180 Od180 S_COMPACT_STRINGS hcs hh7 hcw) hZ180 (hw _ (List.mem_of_getElem? (i := 3) rfl)) (hw _ (List.mem_of_getElem? (i := 2) rfl)) (by decide) (by decide)) (g := (mkF m 82 #[iv p1, iv p2, iv p3, iv p4, iv p5, iv (1 : Int32), iv (1 : Int32), iv (1 : Int32), rv r_178, rv r_179, rv r_180, .unset, .unset] [(.int p5)])) rfl (by rw [hml]; rfl) (argsL := [(.int p5)]) (rest := []) (lenOf pd__28_I_29_Ljava_2f_lang_2f_String_3b_ rfl) rfl (by show 2 * 0 + _ ≤ _; exact Nat.le_of_eq rfl) (hb hby at_82) (fun _ hv => ⟨rfl, rfl, (by decide : 12 + 4 ≤ _), (by decide : 30 + 10 ≤ _), own_K.warm hK180 hv⟩)
        dsimp only [Pt.U, Pt.locs, Pt.cells, Pt.slots] at X181 l181 y181 z181 st181 hQ181 hs2181 hgr181 hK181
        subst l181 y181 z181
        obtain ⟨Xr181, hS181, hZ181, hown181⟩ := rebS hS180 (show T180.heap.size ≤ T180.heap.size from hkr180) X181 hs2181 hgr181 hZ180 hown180
        refine own_go st181 ?_
        obtain ⟨r_181, rfl, Nq181, K181, g_r_181, sb_r_181, r181_0⟩ := hQ181
        have ne_r_178_r_181 : r_178 ≠ r_181 := Nat.ne_of_lt (Nat.lt_of_lt_of_le r178_0_180.lt sb_r_181)
        have ne_r_179_r_181 : r_179 ≠ r_181 := Nat.ne_of_lt (Nat.lt_of_lt_of_le r179_0_180.lt sb_r_181)
        have ne_r_180_r_181 : r_180 ≠ r_181 := Nat.ne_of_lt (Nat.lt_of_lt_of_le r180_0.lt sb_r_181)
        have Od181 := Od180.keep K181 all0
        have r178_0_181 := r178_0_180.keep K181
        have r179_0_181 := r179_0_180.keep K181
        have r180_0_181 := r180_0.keep K181
        have Z181 : n0 ≤ T181.heap.size := Nat.le_trans Z180 K181.1
        have hk181 : T180.heap.size ≤ T181.heap.size := Nat.le_trans hkr180 K181.1
        have hkr181 : T181.heap.size ≤ T181.heap.size := Nat.le_refl _
        have N181 := Fr.app N180 Nq181
        show own_Fin _ _ _ _ (T181.setTop (mkF m 85 #[iv p1, iv p2, iv p3, iv p4, iv p5, iv (1 : Int32), iv (1 : Int32), iv (1 : Int32), rv r_178, rv r_179, rv r_180, .unset, .unset] [(.ref r_181)]))
        refine own_go (XS.goto Xr181.here hx rfl (pc0 := 85) (pc' := 89) rfl (hb hby at_85) (by decide) (by decide) (Steps.refl _)) ?_
        show own_Fin _ _ _ _ (T181.setTop (mkF m 89 #[iv p1, iv p2, iv p3, iv p4, iv p5, iv (1 : Int32), iv (1 : Int32), iv (1 : Int32), rv r_178, rv r_179, rv r_180, .unset, .unset] [(.ref r_181)]))
        refine own_go (XS.astore Xr181.here hx rfl (hb hby at_89) rfl rfl rfl (Steps.refl _)) ?_
        show own_Fin _ _ _ _ (T181.setTop (mkF m 91 #[iv p1, iv p2, iv p3, iv p4, iv p5, iv (1 : Int32), iv (1 : Int32), iv (1 : Int32), rv r_178, rv r_179, rv r_180, rv r_181, .unset] []))
        obtain ⟨T182, h182, X182, e182, E182, A182, D182, U182, st182⟩ := newO Xr181 hx hZ181 hown181 (hw _ (List.mem_of_getElem? (i := 26) rfl)) (hw _ (List.mem_of_getElem? (i := 27) rfl)) (hw _ (List.mem_of_getElem? (i := 28) rfl)) rfl (g := (mkF m 91 #[iv p1, iv p2, iv p3, iv p4, iv p5, iv (1 : Int32), iv (1 : Int32), iv (1 : Int32), rv r_178, rv r_179, rv r_180, rv r_181, .unset] [])) rfl (hb hby at_91) (by decide) (by decide)
        obtain ⟨b182, g182⟩ : ∃ z, z = T181.heap.size := ⟨_, rfl⟩
        rw [← g182] at A182 D182 U182 st182
        refine own_by st182 ?_
        have ne_r_178_b182 : r_178 ≠ b182 := Nat.ne_of_lt (Nat.lt_of_lt_of_eq r178_0_181.lt g182.symm)
        have ne_r_179_b182 : r_179 ≠ b182 := Nat.ne_of_lt (Nat.lt_of_lt_of_eq r179_0_181.lt g182.symm)
        have ne_r_180_b182 : r_180 ≠ b182 := Nat.ne_of_lt (Nat.lt_of_lt_of_eq r180_0_181.lt g182.symm)
        have ne_r_181_b182 : r_181 ≠ b182 := Nat.ne_of_lt (Nat.lt_of_lt_of_eq r181_0.lt g182.symm)
        have Od182 := Od181.ext E182
        have r178_0_182 := r178_0_181.ext E182
        have r179_0_182 := r179_0_181.ext E182
        have r180_0_182 := r180_0_181.ext E182
        have r181_0_182 := r181_0.ext E182
        have g_b182 : n0 ≤ b182 := Nat.le_trans Z181 (Nat.le_of_eq g182.symm)
        have Z182 : n0 ≤ h182.size := Nat.le_trans Z181 E182.1
        have hk182 : T181.heap.size ≤ h182.size := Nat.le_trans hkr181 E182.1
        have E_b182 := A182
        have F_scheme_b182 : Fld Z h182 b182 "com/example/pryority/pryority/UriReference" "scheme" "Ljava/lang/String;" .null := D182 (Or.inr (hw _ (List.mem_of_getElem? (i := 39) rfl))) (ty := (.object "java/lang/String")) (by decide)
        have F_authority_b182 : Fld Z h182 b182 "com/example/pryority/pryority/UriReference" "authority" "Ljava/lang/String;" .null := D182 (Or.inr (hw _ (List.mem_of_getElem? (i := 41) rfl))) (ty := (.object "java/lang/String")) (by decide)
        have F_path_b182 : Fld Z h182 b182 "com/example/pryority/pryority/UriReference" "path" "Ljava/lang/String;" .null := D182 (Or.inr (hw _ (List.mem_of_getElem? (i := 43) rfl))) (ty := (.object "java/lang/String")) (by decide)
        have F_query_b182 : Fld Z h182 b182 "com/example/pryority/pryority/UriReference" "query" "Ljava/lang/String;" .null := D182 (Or.inr (hw _ (List.mem_of_getElem? (i := 45) rfl))) (ty := (.object "java/lang/String")) (by decide)
        show own_Fin _ _ _ _ (T182.setTop (mkF m 94 #[iv p1, iv p2, iv p3, iv p4, iv p5, iv (1 : Int32), iv (1 : Int32), iv (1 : Int32), rv r_178, rv r_179, rv r_180, rv r_181, .unset] [(.ref b182)]))
        refine own_go (XS.dup X182.here hx rfl (hb hby at_94) rfl rfl (Steps.refl _)) ?_
        show own_Fin _ _ _ _ (T182.setTop (mkF m 95 #[iv p1, iv p2, iv p3, iv p4, iv p5, iv (1 : Int32), iv (1 : Int32), iv (1 : Int32), rv r_178, rv r_179, rv r_180, rv r_181, .unset] [(.ref b182), (.ref b182)]))
        refine own_go (XS.aload X182.here hx rfl (hb hby at_95) rfl rfl (Steps.refl _)) ?_
        show own_Fin _ _ _ _ (T182.setTop (mkF m 97 #[iv p1, iv p2, iv p3, iv p4, iv p5, iv (1 : Int32), iv (1 : Int32), iv (1 : Int32), rv r_178, rv r_179, rv r_180, rv r_181, .unset] [(.ref r_178), (.ref b182), (.ref b182)]))
        refine own_go (XS.aload X182.here hx rfl (hb hby at_97) rfl rfl (Steps.refl _)) ?_
        show own_Fin _ _ _ _ (T182.setTop (mkF m 99 #[iv p1, iv p2, iv p3, iv p4, iv p5, iv (1 : Int32), iv (1 : Int32), iv (1 : Int32), rv r_178, rv r_179, rv r_180, rv r_181, .unset] [(.ref r_179), (.ref r_178), (.ref b182), (.ref b182)]))
        refine own_go (XS.aload X182.here hx rfl (hb hby at_99) rfl rfl (Steps.refl _)) ?_
        show own_Fin _ _ _ _ (T182.setTop (mkF m 101 #[iv p1, iv p2, iv p3, iv p4, iv p5, iv (1 : Int32), iv (1 : Int32), iv (1 : Int32), rv r_178, rv r_179, rv r_180, rv r_181, .unset] [(.ref r_180), (.ref r_179), (.ref r_178), (.ref b182), (.ref b182)]))
        refine own_go (XS.aload X182.here hx rfl (hb hby at_101) rfl rfl (Steps.refl _)) ?_
        show own_Fin _ _ _ _ (T182.setTop (mkF m 103 #[iv p1, iv p2, iv p3, iv p4, iv p5, iv (1 : Int32), iv (1 : Int32), iv (1 : Int32), rv r_178, rv r_179, rv r_180, rv r_181, .unset] [(.ref r_181), (.ref r_180), (.ref r_179), (.ref r_178), (.ref b182), (.ref b182)]))
        obtain ⟨_, _, ⟨T183, L183, k183, n183⟩, -, X183, ⟨Lc183, hQ183, l183, y183, z183⟩, st183⟩ := X182.specialBack hx (y := (⟨"com/example/pryority/pryority/UriReference", "<init>", "(Ljava/lang/String;Ljava/lang/String;Ljava/lang/String;Ljava/lang/String;)V"⟩ : MethodName)) rfl hown181 (mvT hZ181 (hw _ (List.mem_of_getElem? (i := 29) rfl))) (mvT hZ181 (hw _ (List.mem_of_getElem? (i := 30) rfl))) (mvT hZ181 (hw _ (List.mem_of_getElem? (i := 31) rfl))) (by decide) (backOf (W := 1) (rmui_7 l Z a0 hw [] b182 r_178 r_179 r_180 r_181 h182 n0 Z182 E_b182 F_scheme_b182 F_authority_b182 F_path_b182 F_query_b182 g_b182) hZ181 (hw _ (List.mem_of_getElem? (i := 31) rfl)) (hw _ (List.mem_of_getElem? (i := 28) rfl)) (by decide) (by decide)) (g := (mkF m 103 #[iv p1, iv p2, iv p3, iv p4, iv p5, iv (1 : Int32), iv (1 : Int32), iv (1 : Int32), rv r_178, rv r_179, rv r_180, rv r_181, .unset] [(.ref r_181), (.ref r_180), (.ref r_179), (.ref r_178), (.ref b182), (.ref b182)])) rfl (by rw [hml]; rfl) (Steps.refl _) (a := b182) (argsL := [(.ref r_178), (.ref r_179), (.ref r_180), (.ref r_181)]) (rest := [(.ref b182)]) (lenOf pd__28_Ljava_2f_lang_2f_String_3b_Ljava_2f_lang_2f_String_3b_Ljava_2f_lang_2f_String_3b_Ljava_2f_lang_2f_String_3b__29_V rfl) rfl (by show 2 * 0 + _ ≤ _; exact Nat.le_of_eq rfl) (hb hby at_103) (fun _ hv => ⟨rfl, e182, (by decide : 17 + 0 ≤ _), (by decide : 44 + 0 ≤ _)⟩)
        dsimp only [Pt.U, Pt.locs, Pt.cells, Pt.slots] at X183 l183 y183 z183 st183 hQ183
        subst l183 y183 z183
        refine own_go st183 ?_
        obtain ⟨rfl, Nq183, K183, r183_0, r183_1, r183_2, r183_3, r183_4⟩ := hQ183
        have Od183 := Od182.keep K183 (allS g_b182 all0)
        have r178_0_183 := r178_0_182.keep K183
        have r179_0_183 := r179_0_182.keep K183
        have r180_0_183 := r180_0_182.keep K183
        have r181_0_183 := r181_0_182.keep K183
        have E_b182_183 := E_b182.keep K183
        have Z183 : n0 ≤ T183.heap.size := Nat.le_trans Z182 K183.1
        have hk183 : T181.heap.size ≤ T183.heap.size := Nat.le_trans hk182 K183.1
        have N183 := Fr.app N181 Nq183
        show own_Fin _ _ _ _ (T183.setTop (mkF m 106 #[iv p1, iv p2, iv p3, iv p4, iv p5, iv (1 : Int32), iv (1 : Int32), iv (1 : Int32), rv r_178, rv r_179, rv r_180, rv r_181, .unset] [(.ref b182)]))
        refine own_go (XS.astore X183.here hx rfl (hb hby at_106) rfl rfl rfl (Steps.refl _)) ?_
        show own_Fin _ _ _ _ (T183.setTop (mkF m 108 #[iv p1, iv p2, iv p3, iv p4, iv p5, iv (1 : Int32), iv (1 : Int32), iv (1 : Int32), rv r_178, rv r_179, rv r_180, rv r_181, rv b182] []))
        refine own_go (XS.aload X183.here hx rfl (hb hby at_108) rfl rfl (Steps.refl _)) ?_
        show own_Fin _ _ _ _ (T183.setTop (mkF m 110 #[iv p1, iv p2, iv p3, iv p4, iv p5, iv (1 : Int32), iv (1 : Int32), iv (1 : Int32), rv r_178, rv r_179, rv r_180, rv r_181, rv b182] [(.ref b182)]))
        obtain ⟨cq184, kq184, q184a, q184b, q184c⟩ := isOf hZ181 rfl r183_0
        obtain ⟨_, _, ⟨T184, L184, k184, n184⟩, -, X184, ⟨Lc184, hQ184, l184, y184, z184⟩, st184⟩ := X183.virtualBack hx (y := (⟨"com/example/pryority/pryority/UriReference", "isAbsolute", "()Z"⟩ : MethodName)) (z := (⟨"com/example/pryority/pryority/UriReference", "isAbsolute", "()Z"⟩ : MethodName)) hown181 (mvT hZ181 (hw _ (List.mem_of_getElem? (i := 46) rfl))) (mvT hZ181 (hw _ (List.mem_of_getElem? (i := 47) rfl))) (notFace_of_selects (args := #[]) (mvT hZ181 (hw _ (List.mem_of_getElem? (i := 49) rfl)))) (mvT hZ181 (hw _ (List.mem_of_getElem? (i := 49) rfl))) (mvT hZ181 (hw _ (List.mem_of_getElem? (i := 48) rfl))) (by decide) (backOf (W := 0) (rmia_1 l Z a0 hw [] b182 r_178 T183.heap n0 Z183 r183_1) hZ181 (hw _ (List.mem_of_getElem? (i := 50) rfl)) (hw _ (List.mem_of_getElem? (i := 28) rfl)) (by decide) (by decide)) q184a q184c (g := (mkF m 110 #[iv p1, iv p2, iv p3, iv p4, iv p5, iv (1 : Int32), iv (1 : Int32), iv (1 : Int32), rv r_178, rv r_179, rv r_180, rv r_181, rv b182] [(.ref b182)])) rfl (by rw [hml]; rfl) (Steps.refl _) (argsL := []) (rest := []) (lenOf pd__28__29_Z rfl) rfl (by show 2 * 0 + _ ≤ _; exact Nat.le_of_eq rfl) (hb hby at_110) (fun _ hv => ⟨rfl, rfl, (by decide : 17 + 0 ≤ _), (by decide : 44 + 0 ≤ _)⟩)
        dsimp only [Pt.U, Pt.locs, Pt.cells, Pt.slots] at X184 l184 y184 z184 st184 hQ184
        subst l184 y184 z184
        obtain ⟨rfl, Nq184, e184⟩ := hQ184
        refine own_go st184 ?_
        have N184 := Fr.app N183 Nq184
        show own_Fin _ _ _ _ (T184.setTop (mkF m 113 #[iv p1, iv p2, iv p3, iv p4, iv p5, iv (1 : Int32), iv (1 : Int32), iv (1 : Int32), rv r_178, rv r_179, rv r_180, rv r_181, rv b182] [(.int (1 : Int32))]))
        refine own_go (XS.iload X184.here hx rfl (hb hby at_113) rfl (Steps.refl _)) ?_
        show own_Fin _ _ _ _ (T184.setTop (mkF m 115 #[iv p1, iv p2, iv p3, iv p4, iv p5, iv (1 : Int32), iv (1 : Int32), iv (1 : Int32), rv r_178, rv r_179, rv r_180, rv r_181, rv b182] [(.int (1 : Int32)), (.int (1 : Int32))]))
        refine own_go (XS.icmpNo X184.here hx rfl (hb hby at_115) rfl (teq (by decide : (1 : Int32) = (1 : Int32))).2 (Steps.refl _)) ?_
        show own_Fin _ _ _ _ (T184.setTop (mkF m 118 #[iv p1, iv p2, iv p3, iv p4, iv p5, iv (1 : Int32), iv (1 : Int32), iv (1 : Int32), rv r_178, rv r_179, rv r_180, rv r_181, rv b182] []))
        refine own_go (XS.iconst X184.here hx rfl (hb hby at_118) (Steps.refl _)) ?_
        show own_Fin _ _ _ _ (T184.setTop (mkF m 119 #[iv p1, iv p2, iv p3, iv p4, iv p5, iv (1 : Int32), iv (1 : Int32), iv (1 : Int32), rv r_178, rv r_179, rv r_180, rv r_181, rv b182] [(.int (1 : Int32))]))
        refine own_go (XS.goto X184.here hx rfl (pc0 := 119) (pc' := 123) rfl (hb hby at_119) (by decide) (by decide) (Steps.refl _)) ?_
        show own_Fin _ _ _ _ (T184.setTop (mkF m 123 #[iv p1, iv p2, iv p3, iv p4, iv p5, iv (1 : Int32), iv (1 : Int32), iv (1 : Int32), rv r_178, rv r_179, rv r_180, rv r_181, rv b182] [(.int (1 : Int32))]))
        obtain ⟨fs185, hr185, hrun185, hended185, hRW185⟩ := X184.leaveW (s := s) hS181 (n := T181.heap.size) (by rw [e184]; exact hk183) (v := some (.int (1 : Int32))) (fun h => by rw [Bd.returns] at h; cases h)
        refine own_done (retN X184 hx (t := .boolean) Bd.returns (by simp) (hb hby at_123) hr185) hrun185 hended185 ⟨_, _, rfl, ?_, hRW185.1, hRW185.2.1, hRW185.2.2.1, hRW185.2.2.2.mono (by decide) (by decide)⟩
        show Q0 Z p1 p2 p3 p4 p5 cs h0 n0 _ T184.heap _
        rw [e184]
        exact ⟨rfl, N184⟩
set_option maxRecDepth 65536 in
set_option maxHeartbeats 40000000 in
theorem comes_1 {Post : Tables → Env → Array Value → State → Outcome → State → Prop} (hpost : ∀ tb e args s v u, (limb_1_1.after args s (.returned v) u = true ∧ limb_1_2.after args s (.returned v) u = true ∧ True) → ReturnedEndW s (.returned v) u (Jvm.fieldLocs frame_1_writes args s ++ Jvm.arrayLocs frame_1_arrays args s ++ Jvm.staticLocs frame_1_statics s) 40 1216 → Post tb e args s (.returned v) u) :
    ArmFor flags0 classFile x code maxLocals ret World_1 tables_1 room_1 Calls_1 rest_1 Pre_1 Post := by
  intro l hfl _ _ p e ha hc hk s m args below hf hA hF happ hP
  obtain ⟨hcalls, hrest, hpre⟩ := hP
  obtain ⟨-, -, -, hnamed, -, -, -, hat⟩ := (Spec.applies_iff hf).mp happ
  obtain ⟨hg, hn⟩ := and_e (Cond.before_iff.mp (show (Jvm.Cond.and given_1 narrow_1).before args s = true from hpre))
  obtain ⟨gg1, gg2⟩ := and_e hg
  obtain ⟨gg3, gg4⟩ := and_e gg2
  obtain ⟨gg5, gg6⟩ := and_e gg4
  obtain ⟨gg7, gg8⟩ := and_e gg6
  obtain ⟨gg9, gg10⟩ := and_e gg8
  obtain ⟨w0, w1, w2, w3, w4, rfl⟩ : ∃ w0 w1 w2 w3 w4 : Value, args = #[w0, w1, w2, w3, w4] := by
    have hs : args.size = 5 := by simpa [Cond.value, given_1] using gg1
    obtain ⟨L⟩ := args
    match L, hs with
    | [w0, w1, w2, w3, w4], _ => exact ⟨w0, w1, w2, w3, w4, rfl⟩
  have hw := fun d (hd : d ∈ tables_1) => atoms_spec (ws := Jvm.Cond.code x code maxLocals ret :: tables_1) hat d (List.mem_cons_of_mem _ hd)
  obtain ⟨i0, ei0⟩ := is_v gg3
  obtain rfl : w0 = (.int i0) := Option.some.inj ei0
  obtain ⟨i1, ei1⟩ := is_v gg5
  obtain rfl : w1 = (.int i1) := Option.some.inj ei1
  obtain ⟨i2, ei2⟩ := is_v gg7
  obtain rfl : w2 = (.int i2) := Option.some.inj ei2
  obtain ⟨i3, ei3⟩ := is_v gg9
  obtain rfl : w3 = (.int i3) := Option.some.inj ei3
  obtain ⟨i4, ei4⟩ := is_v gg10
  obtain rfl : w4 = (.int i4) := Option.some.inj ei4
  have hfit : Fit s := fun {y c} hc i hi => by
    obtain ⟨ha, rfl⟩ := Array.getElem?_eq_some_iff.mp hc
    have q := List.all_eq_true.mp ((Array.all_eq_true_iff_forall_mem.mp hF) _ (Array.getElem_mem ha)) i (List.mem_range.mpr hi)
    simpa [Array.getElem?_eq_getElem hi] using q
  obtain ⟨hsets, hown0⟩ := atoms_of _ (rest_1_c_eq ▸ (show rest_1_c.before _ s = true from hrest))
  obtain ⟨cs, ecs⟩ := is_v (Cond.before_iff.mp (hsets _ (List.mem_of_getElem? (i := 1) rfl)))
  have S_CS := Sta.start ecs (Or.inl (hsets _ (List.mem_of_getElem? (i := 0) rfl)))
  have hcs : ¬ cs = (0 : Int32) := by
    intro q
    subst q
    have h := not_v (Cond.before_iff.mp (hsets _ (List.mem_of_getElem? (i := 2) rfl)))
    have h' := (eq_i ecs (Term.int_eval (0 : Int32)) rfl).symm.trans h
    cases h'
  obtain ⟨n, o, h1, h2, h3, _, L, rfl, ⟨rfl, N⟩, hq⟩ := rm0 l s _ hw tables_1 i0 i1 i2 i3 i4 cs s.heap s.heap.size (Nat.le_refl _) (Old.start s) S_CS hcs rfl (hcalls.1 _ (List.mem_of_getElem? (i := 0) rfl)) (hsets _ (List.mem_of_getElem? (i := 2) rfl)) p e ha hc hk s m _ below hf ((Spec.applies_iff_loose hf).mp happ).1 ⟨rfl, ⟨State.Warmed39.refl s, rfl⟩, rfl⟩ trivial
  refine ⟨n, _, h1, h2, h3, hpost _ _ _ _ _ _ ⟨Cond.after_iff.mpr rfl, Cond.after_iff.mpr (eq_i res_at (Term.int_eval (1)) rfl), trivial⟩ ⟨hq.1, hq.2.1, hq.2.2.1, (hq.2.2.2.sift fun y hy => Or.inr (N y hy)).mono (by decide) (by decide)⟩⟩
theorem main_1_1 : Claimed_1_1 := comes_1 fun _ _ _ _ _ _ h hF => ⟨h.1, hF⟩
theorem main_1_2 : Claimed_1_2 := comes_1 fun _ _ _ _ _ _ h hF => ⟨h.2.1, hF⟩
end Jvm.Pilot.@@N@@
namespace Jvm.Pilot.@@N@@
open Jvm Jvm.ClassFile Sem Op Lib Jvm.Free Jvm.Stand Jvm.Pilot.@@N@@.Jvm.D
/-! MADE BY PROGRAM (witnessworld.py) out of the Statement's table words and the real class files: 21 classes; the members and pool entries that the words name. The judged class is class 1, her method 2. -/
namespace start1
open Jvm.ClassFile
def u (s : String) : CpInfo := .utf8 (stringToUtf16 s)
/-- a pool by its gaps: so many unusable entries, then the entry; so many at the end -/
def gap : Nat → List CpInfo → List CpInfo
  | 0, r => r
  | n + 1, r => .unusable :: gap n r
def poolList (es : List (Nat × CpInfo)) (last : Nat) : List CpInfo := es.foldr (fun e r => gap e.1 (e.2 :: r)) (gap last [])
def pool (es : List (Nat × CpInfo)) (last : Nat) : Array CpInfo := ⟨poolList es last⟩
def fileOf (pool : Array CpInfo) (this : Nat) (attrs : Array Attribute := #[]) (ms : Array MethodInfo := #[]) (fl : Nat := 33) (sup : Nat := 0) (ifs : Array Nat := #[]) (fds : Array FieldInfo := #[]) : ClassFile where
  minorVersion := 0
  majorVersion := 65
  constantPool := pool
  accessFlags := fl
  thisClass := this
  superClass := sup
  interfaces := ifs
  fields := fds
  methods := ms
  attributes := attrs
def plain (name : String) (sup : Option ClassId) : Class where
  name := name
  kind := .ordinary
  loader := none
  accessFlags := 33
  super := sup
  interfaces := #[]
  cf := none
  fields := #[]
  methods := #[]
  instanceTypes := #[]
  staticTypes := #[]
  resolved := #[]
  callSites := []
  init := .initialized
  statics := none
  mirror := none

def pool0 : Array CpInfo := pool [(5, u "<init>"), (0, u "()V"), (1, .class_ 10), (1, u "java/lang/Object")] 113

def k0c0 : Code := { maxStack := 0, maxLocals := 1, code := object_method_1_code, exceptionTable := #[], attributes := #[] }
def k0m0 : Method := { name := "<init>", desc := "()V", sig := { parameters := [], returnType := none }, accessFlags := 1, code := some k0c0 }
/-- java/lang/Object -/
def k0 : Class := { plain "java/lang/Object" none with
  accessFlags := 33
  interfaces := #[]
  cf := some (fileOf pool0 8 #[] #[{ accessFlags := 1, nameIndex := 5, descriptorIndex := 6, attributes := #[] }] 33 0 #[] #[])
  fields := #[]
  methods := #[k0m0]
  instanceTypes := #[]
  staticTypes := #[]
  resolved := Array.replicate 124 none
  statics := none }

def pool1 : Array CpInfo := pool [(2, .class_ 4), (1, u "java/lang/Object"), (0, u "<init>"), (0, u "()V"), (0, .class_ 8), (0, u "java/lang/String"), (0, .methodref 7 10), (0, .nameAndType 5 11), (0, u "([C)V"), (0, .methodref 13 14), (0, .class_ 15), (0, .nameAndType 16 17), (0, u "com/example/pryority/pryority/UriReferenceIsAbsolutePinLaw"), (0, u "draw"), (0, u "(I)Ljava/lang/String;"), (0, .class_ 19), (0, u "com/example/pryority/pryority/UriReference"), (0, .methodref 18 21), (0, .nameAndType 5 22), (0, u "(Ljava/lang/String;Ljava/lang/String;Ljava/lang/String;Ljava/lang/String;)V"), (0, .methodref 18 24), (0, .nameAndType 25 26), (0, u "isAbsolute"), (0, u "()Z"), (3, u "law"), (0, u "(IIIII)Z")] 2

def k1m0 : Method := { name := "<init>", desc := "()V", sig := { parameters := [], returnType := none }, accessFlags := 1, code := none }
def k1c1 : Code := { maxStack := 4, maxLocals := 3, code := method_2_code, exceptionTable := #[], attributes := #[] }
def k1m1 : Method := { name := "draw", desc := "(I)Ljava/lang/String;", sig := { parameters := [.int], returnType := some (.object "java/lang/String") }, accessFlags := 10, code := some k1c1 }
def k1c2 : Code := { maxStack := 6, maxLocals := 13, code := code, exceptionTable := #[], attributes := #[] }
def k1m2 : Method := { name := "law", desc := "(IIIII)Z", sig := { parameters := [.int, .int, .int, .int, .int], returnType := some .boolean }, accessFlags := 9, code := some k1c2 }
/-- com/example/pryority/pryority/UriReferenceIsAbsolutePinLaw -/
def k1 : Class := { plain "com/example/pryority/pryority/UriReferenceIsAbsolutePinLaw" (some 0) with
  accessFlags := 49
  interfaces := #[]
  cf := some (fileOf pool1 13 #[] #[{ accessFlags := 1, nameIndex := 5, descriptorIndex := 6, attributes := #[] }, { accessFlags := 10, nameIndex := 16, descriptorIndex := 17, attributes := #[] }, { accessFlags := 9, nameIndex := 30, descriptorIndex := 31, attributes := #[] }] 49 2 #[] #[])
  fields := #[]
  methods := #[k1m0, k1m1, k1m2]
  instanceTypes := #[]
  staticTypes := #[]
  resolved := Array.replicate 34 none
  statics := none }

def pool2 : Array CpInfo := pool [(1, .class_ 2), (0, u "java/io/Serializable"), (0, .class_ 4), (0, u "java/lang/Object")] 2

/-- java/io/Serializable -/
def k2 : Class := { plain "java/io/Serializable" (some 0) with
  accessFlags := 1537
  interfaces := #[]
  cf := some (fileOf pool2 1 #[] #[] 1537 3 #[] #[])
  fields := #[]
  methods := #[]
  instanceTypes := #[]
  staticTypes := #[]
  resolved := Array.replicate 7 none
  statics := none }

def pool3 : Array CpInfo := pool [(1, .class_ 2), (0, u "java/lang/Comparable"), (0, .class_ 4), (0, u "java/lang/Object")] 7

/-- java/lang/Comparable -/
def k3 : Class := { plain "java/lang/Comparable" (some 0) with
  accessFlags := 1537
  interfaces := #[]
  cf := some (fileOf pool3 1 #[] #[] 1537 3 #[] #[])
  fields := #[]
  methods := #[]
  instanceTypes := #[]
  staticTypes := #[]
  resolved := Array.replicate 12 none
  statics := none }

def pool4 : Array CpInfo := pool [(2, .class_ 4), (1, u "java/lang/CharSequence"), (42, .class_ 48), (0, u "java/lang/CharSequence$1CodePointIterator"), (10, .class_ 60), (0, u "java/lang/CharSequence$1CharIterator"), (5, .class_ 67), (0, u "java/lang/Object")] 63

/-- java/lang/CharSequence -/
def k4 : Class := { plain "java/lang/CharSequence" (some 0) with
  accessFlags := 1537
  interfaces := #[]
  cf := some (fileOf pool4 2 #[.nestMembers #[47, 59]] #[] 1537 66 #[] #[])
  fields := #[]
  methods := #[]
  instanceTypes := #[]
  staticTypes := #[]
  resolved := Array.replicate 131 none
  statics := none }

def pool5 : Array CpInfo := pool [(1, .class_ 2), (0, u "java/lang/constant/Constable"), (0, .class_ 4), (0, u "java/lang/Object")] 6

/-- java/lang/constant/Constable -/
def k5 : Class := { plain "java/lang/constant/Constable" (some 0) with
  accessFlags := 1537
  interfaces := #[]
  cf := some (fileOf pool5 1 #[] #[] 1537 3 #[] #[])
  fields := #[]
  methods := #[]
  instanceTypes := #[]
  staticTypes := #[]
  resolved := Array.replicate 11 none
  statics := none }

def pool6 : Array CpInfo := pool [(1, .class_ 2), (0, u "java/lang/constant/ConstantDesc"), (0, .class_ 4), (0, u "java/lang/Object")] 32

/-- java/lang/constant/ConstantDesc -/
def k6 : Class := { plain "java/lang/constant/ConstantDesc" (some 0) with
  accessFlags := 1537
  interfaces := #[]
  cf := some (fileOf pool6 1 #[] #[] 1537 3 #[] #[])
  fields := #[]
  methods := #[]
  instanceTypes := #[]
  staticTypes := #[]
  resolved := Array.replicate 37 none
  statics := none }

def pool7 : Array CpInfo := pool [(1, .methodref 2 3), (0, .class_ 4), (0, .nameAndType 5 6), (0, u "java/lang/Object"), (0, u "<init>"), (0, u "()V"), (0, .string 8), (0, u ""), (0, .fieldref 10 11), (0, .class_ 12), (0, .nameAndType 13 14), (0, u "java/lang/String"), (0, u "value"), (0, u "[B"), (0, .fieldref 10 16), (0, .nameAndType 17 18), (0, u "coder"), (0, u "B"), (2, u "hash"), (0, u "I"), (2, u "hashIsZero"), (0, u "Z"), (0, .methodref 10 28), (0, .nameAndType 5 29), (0, u "([CIILjava/lang/Void;)V"), (8, .fieldref 10 39), (0, .nameAndType 40 26), (0, u "COMPACT_STRINGS"), (1, .class_ 44), (1, u "java/lang/StringUTF16"), (0, u "compress"), (1, .methodref 42 48), (0, .nameAndType 49 50), (0, u "coderFromArrayLen"), (0, u "([BI)B"), (126, .methodref 42 178), (0, .nameAndType 45 179), (0, u "([CII)[B"), (395, .class_ 576), (0, u "java/lang/CharSequence"), (22, u "CASE_INSENSITIVE_ORDER"), (0, u "Ljava/util/Comparator;"), (409, u "([C)V"), (90, u "serialPersistentFields"), (0, u "[Ljava/io/ObjectStreamField;"), (0, .class_ 1104), (0, u "java/lang/String$CaseInsensitiveComparator"), (1, .class_ 1107), (0, u "java/io/Serializable"), (0, .class_ 1109), (0, u "java/lang/Comparable"), (0, .class_ 1111), (0, u "java/lang/constant/Constable"), (0, .class_ 1113), (0, u "java/lang/constant/ConstantDesc"), (2, u "serialVersionUID"), (0, u "J"), (3, u "REPL"), (0, u "C"), (2, u "LATIN1"), (1, u "UTF16")] 323

def k7m0 : Method := { name := "<init>", desc := "()V", sig := { parameters := [], returnType := none }, accessFlags := 1, code := none }
def k7c1 : Code := { maxStack := 5, maxLocals := 2, code := jdk_42_method_3_code, exceptionTable := #[], attributes := #[] }
def k7m1 : Method := { name := "<init>", desc := "([C)V", sig := { parameters := [(.array .char)], returnType := none }, accessFlags := 1, code := some k7c1 }
def k7c2 : Code := { maxStack := 4, maxLocals := 6, code := jdk_42_method_149_code, exceptionTable := #[], attributes := #[] }
def k7m2 : Method := { name := "<init>", desc := "([CIILjava/lang/Void;)V", sig := { parameters := [(.array .char), .int, .int, (.object "java/lang/Void")], returnType := none }, accessFlags := 2, code := some k7c2 }
/-- java/lang/String -/
def k7 : Class := { plain "java/lang/String" (some 0) with
  accessFlags := 49
  interfaces := #[2, 3, 4, 5, 6]
  cf := some (fileOf pool7 10 #[.nestMembers #[1103]] #[{ accessFlags := 1, nameIndex := 5, descriptorIndex := 6, attributes := #[] }, { accessFlags := 1, nameIndex := 5, descriptorIndex := 1010, attributes := #[] }, { accessFlags := 2, nameIndex := 5, descriptorIndex := 29, attributes := #[] }] 49 2 #[1106, 1108, 575, 1110, 1112] #[{ accessFlags := 18, nameIndex := 13, descriptorIndex := 14, attributes := #[] }, { accessFlags := 18, nameIndex := 17, descriptorIndex := 18, attributes := #[] }, { accessFlags := 2, nameIndex := 21, descriptorIndex := 22, attributes := #[] }, { accessFlags := 2, nameIndex := 25, descriptorIndex := 26, attributes := #[] }, { accessFlags := 26, nameIndex := 1116, descriptorIndex := 1117, attributes := #[] }, { accessFlags := 24, nameIndex := 40, descriptorIndex := 26, attributes := #[] }, { accessFlags := 26, nameIndex := 1101, descriptorIndex := 1102, attributes := #[] }, { accessFlags := 26, nameIndex := 1121, descriptorIndex := 1122, attributes := #[] }, { accessFlags := 25, nameIndex := 599, descriptorIndex := 600, attributes := #[] }, { accessFlags := 24, nameIndex := 1125, descriptorIndex := 18, attributes := #[] }, { accessFlags := 24, nameIndex := 1127, descriptorIndex := 18, attributes := #[] }])
  fields := #[{ name := "value", type := (.array .byte), accessFlags := 18, slot := 0, constantValue := 0 }, { name := "coder", type := .byte, accessFlags := 18, slot := 1, constantValue := 0 }, { name := "hash", type := .int, accessFlags := 2, slot := 2, constantValue := 0 }, { name := "hashIsZero", type := .boolean, accessFlags := 2, slot := 3, constantValue := 0 }, { name := "serialVersionUID", type := .long, accessFlags := 26, slot := 0, constantValue := 0 }, { name := "COMPACT_STRINGS", type := .boolean, accessFlags := 24, slot := 1, constantValue := 0 }, { name := "serialPersistentFields", type := (.array (.object "java/io/ObjectStreamField")), accessFlags := 26, slot := 2, constantValue := 0 }, { name := "REPL", type := .char, accessFlags := 26, slot := 3, constantValue := 0 }, { name := "CASE_INSENSITIVE_ORDER", type := (.object "java/util/Comparator"), accessFlags := 25, slot := 4, constantValue := 0 }, { name := "LATIN1", type := .byte, accessFlags := 24, slot := 5, constantValue := 0 }, { name := "UTF16", type := .byte, accessFlags := 24, slot := 6, constantValue := 0 }]
  methods := #[k7m0, k7m1, k7m2]
  instanceTypes := #[(.array .byte), .byte, .int, .boolean]
  staticTypes := #[.long, .boolean, (.array (.object "java/io/ObjectStreamField")), .char, (.object "java/util/Comparator"), .byte, .byte]
  resolved := Array.replicate 1451 none
  statics := some 0 }

def pool8 : Array CpInfo := pool [(1, .methodref 2 3), (0, .class_ 4), (0, .nameAndType 5 6), (0, u "java/lang/Object"), (0, u "<init>"), (0, u "()V"), (0, .class_ 8), (0, u "java/lang/Record")] 13

def k8c0 : Code := { maxStack := 1, maxLocals := 1, code := jdk_30_method_1_code, exceptionTable := #[], attributes := #[] }
def k8m0 : Method := { name := "<init>", desc := "()V", sig := { parameters := [], returnType := none }, accessFlags := 4, code := some k8c0 }
/-- java/lang/Record -/
def k8 : Class := { plain "java/lang/Record" (some 0) with
  accessFlags := 1057
  interfaces := #[]
  cf := some (fileOf pool8 7 #[] #[{ accessFlags := 4, nameIndex := 5, descriptorIndex := 6, attributes := #[] }] 1057 2 #[] #[])
  fields := #[]
  methods := #[k8m0]
  instanceTypes := #[]
  staticTypes := #[]
  resolved := Array.replicate 22 none
  statics := none }

def pool9 : Array CpInfo := pool [(1, .methodref 2 3), (0, .class_ 4), (0, .nameAndType 5 6), (0, u "java/lang/Record"), (0, u "<init>"), (0, u "()V"), (0, .fieldref 8 9), (0, .class_ 10), (0, .nameAndType 11 12), (0, u "com/example/pryority/pryority/UriReference"), (0, u "scheme"), (0, u "Ljava/lang/String;"), (0, .fieldref 8 14), (0, .nameAndType 15 12), (0, u "authority"), (0, .fieldref 8 17), (0, .nameAndType 18 12), (0, u "path"), (0, .fieldref 8 20), (0, .nameAndType 21 12), (0, u "query"), (2, u "PARTS"), (0, u "Ljava/util/regex/Pattern;"), (15, u "()Z"), (13, u "(Ljava/lang/String;Ljava/lang/String;Ljava/lang/String;Ljava/lang/String;)V"), (2, u "isAbsolute")] 172

def k9c0 : Code := { maxStack := 2, maxLocals := 5, code := prog_14_method_1_code, exceptionTable := #[], attributes := #[] }
def k9m0 : Method := { name := "<init>", desc := "(Ljava/lang/String;Ljava/lang/String;Ljava/lang/String;Ljava/lang/String;)V", sig := { parameters := [(.object "java/lang/String"), (.object "java/lang/String"), (.object "java/lang/String"), (.object "java/lang/String")], returnType := none }, accessFlags := 0, code := some k9c0 }
def k9c1 : Code := { maxStack := 1, maxLocals := 1, code := prog_14_method_3_code, exceptionTable := #[], attributes := #[] }
def k9m1 : Method := { name := "isAbsolute", desc := "()Z", sig := { parameters := [], returnType := some .boolean }, accessFlags := 0, code := some k9c1 }
/-- com/example/pryority/pryority/UriReference -/
def k9 : Class := { plain "com/example/pryority/pryority/UriReference" (some 8) with
  accessFlags := 48
  interfaces := #[]
  cf := some (fileOf pool9 8 #[] #[{ accessFlags := 0, nameIndex := 5, descriptorIndex := 55, attributes := #[] }, { accessFlags := 0, nameIndex := 58, descriptorIndex := 41, attributes := #[] }] 48 2 #[] #[{ accessFlags := 18, nameIndex := 11, descriptorIndex := 12, attributes := #[] }, { accessFlags := 18, nameIndex := 15, descriptorIndex := 12, attributes := #[] }, { accessFlags := 18, nameIndex := 18, descriptorIndex := 12, attributes := #[] }, { accessFlags := 18, nameIndex := 21, descriptorIndex := 12, attributes := #[] }, { accessFlags := 26, nameIndex := 24, descriptorIndex := 25, attributes := #[] }])
  fields := #[{ name := "scheme", type := (.object "java/lang/String"), accessFlags := 18, slot := 0, constantValue := 0 }, { name := "authority", type := (.object "java/lang/String"), accessFlags := 18, slot := 1, constantValue := 0 }, { name := "path", type := (.object "java/lang/String"), accessFlags := 18, slot := 2, constantValue := 0 }, { name := "query", type := (.object "java/lang/String"), accessFlags := 18, slot := 3, constantValue := 0 }, { name := "PARTS", type := (.object "java/util/regex/Pattern"), accessFlags := 26, slot := 0, constantValue := 0 }]
  methods := #[k9m0, k9m1]
  instanceTypes := #[(.object "java/lang/String"), (.object "java/lang/String"), (.object "java/lang/String"), (.object "java/lang/String")]
  staticTypes := #[(.object "java/util/regex/Pattern")]
  resolved := Array.replicate 231 none
  statics := none }

def pool10 : Array CpInfo := pool [(6, .class_ 8), (1, u "java/lang/Object"), (0, u "<init>"), (0, u "()V"), (1, .class_ 14), (1, u "java/lang/StringUTF16"), (31, u "$assertionsDisabled"), (0, u "Z"), (13, u "HI_BYTE_SHIFT"), (0, u "I"), (2, u "LO_BYTE_SHIFT"), (49, .methodref 12 116), (0, .nameAndType 117 118), (0, u "compress"), (0, u "([CI[BII)I"), (3, u "([CII)[B"), (138, u "coderFromArrayLen"), (0, u "([BI)B"), (106, .class_ 371), (1, u "java/lang/StringUTF16$LinesSpliterator"), (58, u "MAX_LENGTH"), (196, .class_ 628), (0, u "java/lang/StringUTF16$CodePointsSpliterator"), (0, .class_ 630), (0, u "java/lang/StringUTF16$CharsSpliterator")] 4

def k10m0 : Method := { name := "<init>", desc := "()V", sig := { parameters := [], returnType := none }, accessFlags := 0, code := none }
def k10c1 : Code := { maxStack := 2, maxLocals := 2, code := jdk_52_method_15_code, exceptionTable := #[], attributes := #[] }
def k10m1 : Method := { name := "coderFromArrayLen", desc := "([BI)B", sig := { parameters := [(.array .byte), .int], returnType := some .byte }, accessFlags := 8, code := some k10c1 }
def k10c2 : Code := { maxStack := 5, maxLocals := 6, code := jdk_52_method_16_code, exceptionTable := #[], attributes := #[] }
def k10m2 : Method := { name := "compress", desc := "([CII)[B", sig := { parameters := [(.array .char), .int, .int], returnType := some (.array .byte) }, accessFlags := 9, code := some k10c2 }
def k10c3 : Code := { maxStack := 3, maxLocals := 7, code := jdk_52_method_21_code, exceptionTable := #[], attributes := #[] }
def k10m3 : Method := { name := "compress", desc := "([CI[BII)I", sig := { parameters := [(.array .char), .int, (.array .byte), .int, .int], returnType := some .int }, accessFlags := 9, code := some k10c3 }
/-- java/lang/StringUTF16 -/
def k10 : Class := { plain "java/lang/StringUTF16" (some 0) with
  accessFlags := 48
  interfaces := #[]
  cf := some (fileOf pool10 12 #[.nestMembers #[627, 629, 369]] #[{ accessFlags := 0, nameIndex := 9, descriptorIndex := 10, attributes := #[] }, { accessFlags := 8, nameIndex := 261, descriptorIndex := 262, attributes := #[] }, { accessFlags := 9, nameIndex := 117, descriptorIndex := 122, attributes := #[] }, { accessFlags := 9, nameIndex := 117, descriptorIndex := 118, attributes := #[] }] 48 6 #[] #[{ accessFlags := 26, nameIndex := 61, descriptorIndex := 62, attributes := #[] }, { accessFlags := 26, nameIndex := 65, descriptorIndex := 62, attributes := #[] }, { accessFlags := 24, nameIndex := 430, descriptorIndex := 62, attributes := #[] }, { accessFlags := 4120, nameIndex := 46, descriptorIndex := 47, attributes := #[] }])
  fields := #[{ name := "HI_BYTE_SHIFT", type := .int, accessFlags := 26, slot := 0, constantValue := 0 }, { name := "LO_BYTE_SHIFT", type := .int, accessFlags := 26, slot := 1, constantValue := 0 }, { name := "MAX_LENGTH", type := .int, accessFlags := 24, slot := 2, constantValue := 0 }, { name := "$assertionsDisabled", type := .boolean, accessFlags := 4120, slot := 3, constantValue := 0 }]
  methods := #[k10m0, k10m1, k10m2, k10m3]
  instanceTypes := #[]
  staticTypes := #[.int, .int, .int, .boolean]
  resolved := Array.replicate 635 none
  statics := none }

def pool11 : Array CpInfo := pool [(4, .class_ 6), (1, u "java/lang/Object"), (0, u "<init>"), (0, u "()V"), (5, .class_ 16), (1, u "java/lang/StringLatin1"), (104, u "$assertionsDisabled"), (0, u "Z"), (98, .class_ 223), (1, u "java/lang/StringLatin1$LinesSpliterator"), (166, .class_ 391), (0, u "java/lang/StringLatin1$CharsSpliterator")] 3

def k11m0 : Method := { name := "<init>", desc := "()V", sig := { parameters := [], returnType := none }, accessFlags := 0, code := none }
/-- java/lang/StringLatin1 -/
def k11 : Class := { plain "java/lang/StringLatin1" (some 0) with
  accessFlags := 48
  interfaces := #[]
  cf := some (fileOf pool11 14 #[.nestMembers #[390, 221]] #[{ accessFlags := 0, nameIndex := 7, descriptorIndex := 8, attributes := #[] }] 48 4 #[] #[{ accessFlags := 4120, nameIndex := 121, descriptorIndex := 122, attributes := #[] }])
  fields := #[{ name := "$assertionsDisabled", type := .boolean, accessFlags := 4120, slot := 0, constantValue := 0 }]
  methods := #[k11m0]
  instanceTypes := #[]
  staticTypes := #[.boolean]
  resolved := Array.replicate 395 none
  statics := none }

def pool12 : Array CpInfo := pool [(2, .class_ 4), (1, u "java/lang/Object"), (0, u "<init>"), (0, u "()V"), (17, .class_ 26), (1, u "jdk/internal/util/Preconditions"), (28, .class_ 56), (0, u "jdk/internal/util/Preconditions$4"), (57, .class_ 115), (0, u "jdk/internal/util/Preconditions$1"), (7, u "SIOOBE_FORMATTER"), (0, u "Ljava/util/function/BiFunction;"), (0, .class_ 126), (0, u "jdk/internal/util/Preconditions$2"), (3, u "AIOOBE_FORMATTER"), (0, .class_ 132), (0, u "jdk/internal/util/Preconditions$3"), (3, u "IOOBE_FORMATTER")] 57

def k12m0 : Method := { name := "<init>", desc := "()V", sig := { parameters := [], returnType := none }, accessFlags := 1, code := none }
/-- jdk/internal/util/Preconditions -/
def k12 : Class := { plain "jdk/internal/util/Preconditions" (some 0) with
  accessFlags := 33
  interfaces := #[]
  cf := some (fileOf pool12 24 #[.nestMembers #[55, 131, 125, 114]] #[{ accessFlags := 1, nameIndex := 5, descriptorIndex := 6, attributes := #[] }] 33 2 #[] #[{ accessFlags := 25, nameIndex := 123, descriptorIndex := 124, attributes := #[] }, { accessFlags := 25, nameIndex := 130, descriptorIndex := 124, attributes := #[] }, { accessFlags := 25, nameIndex := 136, descriptorIndex := 124, attributes := #[] }])
  fields := #[{ name := "SIOOBE_FORMATTER", type := (.object "java/util/function/BiFunction"), accessFlags := 25, slot := 0, constantValue := 0 }, { name := "AIOOBE_FORMATTER", type := (.object "java/util/function/BiFunction"), accessFlags := 25, slot := 1, constantValue := 0 }, { name := "IOOBE_FORMATTER", type := (.object "java/util/function/BiFunction"), accessFlags := 25, slot := 2, constantValue := 0 }]
  methods := #[k12m0]
  instanceTypes := #[]
  staticTypes := #[(.object "java/util/function/BiFunction"), (.object "java/util/function/BiFunction"), (.object "java/util/function/BiFunction")]
  resolved := Array.replicate 194 none
  statics := some 1 }

def pool13 : Array CpInfo := pool [(9, u "<init>"), (6, .class_ 18), (1, u "java/lang/Object"), (0, u "()V"), (1, .class_ 23), (1, u "jdk/internal/util/ArraysSupport"), (0, u "LOG2_ARRAY_LONG_INDEX_SCALE"), (0, u "I"), (2, u "U"), (0, u "Ljdk/internal/misc/Unsafe;"), (8, u "BIG_ENDIAN"), (0, u "Z"), (8, u "LOG2_BYTE_BIT_SIZE"), (4, u "LOG2_ARRAY_INT_INDEX_SCALE"), (54, u "JLA"), (0, u "Ljdk/internal/access/JavaLangAccess;"), (11, u "LOG2_ARRAY_BOOLEAN_INDEX_SCALE"), (9, u "LOG2_ARRAY_BYTE_INDEX_SCALE"), (5, u "LOG2_ARRAY_CHAR_INDEX_SCALE"), (5, u "LOG2_ARRAY_SHORT_INDEX_SCALE"), (18, u "LOG2_ARRAY_FLOAT_INDEX_SCALE"), (24, u "LOG2_ARRAY_DOUBLE_INDEX_SCALE"), (89, u "T_BOOLEAN"), (2, u "T_CHAR"), (1, u "T_FLOAT"), (1, u "T_DOUBLE"), (1, u "T_BYTE"), (1, u "T_SHORT"), (1, u "T_INT"), (1, u "T_LONG"), (1, u "SOFT_MAX_ARRAY_LENGTH")] 83

def k13m0 : Method := { name := "<init>", desc := "()V", sig := { parameters := [], returnType := none }, accessFlags := 2, code := none }
/-- jdk/internal/util/ArraysSupport -/
def k13 : Class := { plain "jdk/internal/util/ArraysSupport" (some 0) with
  accessFlags := 33
  interfaces := #[]
  cf := some (fileOf pool13 21 #[] #[{ accessFlags := 2, nameIndex := 9, descriptorIndex := 19, attributes := #[] }] 33 16 #[] #[{ accessFlags := 24, nameIndex := 28, descriptorIndex := 29, attributes := #[] }, { accessFlags := 26, nameIndex := 38, descriptorIndex := 39, attributes := #[] }, { accessFlags := 25, nameIndex := 121, descriptorIndex := 25, attributes := #[] }, { accessFlags := 25, nameIndex := 131, descriptorIndex := 25, attributes := #[] }, { accessFlags := 25, nameIndex := 137, descriptorIndex := 25, attributes := #[] }, { accessFlags := 25, nameIndex := 143, descriptorIndex := 25, attributes := #[] }, { accessFlags := 25, nameIndex := 53, descriptorIndex := 25, attributes := #[] }, { accessFlags := 25, nameIndex := 24, descriptorIndex := 25, attributes := #[] }, { accessFlags := 25, nameIndex := 162, descriptorIndex := 25, attributes := #[] }, { accessFlags := 25, nameIndex := 187, descriptorIndex := 25, attributes := #[] }, { accessFlags := 26, nameIndex := 48, descriptorIndex := 25, attributes := #[] }, { accessFlags := 25, nameIndex := 277, descriptorIndex := 25, attributes := #[] }, { accessFlags := 25, nameIndex := 280, descriptorIndex := 25, attributes := #[] }, { accessFlags := 25, nameIndex := 282, descriptorIndex := 25, attributes := #[] }, { accessFlags := 25, nameIndex := 284, descriptorIndex := 25, attributes := #[] }, { accessFlags := 25, nameIndex := 286, descriptorIndex := 25, attributes := #[] }, { accessFlags := 25, nameIndex := 288, descriptorIndex := 25, attributes := #[] }, { accessFlags := 25, nameIndex := 290, descriptorIndex := 25, attributes := #[] }, { accessFlags := 25, nameIndex := 292, descriptorIndex := 25, attributes := #[] }, { accessFlags := 26, nameIndex := 108, descriptorIndex := 109, attributes := #[] }, { accessFlags := 25, nameIndex := 294, descriptorIndex := 25, attributes := #[] }])
  fields := #[{ name := "U", type := (.object "jdk/internal/misc/Unsafe"), accessFlags := 24, slot := 0, constantValue := 0 }, { name := "BIG_ENDIAN", type := .boolean, accessFlags := 26, slot := 1, constantValue := 0 }, { name := "LOG2_ARRAY_BOOLEAN_INDEX_SCALE", type := .int, accessFlags := 25, slot := 2, constantValue := 0 }, { name := "LOG2_ARRAY_BYTE_INDEX_SCALE", type := .int, accessFlags := 25, slot := 3, constantValue := 0 }, { name := "LOG2_ARRAY_CHAR_INDEX_SCALE", type := .int, accessFlags := 25, slot := 4, constantValue := 0 }, { name := "LOG2_ARRAY_SHORT_INDEX_SCALE", type := .int, accessFlags := 25, slot := 5, constantValue := 0 }, { name := "LOG2_ARRAY_INT_INDEX_SCALE", type := .int, accessFlags := 25, slot := 6, constantValue := 0 }, { name := "LOG2_ARRAY_LONG_INDEX_SCALE", type := .int, accessFlags := 25, slot := 7, constantValue := 0 }, { name := "LOG2_ARRAY_FLOAT_INDEX_SCALE", type := .int, accessFlags := 25, slot := 8, constantValue := 0 }, { name := "LOG2_ARRAY_DOUBLE_INDEX_SCALE", type := .int, accessFlags := 25, slot := 9, constantValue := 0 }, { name := "LOG2_BYTE_BIT_SIZE", type := .int, accessFlags := 26, slot := 10, constantValue := 0 }, { name := "T_BOOLEAN", type := .int, accessFlags := 25, slot := 11, constantValue := 0 }, { name := "T_CHAR", type := .int, accessFlags := 25, slot := 12, constantValue := 0 }, { name := "T_FLOAT", type := .int, accessFlags := 25, slot := 13, constantValue := 0 }, { name := "T_DOUBLE", type := .int, accessFlags := 25, slot := 14, constantValue := 0 }, { name := "T_BYTE", type := .int, accessFlags := 25, slot := 15, constantValue := 0 }, { name := "T_SHORT", type := .int, accessFlags := 25, slot := 16, constantValue := 0 }, { name := "T_INT", type := .int, accessFlags := 25, slot := 17, constantValue := 0 }, { name := "T_LONG", type := .int, accessFlags := 25, slot := 18, constantValue := 0 }, { name := "JLA", type := (.object "jdk/internal/access/JavaLangAccess"), accessFlags := 26, slot := 19, constantValue := 0 }, { name := "SOFT_MAX_ARRAY_LENGTH", type := .int, accessFlags := 25, slot := 20, constantValue := 0 }]
  methods := #[k13m0]
  instanceTypes := #[]
  staticTypes := #[(.object "jdk/internal/misc/Unsafe"), .boolean, .int, .int, .int, .int, .int, .int, .int, .int, .int, .int, .int, .int, .int, .int, .int, .int, .int, (.object "jdk/internal/access/JavaLangAccess"), .int]
  resolved := Array.replicate 378 none
  statics := none }

def pool14 : Array CpInfo := pool [(1, u "java/lang/Cloneable"), (0, .class_ 1), (0, u "java/lang/Object"), (0, .class_ 3)] 3

/-- java/lang/Cloneable -/
def k14 : Class := { plain "java/lang/Cloneable" (some 0) with
  accessFlags := 1537
  interfaces := #[]
  cf := some (fileOf pool14 2 #[] #[] 1537 4 #[] #[])
  fields := #[]
  methods := #[]
  instanceTypes := #[]
  staticTypes := #[]
  resolved := Array.replicate 8 none
  statics := none }

/-- the primitive byte -/
def k15 : Class := { plain "byte" none with kind := .primitive 'B', accessFlags := 0x411 }
/-- [B -/
def k16 : Class := { plain "[B" (some 0) with kind := .array 15 .byte, interfaces := #[14, 2], accessFlags := 1041 }

/-- the primitive char -/
def k17 : Class := { plain "char" none with kind := .primitive 'C', accessFlags := 0x411 }
/-- [C -/
def k18 : Class := { plain "[C" (some 0) with kind := .array 17 .char, interfaces := #[14, 2], accessFlags := 1041 }

/-- the primitive int -/
def k19 : Class := { plain "int" none with kind := .primitive 'I', accessFlags := 0x411 }
/-- [I -/
def k20 : Class := { plain "[I" (some 0) with kind := .array 19 .int, interfaces := #[14, 2], accessFlags := 1041 }

def heap : Heap := #[{ cls := 7, slots := #[.long 0, .int 1, .null, .int 0, .null, .int 0, .int 0], vm := .statics 7 },
  { cls := 12, slots := #[.null, .null, .null], vm := .statics 12 }]
def classes : Array Class := #[k0, k1, k2, k3, k4, k5, k6, k7, k8, k9, k10, k11, k12, k13, k14, k15, k16, k17, k18, k19, k20]
def interned : List (Array UInt16 × Addr) := []
def slotsUsed : Nat := 10
def theMethod : MethodId := ⟨1, 2⟩
def args0 : Array Value := #[.int 7, .int 65601, .int 131137, .int 0, .int 65602]
def aboutOver (below : List Frame) : State where
  vm := { classes := classes, interned := interned.toArray }
  heap := heap
  slotsUsed := slotsUsed
  threads := #[{ frames := .invoking theMethod args0 :: below }]
def below0 : List Frame := [.native { method := ⟨0, 0⟩, args := #[] }]
def about1 : State := aboutOver below0
def p0 : Program := .bare "" "" ""
def e0 : Env := launch0.env 0 0 0
theorem w_frames : about1.frames = Frame.invoking theMethod args0 :: below0 := rfl
set_option maxRecDepth 65536 in
theorem w_args : argsFit about1.vm theMethod args0 = true := by decide +kernel
set_option maxRecDepth 65536 in
theorem w_heap : heapFits about1 = true := by decide +kernel
set_option maxRecDepth 65536 in
theorem w_runnable : about1.curStatus? = some .runnable := by decide +kernel
set_option maxRecDepth 65536 in
theorem w_alone : about1.alone = true := by decide +kernel
set_option maxRecDepth 65536 in
theorem w_named : about1.methodNamed? x = some theMethod := by decide +kernel
set_option maxRecDepth 65536 in
theorem w_hears : about1.hears theMethod below0 = true := by decide +kernel
set_option maxRecDepth 65536 in
theorem w_ripe : about1.ripe theMethod args0 below0 = true := by decide +kernel
theorem w_running : about1.status = .running := rfl
set_option maxRecDepth 65536 in
theorem w_room : about1.hasRoom e0.platform room_1 = true :=
  launch0.hasRoom_least _ room_1 (by decide +kernel) (by decide +kernel) (by decide +kernel) (by decide +kernel) (by decide +kernel) (by decide +kernel)
theorem allAtoms_all (ts : List Jvm.Cond) (a : Array Jvm.Value) (st : Jvm.State) : (allAtoms ts).before a st = ts.all (fun c => c.before a st) := by
  induction ts with
  | nil => rfl
  | cons c t ih =>
    show (Jvm.Cond.and c (allAtoms t)).before a st = _
    rw [Jvm.Cond.before_and, ih, List.all_cons]
def words1 : List Jvm.Cond := Jvm.Cond.code x code maxLocals ret :: tables_1
/-- a 'code' word, met by the world's own term for the bytes: nothing is compared byte by byte -/
theorem code_word {y : MethodName} {bytes : ByteArray} {mx : Nat} {rt : Option FieldType} {a : Array Value} {s : State} {m : MethodId} {meth : Method} {c : Code} (h1 : s.methodNamed? y = some m) (h2 : s.vm.method? m = some meth) (h3 : meth.code = some c) (h4 : c.code = bytes)
    (h5 : (c.maxLocals == mx && c.exceptionTable.isEmpty && decide (c.maxStack ≤ mostOperands) && decide (meth.sig.returnType = rt) && !meth.locks && decide (parseMethodDescriptor y.desc = some meth.sig)) = true) : (Jvm.Cond.code y bytes mx rt).before a s = true := by
  simp only [Bool.and_eq_true, beq_iff_eq, Bool.not_eq_true', decide_eq_true_eq] at h5
  obtain ⟨⟨⟨⟨⟨g1, g2⟩, g3⟩, g4⟩, g5⟩, g6⟩ := h5
  simp [Cond.before, Cond.holds, Cond.value, h1, h2, h3, h4, g1, g2, g3, g4, g5, g6]
def isCode : Jvm.Cond → Bool
  | .code _ _ _ _ => true
  | _ => false
theorem all_split {L : List Jvm.Cond} {P : Jvm.Cond → Bool} (h1 : L.all (fun c => isCode c || P c) = true) (h2 : ∀ c ∈ L.filter isCode, P c = true) : L.all P = true := by
  refine List.all_eq_true.mpr fun c hc => ?_
  have h := List.all_eq_true.mp h1 c hc
  rcases Bool.eq_false_or_eq_true (isCode c) with hi | hi
  · exact h2 c (List.mem_filter.mpr ⟨hc, hi⟩)
  · simpa [hi] using h
set_option maxRecDepth 65536 in
theorem w_c0 : (Jvm.Cond.code x code maxLocals ret).before args0 about1 = true := code_word (m := ⟨1, 2⟩) (meth := k1m2) (c := k1c2) (by decide +kernel) rfl rfl rfl (by decide +kernel)
set_option maxRecDepth 65536 in
theorem w_c1 : (Jvm.Cond.code ({ cls := "com/example/pryority/pryority/UriReferenceIsAbsolutePinLaw", name := "draw", desc := "(I)Ljava/lang/String;" } : Jvm.MethodName) method_2_code (3 : Nat) (Option.some (Jvm.ClassFile.FieldType.object "java/lang/String"))).before args0 about1 = true := code_word (m := ⟨1, 1⟩) (meth := k1m1) (c := k1c1) (by decide +kernel) rfl rfl rfl (by decide +kernel)
set_option maxRecDepth 65536 in
theorem w_c2 : (Jvm.Cond.code ({ cls := "java/lang/String", name := "<init>", desc := "([C)V" } : Jvm.MethodName) jdk_42_method_3_code (2 : Nat) (Option.none : Option Jvm.ClassFile.FieldType)).before args0 about1 = true := code_word (m := ⟨7, 1⟩) (meth := k7m1) (c := k7c1) (by decide +kernel) rfl rfl rfl (by decide +kernel)
set_option maxRecDepth 65536 in
theorem w_c3 : (Jvm.Cond.code ({ cls := "java/lang/String", name := "<init>", desc := "([CIILjava/lang/Void;)V" } : Jvm.MethodName) jdk_42_method_149_code (6 : Nat) (Option.none : Option Jvm.ClassFile.FieldType)).before args0 about1 = true := code_word (m := ⟨7, 2⟩) (meth := k7m2) (c := k7c2) (by decide +kernel) rfl rfl rfl (by decide +kernel)
set_option maxRecDepth 65536 in
theorem w_c4 : (Jvm.Cond.code ({ cls := "java/lang/Object", name := "<init>", desc := "()V" } : Jvm.MethodName) object_method_1_code (1 : Nat) (Option.none : Option Jvm.ClassFile.FieldType)).before args0 about1 = true := code_word (m := ⟨0, 0⟩) (meth := k0m0) (c := k0c0) (by decide +kernel) rfl rfl rfl (by decide +kernel)
set_option maxRecDepth 65536 in
theorem w_c5 : (Jvm.Cond.code ({ cls := "com/example/pryority/pryority/UriReference", name := "<init>", desc := "(Ljava/lang/String;Ljava/lang/String;Ljava/lang/String;Ljava/lang/String;)V" } : Jvm.MethodName) prog_14_method_1_code (5 : Nat) (Option.none : Option Jvm.ClassFile.FieldType)).before args0 about1 = true := code_word (m := ⟨9, 0⟩) (meth := k9m0) (c := k9c0) (by decide +kernel) rfl rfl rfl (by decide +kernel)
set_option maxRecDepth 65536 in
theorem w_c6 : (Jvm.Cond.code ({ cls := "java/lang/Record", name := "<init>", desc := "()V" } : Jvm.MethodName) jdk_30_method_1_code (1 : Nat) (Option.none : Option Jvm.ClassFile.FieldType)).before args0 about1 = true := code_word (m := ⟨8, 0⟩) (meth := k8m0) (c := k8c0) (by decide +kernel) rfl rfl rfl (by decide +kernel)
set_option maxRecDepth 65536 in
theorem w_c7 : (Jvm.Cond.code ({ cls := "com/example/pryority/pryority/UriReference", name := "isAbsolute", desc := "()Z" } : Jvm.MethodName) prog_14_method_3_code (1 : Nat) (Option.some Jvm.ClassFile.FieldType.boolean)).before args0 about1 = true := code_word (m := ⟨9, 1⟩) (meth := k9m1) (c := k9c1) (by decide +kernel) rfl rfl rfl (by decide +kernel)
set_option maxRecDepth 65536 in
theorem w_c8 : (Jvm.Cond.code ({ cls := "java/lang/StringUTF16", name := "compress", desc := "([CII)[B" } : Jvm.MethodName) jdk_52_method_16_code (6 : Nat) (Option.some (Jvm.ClassFile.FieldType.array Jvm.ClassFile.FieldType.byte))).before args0 about1 = true := code_word (m := ⟨10, 2⟩) (meth := k10m2) (c := k10c2) (by decide +kernel) rfl rfl rfl (by decide +kernel)
set_option maxRecDepth 65536 in
theorem w_c9 : (Jvm.Cond.code ({ cls := "java/lang/StringUTF16", name := "compress", desc := "([CI[BII)I" } : Jvm.MethodName) jdk_52_method_21_code (7 : Nat) (Option.some Jvm.ClassFile.FieldType.int)).before args0 about1 = true := code_word (m := ⟨10, 3⟩) (meth := k10m3) (c := k10c3) (by decide +kernel) rfl rfl rfl (by decide +kernel)
set_option maxRecDepth 65536 in
theorem w_c10 : (Jvm.Cond.code ({ cls := "java/lang/StringUTF16", name := "coderFromArrayLen", desc := "([BI)B" } : Jvm.MethodName) jdk_52_method_15_code (2 : Nat) (Option.some Jvm.ClassFile.FieldType.byte)).before args0 about1 = true := code_word (m := ⟨10, 1⟩) (meth := k10m1) (c := k10c1) (by decide +kernel) rfl rfl rfl (by decide +kernel)
def codes1 : List Jvm.Cond := [Jvm.Cond.code x code maxLocals ret, Jvm.Cond.code ({ cls := "com/example/pryority/pryority/UriReferenceIsAbsolutePinLaw", name := "draw", desc := "(I)Ljava/lang/String;" } : Jvm.MethodName) method_2_code (3 : Nat) (Option.some (Jvm.ClassFile.FieldType.object "java/lang/String")), Jvm.Cond.code ({ cls := "java/lang/String", name := "<init>", desc := "([C)V" } : Jvm.MethodName) jdk_42_method_3_code (2 : Nat) (Option.none : Option Jvm.ClassFile.FieldType), Jvm.Cond.code ({ cls := "java/lang/String", name := "<init>", desc := "([CIILjava/lang/Void;)V" } : Jvm.MethodName) jdk_42_method_149_code (6 : Nat) (Option.none : Option Jvm.ClassFile.FieldType), Jvm.Cond.code ({ cls := "java/lang/Object", name := "<init>", desc := "()V" } : Jvm.MethodName) object_method_1_code (1 : Nat) (Option.none : Option Jvm.ClassFile.FieldType), Jvm.Cond.code ({ cls := "com/example/pryority/pryority/UriReference", name := "<init>", desc := "(Ljava/lang/String;Ljava/lang/String;Ljava/lang/String;Ljava/lang/String;)V" } : Jvm.MethodName) prog_14_method_1_code (5 : Nat) (Option.none : Option Jvm.ClassFile.FieldType), Jvm.Cond.code ({ cls := "java/lang/Record", name := "<init>", desc := "()V" } : Jvm.MethodName) jdk_30_method_1_code (1 : Nat) (Option.none : Option Jvm.ClassFile.FieldType), Jvm.Cond.code ({ cls := "com/example/pryority/pryority/UriReference", name := "isAbsolute", desc := "()Z" } : Jvm.MethodName) prog_14_method_3_code (1 : Nat) (Option.some Jvm.ClassFile.FieldType.boolean), Jvm.Cond.code ({ cls := "java/lang/StringUTF16", name := "compress", desc := "([CII)[B" } : Jvm.MethodName) jdk_52_method_16_code (6 : Nat) (Option.some (Jvm.ClassFile.FieldType.array Jvm.ClassFile.FieldType.byte)), Jvm.Cond.code ({ cls := "java/lang/StringUTF16", name := "compress", desc := "([CI[BII)I" } : Jvm.MethodName) jdk_52_method_21_code (7 : Nat) (Option.some Jvm.ClassFile.FieldType.int), Jvm.Cond.code ({ cls := "java/lang/StringUTF16", name := "coderFromArrayLen", desc := "([BI)B" } : Jvm.MethodName) jdk_52_method_15_code (2 : Nat) (Option.some Jvm.ClassFile.FieldType.byte)]
set_option maxRecDepth 65536 in
theorem codes_eq : words1.filter isCode = codes1 := rfl
theorem w_codes : ∀ c ∈ words1.filter isCode, c.before args0 about1 = true := by
  rw [codes_eq]
  intro c hc
  simp only [codes1, List.mem_cons, List.not_mem_nil, or_false] at hc
  rcases hc with rfl | rfl | rfl | rfl | rfl | rfl | rfl | rfl | rfl | rfl | rfl
  · exact w_c0
  · exact w_c1
  · exact w_c2
  · exact w_c3
  · exact w_c4
  · exact w_c5
  · exact w_c6
  · exact w_c7
  · exact w_c8
  · exact w_c9
  · exact w_c10
set_option maxRecDepth 65536 in
theorem w_t1 : (words1.take 24).all (fun c => isCode c || c.before args0 about1) = true := by decide +kernel
set_option maxRecDepth 65536 in
theorem w_t2 : ((words1.drop 24).take 24).all (fun c => isCode c || c.before args0 about1) = true := by decide +kernel
set_option maxRecDepth 65536 in
theorem w_t3 : ((words1.drop 24).drop 24).all (fun c => isCode c || c.before args0 about1) = true := by decide +kernel
theorem w_tables : (allAtoms (Jvm.Cond.code x code maxLocals ret :: tables_1)).before args0 about1 = true := by
  rw [allAtoms_all]
  show words1.all (fun c => c.before args0 about1) = true
  refine all_split ?_ w_codes
  rw [← List.take_append_drop 24 words1, List.all_append, w_t1, ← List.take_append_drop 24 (words1.drop 24), List.all_append, w_t2, w_t3]
  rfl
set_option maxRecDepth 65536 in
theorem w_rest : rest_1_c.before args0 about1 = true := by decide +kernel
set_option maxRecDepth 65536 in
theorem w_case : (Jvm.Cond.and given_1 narrow_1).before args0 about1 = true := by decide +kernel
set_option maxRecDepth 65536 in
theorem w_consts : constsHeld consts_1 about1 := Jvm.Lit.constsHeldB_iff.mp (by decide +kernel)
theorem w_applies : (headSpec (Jvm.Cond.code x code maxLocals ret :: tables_1) room_1).applies x e0.platform about1 = true :=
  (Spec.applies_iff w_frames).mpr ⟨w_running, w_runnable, w_alone, w_named, w_hears, w_ripe, w_room, w_tables⟩
theorem atStart : AtStart classFile x code maxLocals ret World_1 tables_1 room_1 Calls_1 rest_1 Pre_1 launch0 p0 e0 about1 theMethod args0 below0 :=
  ⟨lists_1, trivial, launch0.admits_env _ _ _, launch0.least_env, fairChoices_fair.cas, fairChoices_fair.clock, w_frames, w_args, w_heap, w_applies, ⟨w_consts, trivial⟩, w_rest, w_case⟩
end start1
theorem witness_1 : WitnessClaimed_1 := ⟨start1.p0, start1.e0, start1.about1, start1.theMethod, start1.args0, start1.below0, start1.atStart⟩
end Jvm.Pilot.@@N@@
