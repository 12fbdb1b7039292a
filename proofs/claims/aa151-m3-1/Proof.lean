import JvmDerived
import JvmDerived.Pilot.@@N@@Statement
import JvmDerived.Pilot.@@N@@Code
set_option linter.unusedVariables false
set_option linter.unusedSimpArgs false
namespace Jvm.Pilot.@@N@@
open Jvm Jvm.ClassFile Sem Op Lib Jvm.Free Jvm.Stand Jvm.LawKit Jvm.RoadKit Bundle Jvm.Pilot.@@N@@.Jvm.D
/-- the run from S ends as G says -/
def own_Fin (p : Program) (e : Env) (below : List Frame) (G : Outcome → State → Prop) (S : State) : Prop :=
  ∃ t o, Steps p.tables e below S t ∧ t.status = .running ∧ Ended t below o ∧ G o t
theorem own_go {p : Program} {e : Env} {below : List Frame} {G : Outcome → State → Prop} {S S' : State} (h : Steps p.tables e below S S') (k : own_Fin p e below G S') : own_Fin p e below G S := by
  obtain ⟨t, o, h1, h2, h3, h4⟩ := k
  exact ⟨t, o, h.trans h1, h2, h3, h4⟩
theorem own_by {p : Program} {e : Env} {below : List Frame} {G : Outcome → State → Prop} {S S' : State} (h : ∀ t, Steps p.tables e below S' t → Steps p.tables e below S t) (k : own_Fin p e below G S') : own_Fin p e below G S := by
  obtain ⟨t, o, h1, h2, h3, h4⟩ := k
  exact ⟨t, o, h t h1, h2, h3, h4⟩
theorem own_done {p : Program} {e : Env} {below : List Frame} {G : Outcome → State → Prop} {S t : State} {o : Outcome} (h1 : Steps p.tables e below S t) (h2 : t.status = .running) (h3 : Ended t below o) (h4 : G o t) : own_Fin p e below G S := ⟨t, o, h1, h2, h3, h4⟩
def own_get (rs : List Int32) (j : Int32) : Int32 := rs.getD j.toNatClampNeg 0
theorem own_getD (rs : List Int32) (j : Int32) : (rs.map Value.int).getD j.toNatClampNeg (.int (0 : Int32)) = .int (own_get rs j) := by
  unfold own_get
  rw [List.getD_eq_getElem?_getD, List.getD_eq_getElem?_getD, List.getElem?_map]
  cases rs[j.toNatClampNeg]? <;> rfl
theorem own_retI {p : Program} {l : Launch} {e : Env} {R : Room} {s : State} {m : MethodId} {args : Array Value} {below : List Frame} {meth : Method} {c : Code} {T : State} {locs : List Loc} {cells slots : Nat} (X : Stand p l e R s m args below meth c T locs cells slots) (hx : p.tables.exec = Jvm.exec) {pc : Nat} {Ls : Array Slot} {z : Int32} {rest : List Value} (hret : meth.sig.returnType = some .int) (hd : decode c.code pc = .ok (.ireturn, 1)) {fs : List Frame}
    (hl : ∀ (f : JFrame) (acts : List Action), f.method = m → f.locked = none → f.entered = [] → (doReturn e (T.setTop f) acts (some (.int z))).1 = T.setFrames fs) : Steps p.tables e below (T.setTop (mkF m pc Ls (.int z :: rest))) (T.setFrames fs) :=
  retOut X hx hret rfl (Or.inl ⟨rfl, Or.inl rfl, z, rfl⟩) hd hl
section OwnK
open Jvm.Free.SB Jvm.Free.SBG
variable {p : Program} {l : Launch} {e : Env} {R : Room} {s : State} {m : MethodId} {args : Array Value} {below : List Frame} {meth : Method} {c : Code} {T : State} {locs : List Loc} {cells slots : Nat} {Z : State} {a0 : Array Value} {h h' : Heap} {vm0 vm1 : Vm}
/-- the constant "" of String's own: either nothing has been interned since the case's start, or the entry is resolved and its String is an ordinary one -/
def own_K (Z : State) (h : Heap) (vm : Vm) : Prop := IB Z vm [] ∨ ∃ (a b : Addr) (k : ClassId), Lit (Z.setVm vm) "java/lang/String" 7 a ∧ Exa Z h a "java/lang/String" ∧ Fld Z h a "java/lang/String" "coder" "B" (.int (0 : Int32)) ∧ Fld Z h a "java/lang/String" "value" "[B" (.ref b) ∧ Arv Z h b k .byte (0 : Int32) [] (.int (0 : Int32))
theorem own_K.warm (K : own_K Z h vm0) (W : (s.setVm vm0).WarmedH vm1) : own_K Z h vm1 := by
  rcases K with ⟨more, e, hm⟩ | ⟨a, b, k, L, r⟩
  · exact Or.inl ⟨more, (show vm1.interned = _ from W.interned_eq.trans e), hm⟩
  · exact Or.inr ⟨a, b, k, (Lit.stays (s := s) (show Lit (s.setVm vm0) _ _ _ from L) W.wide : Lit (s.setVm vm1) "java/lang/String" 7 a), r⟩
theorem own_K.keep (K : own_K Z h vm0) (Kp : Keep h h' []) : own_K Z h' vm0 := by
  rcases K with q | ⟨a, b, k, L, r1, r2, r3, r4⟩
  · exact Or.inl q
  · exact Or.inr ⟨a, b, k, L, r1.keep Kp, r2.keep Kp (by simp), r3.keep Kp (by simp), r4.keep Kp (by simp)⟩
theorem own_K.keep1 {a1 : Addr} (K : own_K Z h vm0) (E1 : Exa Z h a1 "java/lang/String") (Fn : Fld Z h a1 "java/lang/String" "value" "[B" .null) (wi : (Jvm.Cond.instantiable "java/lang/String" 4).before a0 Z = true) (Kp : Keep h h' [a1]) : own_K Z h' vm0 := by
  rcases K with q | ⟨a, b, k, L, r1, r2, r3, r4⟩
  · exact Or.inl q
  · have n1 : a ∉ [a1] := by
      intro q; rw [List.mem_singleton] at q
      exact Fld.ne r3 Fn (fun q => by cases q) q
    have n2 : b ∉ [a1] := by
      intro q; rw [List.mem_singleton] at q
      exact Exa.neArv E1 r4 wi q.symm
    exact Or.inr ⟨a, b, k, L, r1.keep Kp, r2.keep Kp n1, r3.keep Kp n1, r4.keep Kp n2⟩
theorem own_ldcK (X : Stand p l e R (s.setVm vm0) m args below meth c T [] cells slots) (hx : p.tables.exec = Jvm.exec) (hZ : Z.Warmed39 vm0) (hown : vm0.findClass "java/lang/String" = some m.cls) (w : (Jvm.Cond.stringLink "java/lang/String" 7 "").before a0 Z = true) (wS : ∀ a ∈ Bundle.stringAtoms, a.before a0 Z = true)
    (eT : T.heap = h) {k0 : Nat} (hS : s.Since vm0 k0) (hk : k0 ≤ h.size) (hkeep : ∀ (b : Addr) (cl : Cell), Z.heap[b]? = some cl → s.heap[b]? = some cl) (K : own_K Z h vm0) (hh : Jvm.Lit.constHeld Z "java/lang/String" 7) (hcw : Jvm.Lit.compactW.before a0 Z = true)
    {g : JFrame} (hg : g.method = m) (hd : decode c.code g.pc = .ok (.ldc 7, 2)) (hc : cells + 2 ≤ R.cells) (hl' : slots + 4 ≤ R.slots) :
    ∃ (a : Addr) (T' : State) (h' : Heap) (k1 : Nat) (b : Addr) (vm1 : Vm) (kc : ClassId), Stand p l e R (s.setVm vm1) m args below meth c T' [] (cells + 2) (slots + 4) ∧ T'.heap = h' ∧ Ext h h' ∧ s.Since vm1 k1 ∧ k1 ≤ h'.size ∧ Z.Warmed39 (s.setVm vm1).vm ∧ (s.setVm vm1).vm.findClass "java/lang/String" = some m.cls ∧
      Exa Z h' a "java/lang/String" ∧ Fld Z h' a "java/lang/String" "coder" "B" (.int (0 : Int32)) ∧ Fld Z h' a "java/lang/String" "value" "[B" (.ref b) ∧ Arv Z h' b kc .byte (0 : Int32) [] (.int (0 : Int32)) ∧ Lit (s.setVm vm1) "java/lang/String" 7 a ∧
      ∀ target, Steps p.tables e below (T'.setTop { g with pc := g.pc + 2, stack := .ref a :: g.stack }) target → Steps p.tables e below (T.setTop g) target := by
  rcases K with I | ⟨a, b, k, L, r1, r2, r3, r4⟩
  · obtain ⟨a, T', h', k1, b, k, r1, r2, r3, r4, r5, r6, r7, r8, r9, r10, r11, r12, r13, r14, r15, r16⟩ := ldcSVL X hx hZ hown w wS eT hS hk (Fr.nil _) hkeep I (by simp) hh hcw (vs := []) (z := 0) ⟨by decide, by decide⟩ (by decide) (by decide) hg hd (n := 0) (by decide) (by decide) hc hl'
    exact ⟨a, T', h', k1, b, T'.vm, k, r1, r2, r3, r4, r5, r6, r7, r8, r9, r10, r11, r15, r16⟩
  · exact ⟨a, T, h, k0, b, vm0, k, X.more (by omega) (by omega), eT, ⟨Nat.le_refl _, fun _ _ q => q⟩, hS, hk, hZ, hown, r1, r2, r3, r4, L, ldcAgain X hx hZ hown w (show Lit (s.setVm vm0) _ _ _ from L) hg hd⟩
theorem own_backK {y : MethodName} {bytes : ByteArray} {maxL : Nat} {ret : Option FieldType} {rm : Room} {len W : Nat} {as' : Array Value} {Q : Option Value → Heap → List Loc → Prop}
    (hM : MetFree l y (head1 [Cond.code y bytes maxL ret] rm) (fun a U => a = as' ∧ (Z.Warmed39 U.vm ∧ own_K Z h U.vm) ∧ U.heap = h) (fun _ _ _ _ _ => True) (fun _ U o U' => ∃ v L, o = .returned v ∧ (Q v U'.heap L ∧ own_K Z U'.heap U'.vm) ∧ ReturnedEndW U o U' L rm.cells rm.slots))
    (hZ : Z.Warmed39 s.vm) (wc : (Cond.code y bytes maxL ret).before a0 Z = true) (wz : (Cond.initialized y.cls).before a0 Z = true) (hf : rm.frames + 1 ≤ R.frames) (hl : W + (maxL + 11) + rm.locals ≤ R.locals) :
    BackS l R p e below s args y len W (fun A a => a = as' ∧ A.U.heap = h ∧ A.cells + rm.cells ≤ R.cells ∧ A.slots + rm.slots ≤ R.slots ∧ own_K Z h A.U.vm)
      (fun A _ v B => ∃ L, (Q v B.U.heap L ∧ own_K Z B.U.heap B.U.vm) ∧ B.locs = A.locs ++ L ∧ B.cells = A.cells + rm.cells ∧ B.slots = A.slots + rm.slots) :=
  BackS.of_freeW (bytes := bytes) (maxL := maxL) (ret := ret) (E := fun _ _ o t L k n => k = rm.cells ∧ n = rm.slots ∧ ∃ v, o = .returned v ∧ Q v t.heap L ∧ own_K Z t.heap t.vm) hM hf hl
    (fun m meth c A a Y hp => have hU : Z.Warmed39 A.U.vm := wtrans hZ Y.warmed
      ⟨by show (Cond.and _ .tt).before a A.U = true; rw [Cond.before_and, mv hU wc]; rfl, mv hU wc, mv hU wz, hp.2.2.1, hp.2.2.2.1⟩)
    (fun m meth c A a g mk Y hp => ⟨hp.1, ⟨wtrans hZ Y.warmed, hp.2.2.2.2⟩, hp.2.1⟩) (fun _ _ _ _ _ _ _ _ _ => trivial)
    (fun _ _ _ _ ⟨v, L, h1, h2, h3⟩ => ⟨L, _, _, h3, rfl, rfl, v, h1, h2⟩)
    (fun m meth c A a g mk v t L k n Y hp _ _ ⟨e1, e2, v', e3, e4⟩ => by cases e3; subst e1 e2; exact ⟨L, e4, rfl, rfl, rfl⟩)
end OwnK
theorem own_and255 (x : Int32) : ∃ k : Fin 256, x &&& (255 : Int32) = Int32.ofNat k.val := by
  have h1 : (x &&& (255 : Int32)).toInt = x.toInt % (2 ^ 8 : Nat) := c_mask x 255 8 (by decide) (by decide)
  generalize x &&& (255 : Int32) = y at h1 ⊢
  refine ⟨⟨y.toNatClampNeg, by unfold Int32.toNatClampNeg; omega⟩, ?_⟩
  apply Int32.toInt_inj.mp
  rw [Int32.toInt_ofNat_of_lt (by unfold Int32.toNatClampNeg; omega)]
  show y.toInt = ((y.toInt.toNat : Nat) : Int)
  omega
theorem own_nc (x : Int32) : nar .char ((x &&& (255 : Int32)).toUInt32.toUInt16.toUInt32.toInt32) = x &&& (255 : Int32) := by
  obtain ⟨k, hk⟩ := own_and255 x
  rw [hk]
  exact (show ∀ k : Fin 256, nar .char ((Int32.ofNat k.val).toUInt32.toUInt16.toUInt32.toInt32) = Int32.ofNat k.val by decide +kernel) k
theorem own_lt (x : Int32) : ¬ (255 : Int32) < x &&& (255 : Int32) := by
  obtain ⟨k, hk⟩ := own_and255 x
  rw [hk]
  exact (show ∀ k : Fin 256, ¬ (255 : Int32) < Int32.ofNat k.val by decide +kernel) k
theorem d6_0 : decode jdk_52_method_21_code 0 = .ok (.iconst 0, 1) := by decide +kernel
theorem d6_1 : decode jdk_52_method_21_code 1 = .ok (.istore 5, 2) := by decide +kernel
theorem d6_3 : decode jdk_52_method_21_code 3 = .ok (.iload 5, 2) := by decide +kernel
theorem d6_5 : decode jdk_52_method_21_code 5 = .ok (.iload 4, 2) := by decide +kernel
theorem d6_7 : decode jdk_52_method_21_code 7 = .ok (.if_icmp .ge 37, 3) := by decide +kernel
theorem d6_10 : decode jdk_52_method_21_code 10 = .ok (.aload_n 0, 1) := by decide +kernel
theorem d6_11 : decode jdk_52_method_21_code 11 = .ok (.iload_n 1, 1) := by decide +kernel
theorem d6_12 : decode jdk_52_method_21_code 12 = .ok (.caload, 1) := by decide +kernel
theorem d6_13 : decode jdk_52_method_21_code 13 = .ok (.istore 6, 2) := by decide +kernel
theorem d6_15 : decode jdk_52_method_21_code 15 = .ok (.iload 6, 2) := by decide +kernel
theorem d6_17 : decode jdk_52_method_21_code 17 = .ok (.sipush 255, 3) := by decide +kernel
theorem d6_20 : decode jdk_52_method_21_code 20 = .ok (.if_icmp .le 6, 3) := by decide +kernel
theorem d6_23 : decode jdk_52_method_21_code 23 = .ok (.iload 5, 2) := by decide +kernel
theorem d6_25 : decode jdk_52_method_21_code 25 = .ok (.ireturn, 1) := by decide +kernel
theorem d6_26 : decode jdk_52_method_21_code 26 = .ok (.aload_n 2, 1) := by decide +kernel
theorem d6_27 : decode jdk_52_method_21_code 27 = .ok (.iload_n 3, 1) := by decide +kernel
theorem d6_28 : decode jdk_52_method_21_code 28 = .ok (.iload 6, 2) := by decide +kernel
theorem d6_30 : decode jdk_52_method_21_code 30 = .ok (.i2b, 1) := by decide +kernel
theorem d6_31 : decode jdk_52_method_21_code 31 = .ok (.bastore, 1) := by decide +kernel
theorem d6_32 : decode jdk_52_method_21_code 32 = .ok (.iinc 1 1, 3) := by decide +kernel
theorem d6_35 : decode jdk_52_method_21_code 35 = .ok (.iinc 3 1, 3) := by decide +kernel
theorem d6_38 : decode jdk_52_method_21_code 38 = .ok (.iinc 5 1, 3) := by decide +kernel
theorem d6_41 : decode jdk_52_method_21_code 41 = .ok (.goto (-38), 3) := by decide +kernel
theorem d6_44 : decode jdk_52_method_21_code 44 = .ok (.iload 4, 2) := by decide +kernel
theorem d6_46 : decode jdk_52_method_21_code 46 = .ok (.ireturn, 1) := by decide +kernel
theorem pn_java_lang_StringUTF16 : plainName "java/lang/StringUTF16" = true := by first | (simp [plainName, overriddenIn]; done) | decide +kernel
theorem ef_cm_1 (m : MethodId) (x0 : Addr) (x1 : Int32) (x2 : Addr) (x3 : Int32) (x4 : Int32) : entryFrame m #[(.ref x0), (.int x1), (.ref x2), (.int x3), (.int x4)] 7 = mkF m 0 #[.val (.ref x0), .val (.int x1), .val (.ref x2), .val (.int x3), .val (.int x4), .unset, .unset] [] := by first | (simp [entryFrame, mkF, argsToLocals, Value.category]; done) | rfl
def Qcm_1 (Z : State) (a1 : Addr) (k : ClassId) (c0 : Int32) (a3 : Addr) (kb : ClassId) (h0 : Heap) (n0 : Nat) (v : Option Value) (h : Heap) (L : List Loc) : Prop := v = some (.int (1 : Int32)) ∧ Fr n0 L ∧ Keep h0 h [a3] ∧ Arv Z h a3 kb .byte (1 : Int32) [(.int (nar .byte (c0.toInt8.toInt32)))] (.int (0 : Int32))
abbrev Gcm_1 (Z : State) (a1 : Addr) (k : ClassId) (c0 : Int32) (a3 : Addr) (kb : ClassId) (h0 : Heap) (n0 : Nat) (s : State) : Outcome → State → Prop := fun o U' => ∃ v L, o = .returned v ∧ Qcm_1 Z a1 k c0 a3 kb h0 n0 v U'.heap L ∧ FrameEnd s o U' L ({ frames := 0, cells := 0, slots := 0, locals := 0 } : Room).cells ({ frames := 0, cells := 0, slots := 0, locals := 0 } : Room).slots
set_option maxRecDepth 65536 in
set_option maxHeartbeats 40000000 in
theorem rmcm_1 (l : Launch) (Z : State) (a0 : Array Value) (hw : ∀ d ∈ tables_1, d.before a0 Z = true) (ws : List Jvm.Cond) (a1 : Addr) (k : ClassId) (c0 : Int32) (a3 : Addr) (kb : ClassId) (h0 : Heap) (n0 : Nat) (Z0 : n0 ≤ h0.size) (V_a1 : Arv Z h0 a1 k .char (1 : Int32) [(.int c0)] (.int (0 : Int32))) (V_a3 : Arv Z h0 a3 kb .byte (1 : Int32) [(.int (0 : Int32))] (.int (0 : Int32))) (g_a3 : n0 ≤ a3) (ne13 : a1 ≠ a3) (hc0 : ¬ (255 : Int32) < c0) :
    MetFree l (⟨"java/lang/StringUTF16", "compress", "([CI[BII)I"⟩ : MethodName) (head1 (Jvm.Cond.code (⟨"java/lang/StringUTF16", "compress", "([CI[BII)I"⟩ : MethodName) jdk_52_method_21_code 7 (some .int) :: ws) ({ frames := 0, cells := 0, slots := 0, locals := 0 } : Room)) (fun a U => a = #[(.ref a1), (.int (0 : Int32)), (.ref a3), (.int (0 : Int32)), (.int (1 : Int32))] ∧ Z.Warmed39 U.vm ∧ U.heap = h0) (fun _ _ _ _ _ => True) (fun _ U o U' => ∃ v L, o = .returned v ∧ Qcm_1 Z a1 k c0 a3 kb h0 n0 v U'.heap L ∧ FrameEnd U o U' L ({ frames := 0, cells := 0, slots := 0, locals := 0 } : Room).cells ({ frames := 0, cells := 0, slots := 0, locals := 0 } : Room).slots) := by
  refine MetFree.of_bodySF (plainFor_of_name pn_java_lang_StringUTF16) hisR ?_
  intro p e s m args below meth c s₁ Bd hml0 hP hK
  obtain ⟨rfl, hZ, hh⟩ := hP
  have hx := Bd.exec
  have hby := Bd.bytes
  have hml : c.maxLocals = 7 := hml0
  have hown : s.vm.findClass "java/lang/StringUTF16" = some m.cls := findClass_of_methodNamed Bd.named
  have hnm := (name_of_methodNamed Bd.named Bd.method).1
  have X0 : Stand p l e ({ frames := 0, cells := 0, slots := 0, locals := 0 } : Room) s m #[(.ref a1), (.int (0 : Int32)), (.ref a3), (.int (0 : Int32)), (.int (1 : Int32))] below meth c s₁ [] 0 0 := Stand.of_body Bd
  have e0 : s₁.heap = h0 := by rw [← hh, Bd.state]; rfl
  have es0 : s.heap = h0 := hh
  have N0 := Fr.nil n0
  show own_Fin p e below (Gcm_1 Z a1 k c0 a3 kb h0 n0 s) (s₁.setTop (entryFrame m #[(.ref a1), (.int (0 : Int32)), (.ref a3), (.int (0 : Int32)), (.int (1 : Int32))] 7))
  rw [ef_cm_1 m a1 (0 : Int32) a3 (0 : Int32) (1 : Int32)]
  have Kz := Keep.refl h0 [a3]
  refine own_go (XS.iconst X0.here hx rfl (hb hby d6_0) (Steps.refl _)) ?_
  show own_Fin _ _ _ _ (s₁.setTop (mkF m 1 #[rv a1, iv (0 : Int32), rv a3, iv (0 : Int32), iv (1 : Int32), .unset, .unset] [(.int (0 : Int32))]))
  refine own_go (XS.istore X0.here hx rfl (hb hby d6_1) rfl rfl (Steps.refl _)) ?_
  show own_Fin _ _ _ _ (s₁.setTop (mkF m 3 #[rv a1, iv (0 : Int32), rv a3, iv (0 : Int32), iv (1 : Int32), iv (0 : Int32), .unset] []))
  refine own_go (XS.iload X0.here hx rfl (hb hby d6_3) rfl (Steps.refl _)) ?_
  show own_Fin _ _ _ _ (s₁.setTop (mkF m 5 #[rv a1, iv (0 : Int32), rv a3, iv (0 : Int32), iv (1 : Int32), iv (0 : Int32), .unset] [(.int (0 : Int32))]))
  refine own_go (XS.iload X0.here hx rfl (hb hby d6_5) rfl (Steps.refl _)) ?_
  show own_Fin _ _ _ _ (s₁.setTop (mkF m 7 #[rv a1, iv (0 : Int32), rv a3, iv (0 : Int32), iv (1 : Int32), iv (0 : Int32), .unset] [(.int (1 : Int32)), (.int (0 : Int32))]))
  refine own_go (XS.icmpNo X0.here hx rfl (hb hby d6_7) rfl (tlt (by decide : (0 : Int32) < (1 : Int32))).2.1 (Steps.refl _)) ?_
  show own_Fin _ _ _ _ (s₁.setTop (mkF m 10 #[rv a1, iv (0 : Int32), rv a3, iv (0 : Int32), iv (1 : Int32), iv (0 : Int32), .unset] []))
  refine own_go (XS.aloadN X0.here hx rfl (hb hby d6_10) rfl rfl (Steps.refl _)) ?_
  show own_Fin _ _ _ _ (s₁.setTop (mkF m 11 #[rv a1, iv (0 : Int32), rv a3, iv (0 : Int32), iv (1 : Int32), iv (0 : Int32), .unset] [(.ref a1)]))
  refine own_go (XS.iloadN X0.here hx rfl (hb hby d6_11) rfl (Steps.refl _)) ?_
  show own_Fin _ _ _ _ (s₁.setTop (mkF m 12 #[rv a1, iv (0 : Int32), rv a3, iv (0 : Int32), iv (1 : Int32), iv (0 : Int32), .unset] [(.int (0 : Int32)), (.ref a1)]))
  obtain ⟨cl1, Ar1, qa1, Sa1, Na1, Ha1, Ga1⟩ := id V_a1
  have hin1 : ¬ ((0 : Int32) < 0 ∨ cl1.slots.size ≤ ((0 : Int32)).toNatClampNeg) := inb_of Sa1 ⟨by decide, by decide⟩
  have hat1 : cl1.slots[((0 : Int32)).toNatClampNeg]? = some (.int c0) := Has.at Ha1 hin1 rfl
  refine own_by (X0.caload hx (j := (0 : Int32)) (v := (.int c0)) (by rw [e0]; exact Ar1.1) (State.isArrayOf_alike hZ.alike Ar1.2.1) Ar1.2.2 hin1 hat1 (g := (mkF m 12 #[rv a1, iv (0 : Int32), rv a3, iv (0 : Int32), iv (1 : Int32), iv (0 : Int32), .unset] [(.int (0 : Int32)), (.ref a1)])) rfl rfl (hb hby d6_12)) ?_
  show own_Fin _ _ _ _ (s₁.setTop (mkF m 13 #[rv a1, iv (0 : Int32), rv a3, iv (0 : Int32), iv (1 : Int32), iv (0 : Int32), .unset] [(.int c0)]))
  refine own_go (XS.istore X0.here hx rfl (hb hby d6_13) rfl rfl (Steps.refl _)) ?_
  show own_Fin _ _ _ _ (s₁.setTop (mkF m 15 #[rv a1, iv (0 : Int32), rv a3, iv (0 : Int32), iv (1 : Int32), iv (0 : Int32), iv c0] []))
  refine own_go (XS.iload X0.here hx rfl (hb hby d6_15) rfl (Steps.refl _)) ?_
  show own_Fin _ _ _ _ (s₁.setTop (mkF m 17 #[rv a1, iv (0 : Int32), rv a3, iv (0 : Int32), iv (1 : Int32), iv (0 : Int32), iv c0] [(.int c0)]))
  refine own_go (XS.sipush X0.here hx rfl (hb hby d6_17) (Steps.refl _)) ?_
  show own_Fin _ _ _ _ (s₁.setTop (mkF m 20 #[rv a1, iv (0 : Int32), rv a3, iv (0 : Int32), iv (1 : Int32), iv (0 : Int32), iv c0] [(.int (255 : Int32)), (.int c0)]))
  refine own_go (XS.icmpYes X0.here hx rfl (pc0 := 20) (pc' := 26) rfl (hb hby d6_20) rfl (flt (show ¬ ((255 : Int32) < c0) from hc0)).2.2.2 (by decide) (by decide) (Steps.refl _)) ?_
  show own_Fin _ _ _ _ (s₁.setTop (mkF m 26 #[rv a1, iv (0 : Int32), rv a3, iv (0 : Int32), iv (1 : Int32), iv (0 : Int32), iv c0] []))
  refine own_go (XS.aloadN X0.here hx rfl (hb hby d6_26) rfl rfl (Steps.refl _)) ?_
  show own_Fin _ _ _ _ (s₁.setTop (mkF m 27 #[rv a1, iv (0 : Int32), rv a3, iv (0 : Int32), iv (1 : Int32), iv (0 : Int32), iv c0] [(.ref a3)]))
  refine own_go (XS.iloadN X0.here hx rfl (hb hby d6_27) rfl (Steps.refl _)) ?_
  show own_Fin _ _ _ _ (s₁.setTop (mkF m 28 #[rv a1, iv (0 : Int32), rv a3, iv (0 : Int32), iv (1 : Int32), iv (0 : Int32), iv c0] [(.int (0 : Int32)), (.ref a3)]))
  refine own_go (XS.iload X0.here hx rfl (hb hby d6_28) rfl (Steps.refl _)) ?_
  show own_Fin _ _ _ _ (s₁.setTop (mkF m 30 #[rv a1, iv (0 : Int32), rv a3, iv (0 : Int32), iv (1 : Int32), iv (0 : Int32), iv c0] [(.int c0), (.int (0 : Int32)), (.ref a3)]))
  refine own_go (XS.i2b X0.here hx rfl (hb hby d6_30) rfl (Steps.refl _)) ?_
  show own_Fin _ _ _ _ (s₁.setTop (mkF m 31 #[rv a1, iv (0 : Int32), rv a3, iv (0 : Int32), iv (1 : Int32), iv (0 : Int32), iv c0] [(.int (c0.toInt8.toInt32)), (.int (0 : Int32)), (.ref a3)]))
  obtain ⟨cl2, Ar2, qa2, Sa2, Na2, Ha2, Ga2⟩ := id V_a3
  have hin2 : ¬ ((0 : Int32) < 0 ∨ cl2.slots.size ≤ ((0 : Int32)).toNatClampNeg) := inb_of Sa2 ⟨by decide, by decide⟩
  obtain ⟨T3, h3, X3, e3, W3, st3⟩ := stB X0 hx hZ e0 Ar2 (j := (0 : Int32)) hin2 (g := (mkF m 31 #[rv a1, iv (0 : Int32), rv a3, iv (0 : Int32), iv (1 : Int32), iv (0 : Int32), iv c0] [(.int (c0.toInt8.toInt32)), (.int (0 : Int32)), (.ref a3)])) rfl rfl (hb hby d6_31)
  refine own_by st3 ?_
  have V_a3_3 : Arv Z h3 a3 kb .byte (1 : Int32) [(.int (nar .byte (c0.toInt8.toInt32)))] (.int (0 : Int32)) := Arv.set Ar2 qa2 Sa2 Na2 Ha2 Ga2 (fits_nar_byte (c0.toInt8.toInt32)) W3 0 rfl (Nat.le_of_ble_eq_true rfl)
  have V_a1_3 := V_a1.other W3 ne13
  have N3 := Fr.snoc X3 N0 g_a3
  have Z3 : n0 ≤ h3.size := Nat.le_trans Z0 (Keep.of_wr W3).1
  have K3 := Kz.wr W3 (Or.inl (List.mem_of_getElem? (i := 0) rfl))
  show own_Fin _ _ _ _ (T3.setTop (mkF m 32 #[rv a1, iv (0 : Int32), rv a3, iv (0 : Int32), iv (1 : Int32), iv (0 : Int32), iv c0] []))
  refine own_go (XS.iinc X3.here hx rfl (hb hby d6_32) rfl rfl (Steps.refl _)) ?_
  show own_Fin _ _ _ _ (T3.setTop (mkF m 35 #[rv a1, iv (1 : Int32), rv a3, iv (0 : Int32), iv (1 : Int32), iv (0 : Int32), iv c0] []))
  refine own_go (XS.iinc X3.here hx rfl (hb hby d6_35) rfl rfl (Steps.refl _)) ?_
  show own_Fin _ _ _ _ (T3.setTop (mkF m 38 #[rv a1, iv (1 : Int32), rv a3, iv (1 : Int32), iv (1 : Int32), iv (0 : Int32), iv c0] []))
  refine own_go (XS.iinc X3.here hx rfl (hb hby d6_38) rfl rfl (Steps.refl _)) ?_
  show own_Fin _ _ _ _ (T3.setTop (mkF m 41 #[rv a1, iv (1 : Int32), rv a3, iv (1 : Int32), iv (1 : Int32), iv (1 : Int32), iv c0] []))
  refine own_go (XS.goto X3.here hx rfl (pc0 := 41) (pc' := 3) rfl (hb hby d6_41) (by decide) (by decide) (Steps.refl _)) ?_
  show own_Fin _ _ _ _ (T3.setTop (mkF m 3 #[rv a1, iv (1 : Int32), rv a3, iv (1 : Int32), iv (1 : Int32), iv (1 : Int32), iv c0] []))
  refine own_go (XS.iload X3.here hx rfl (hb hby d6_3) rfl (Steps.refl _)) ?_
  show own_Fin _ _ _ _ (T3.setTop (mkF m 5 #[rv a1, iv (1 : Int32), rv a3, iv (1 : Int32), iv (1 : Int32), iv (1 : Int32), iv c0] [(.int (1 : Int32))]))
  refine own_go (XS.iload X3.here hx rfl (hb hby d6_5) rfl (Steps.refl _)) ?_
  show own_Fin _ _ _ _ (T3.setTop (mkF m 7 #[rv a1, iv (1 : Int32), rv a3, iv (1 : Int32), iv (1 : Int32), iv (1 : Int32), iv c0] [(.int (1 : Int32)), (.int (1 : Int32))]))
  refine own_go (XS.icmpYes X3.here hx rfl (pc0 := 7) (pc' := 44) rfl (hb hby d6_7) rfl (flt (by decide : ¬ ((1 : Int32) < (1 : Int32)))).2.1 (by decide) (by decide) (Steps.refl _)) ?_
  show own_Fin _ _ _ _ (T3.setTop (mkF m 44 #[rv a1, iv (1 : Int32), rv a3, iv (1 : Int32), iv (1 : Int32), iv (1 : Int32), iv c0] []))
  refine own_go (XS.iload X3.here hx rfl (hb hby d6_44) rfl (Steps.refl _)) ?_
  show own_Fin _ _ _ _ (T3.setTop (mkF m 46 #[rv a1, iv (1 : Int32), rv a3, iv (1 : Int32), iv (1 : Int32), iv (1 : Int32), iv c0] [(.int (1 : Int32))]))
  obtain ⟨fs4, hr4, hrun4, hended4, hW4, hsame4⟩ := X3.leave (v := some (.int (1 : Int32))) (fun h => by rw [Bd.returns] at h; cases h)
  refine own_done (own_retI X3 hx Bd.returns (hb hby d6_46) hr4) hrun4 hended4 ⟨_, _, rfl, ?_, ⟨_, rfl⟩, hW4, hsame4.mono (by decide) (by decide)⟩
  show Qcm_1 Z a1 k c0 a3 kb h0 n0 _ T3.heap _
  rw [e3]
  exact ⟨rfl, N3, K3, V_a3_3⟩
theorem ef_cm_2 (m : MethodId) (x0 : Addr) (x1 : Int32) (x2 : Addr) (x3 : Int32) (x4 : Int32) : entryFrame m #[(.ref x0), (.int x1), (.ref x2), (.int x3), (.int x4)] 7 = mkF m 0 #[.val (.ref x0), .val (.int x1), .val (.ref x2), .val (.int x3), .val (.int x4), .unset, .unset] [] := by first | (simp [entryFrame, mkF, argsToLocals, Value.category]; done) | rfl
def Qcm_2 (Z : State) (a1 : Addr) (k : ClassId) (c0 : Int32) (c1 : Int32) (a3 : Addr) (kb : ClassId) (h0 : Heap) (n0 : Nat) (v : Option Value) (h : Heap) (L : List Loc) : Prop := v = some (.int (2 : Int32)) ∧ Fr n0 L ∧ Keep h0 h [a3] ∧ Arv Z h a3 kb .byte (2 : Int32) [(.int (nar .byte (c0.toInt8.toInt32))), (.int (nar .byte (c1.toInt8.toInt32)))] (.int (0 : Int32))
abbrev Gcm_2 (Z : State) (a1 : Addr) (k : ClassId) (c0 : Int32) (c1 : Int32) (a3 : Addr) (kb : ClassId) (h0 : Heap) (n0 : Nat) (s : State) : Outcome → State → Prop := fun o U' => ∃ v L, o = .returned v ∧ Qcm_2 Z a1 k c0 c1 a3 kb h0 n0 v U'.heap L ∧ FrameEnd s o U' L ({ frames := 0, cells := 0, slots := 0, locals := 0 } : Room).cells ({ frames := 0, cells := 0, slots := 0, locals := 0 } : Room).slots
set_option maxRecDepth 65536 in
set_option maxHeartbeats 40000000 in
theorem rmcm_2 (l : Launch) (Z : State) (a0 : Array Value) (hw : ∀ d ∈ tables_1, d.before a0 Z = true) (ws : List Jvm.Cond) (a1 : Addr) (k : ClassId) (c0 : Int32) (c1 : Int32) (a3 : Addr) (kb : ClassId) (h0 : Heap) (n0 : Nat) (Z0 : n0 ≤ h0.size) (V_a1 : Arv Z h0 a1 k .char (2 : Int32) [(.int c0), (.int c1)] (.int (0 : Int32))) (V_a3 : Arv Z h0 a3 kb .byte (2 : Int32) [(.int (0 : Int32)), (.int (0 : Int32))] (.int (0 : Int32))) (g_a3 : n0 ≤ a3) (ne13 : a1 ≠ a3) (hc0 : ¬ (255 : Int32) < c0) (hc1 : ¬ (255 : Int32) < c1) :
    MetFree l (⟨"java/lang/StringUTF16", "compress", "([CI[BII)I"⟩ : MethodName) (head1 (Jvm.Cond.code (⟨"java/lang/StringUTF16", "compress", "([CI[BII)I"⟩ : MethodName) jdk_52_method_21_code 7 (some .int) :: ws) ({ frames := 0, cells := 0, slots := 0, locals := 0 } : Room)) (fun a U => a = #[(.ref a1), (.int (0 : Int32)), (.ref a3), (.int (0 : Int32)), (.int (2 : Int32))] ∧ Z.Warmed39 U.vm ∧ U.heap = h0) (fun _ _ _ _ _ => True) (fun _ U o U' => ∃ v L, o = .returned v ∧ Qcm_2 Z a1 k c0 c1 a3 kb h0 n0 v U'.heap L ∧ FrameEnd U o U' L ({ frames := 0, cells := 0, slots := 0, locals := 0 } : Room).cells ({ frames := 0, cells := 0, slots := 0, locals := 0 } : Room).slots) := by
  refine MetFree.of_bodySF (plainFor_of_name pn_java_lang_StringUTF16) hisR ?_
  intro p e s m args below meth c s₁ Bd hml0 hP hK
  obtain ⟨rfl, hZ, hh⟩ := hP
  have hx := Bd.exec
  have hby := Bd.bytes
  have hml : c.maxLocals = 7 := hml0
  have hown : s.vm.findClass "java/lang/StringUTF16" = some m.cls := findClass_of_methodNamed Bd.named
  have hnm := (name_of_methodNamed Bd.named Bd.method).1
  have X0 : Stand p l e ({ frames := 0, cells := 0, slots := 0, locals := 0 } : Room) s m #[(.ref a1), (.int (0 : Int32)), (.ref a3), (.int (0 : Int32)), (.int (2 : Int32))] below meth c s₁ [] 0 0 := Stand.of_body Bd
  have e0 : s₁.heap = h0 := by rw [← hh, Bd.state]; rfl
  have es0 : s.heap = h0 := hh
  have N0 := Fr.nil n0
  show own_Fin p e below (Gcm_2 Z a1 k c0 c1 a3 kb h0 n0 s) (s₁.setTop (entryFrame m #[(.ref a1), (.int (0 : Int32)), (.ref a3), (.int (0 : Int32)), (.int (2 : Int32))] 7))
  rw [ef_cm_2 m a1 (0 : Int32) a3 (0 : Int32) (2 : Int32)]
  have Kz := Keep.refl h0 [a3]
  refine own_go (XS.iconst X0.here hx rfl (hb hby d6_0) (Steps.refl _)) ?_
  show own_Fin _ _ _ _ (s₁.setTop (mkF m 1 #[rv a1, iv (0 : Int32), rv a3, iv (0 : Int32), iv (2 : Int32), .unset, .unset] [(.int (0 : Int32))]))
  refine own_go (XS.istore X0.here hx rfl (hb hby d6_1) rfl rfl (Steps.refl _)) ?_
  show own_Fin _ _ _ _ (s₁.setTop (mkF m 3 #[rv a1, iv (0 : Int32), rv a3, iv (0 : Int32), iv (2 : Int32), iv (0 : Int32), .unset] []))
  refine own_go (XS.iload X0.here hx rfl (hb hby d6_3) rfl (Steps.refl _)) ?_
  show own_Fin _ _ _ _ (s₁.setTop (mkF m 5 #[rv a1, iv (0 : Int32), rv a3, iv (0 : Int32), iv (2 : Int32), iv (0 : Int32), .unset] [(.int (0 : Int32))]))
  refine own_go (XS.iload X0.here hx rfl (hb hby d6_5) rfl (Steps.refl _)) ?_
  show own_Fin _ _ _ _ (s₁.setTop (mkF m 7 #[rv a1, iv (0 : Int32), rv a3, iv (0 : Int32), iv (2 : Int32), iv (0 : Int32), .unset] [(.int (2 : Int32)), (.int (0 : Int32))]))
  refine own_go (XS.icmpNo X0.here hx rfl (hb hby d6_7) rfl (tlt (by decide : (0 : Int32) < (2 : Int32))).2.1 (Steps.refl _)) ?_
  show own_Fin _ _ _ _ (s₁.setTop (mkF m 10 #[rv a1, iv (0 : Int32), rv a3, iv (0 : Int32), iv (2 : Int32), iv (0 : Int32), .unset] []))
  refine own_go (XS.aloadN X0.here hx rfl (hb hby d6_10) rfl rfl (Steps.refl _)) ?_
  show own_Fin _ _ _ _ (s₁.setTop (mkF m 11 #[rv a1, iv (0 : Int32), rv a3, iv (0 : Int32), iv (2 : Int32), iv (0 : Int32), .unset] [(.ref a1)]))
  refine own_go (XS.iloadN X0.here hx rfl (hb hby d6_11) rfl (Steps.refl _)) ?_
  show own_Fin _ _ _ _ (s₁.setTop (mkF m 12 #[rv a1, iv (0 : Int32), rv a3, iv (0 : Int32), iv (2 : Int32), iv (0 : Int32), .unset] [(.int (0 : Int32)), (.ref a1)]))
  obtain ⟨cl5, Ar5, qa5, Sa5, Na5, Ha5, Ga5⟩ := id V_a1
  have hin5 : ¬ ((0 : Int32) < 0 ∨ cl5.slots.size ≤ ((0 : Int32)).toNatClampNeg) := inb_of Sa5 ⟨by decide, by decide⟩
  have hat5 : cl5.slots[((0 : Int32)).toNatClampNeg]? = some (.int c0) := Has.at Ha5 hin5 rfl
  refine own_by (X0.caload hx (j := (0 : Int32)) (v := (.int c0)) (by rw [e0]; exact Ar5.1) (State.isArrayOf_alike hZ.alike Ar5.2.1) Ar5.2.2 hin5 hat5 (g := (mkF m 12 #[rv a1, iv (0 : Int32), rv a3, iv (0 : Int32), iv (2 : Int32), iv (0 : Int32), .unset] [(.int (0 : Int32)), (.ref a1)])) rfl rfl (hb hby d6_12)) ?_
  show own_Fin _ _ _ _ (s₁.setTop (mkF m 13 #[rv a1, iv (0 : Int32), rv a3, iv (0 : Int32), iv (2 : Int32), iv (0 : Int32), .unset] [(.int c0)]))
  refine own_go (XS.istore X0.here hx rfl (hb hby d6_13) rfl rfl (Steps.refl _)) ?_
  show own_Fin _ _ _ _ (s₁.setTop (mkF m 15 #[rv a1, iv (0 : Int32), rv a3, iv (0 : Int32), iv (2 : Int32), iv (0 : Int32), iv c0] []))
  refine own_go (XS.iload X0.here hx rfl (hb hby d6_15) rfl (Steps.refl _)) ?_
  show own_Fin _ _ _ _ (s₁.setTop (mkF m 17 #[rv a1, iv (0 : Int32), rv a3, iv (0 : Int32), iv (2 : Int32), iv (0 : Int32), iv c0] [(.int c0)]))
  refine own_go (XS.sipush X0.here hx rfl (hb hby d6_17) (Steps.refl _)) ?_
  show own_Fin _ _ _ _ (s₁.setTop (mkF m 20 #[rv a1, iv (0 : Int32), rv a3, iv (0 : Int32), iv (2 : Int32), iv (0 : Int32), iv c0] [(.int (255 : Int32)), (.int c0)]))
  refine own_go (XS.icmpYes X0.here hx rfl (pc0 := 20) (pc' := 26) rfl (hb hby d6_20) rfl (flt (show ¬ ((255 : Int32) < c0) from hc0)).2.2.2 (by decide) (by decide) (Steps.refl _)) ?_
  show own_Fin _ _ _ _ (s₁.setTop (mkF m 26 #[rv a1, iv (0 : Int32), rv a3, iv (0 : Int32), iv (2 : Int32), iv (0 : Int32), iv c0] []))
  refine own_go (XS.aloadN X0.here hx rfl (hb hby d6_26) rfl rfl (Steps.refl _)) ?_
  show own_Fin _ _ _ _ (s₁.setTop (mkF m 27 #[rv a1, iv (0 : Int32), rv a3, iv (0 : Int32), iv (2 : Int32), iv (0 : Int32), iv c0] [(.ref a3)]))
  refine own_go (XS.iloadN X0.here hx rfl (hb hby d6_27) rfl (Steps.refl _)) ?_
  show own_Fin _ _ _ _ (s₁.setTop (mkF m 28 #[rv a1, iv (0 : Int32), rv a3, iv (0 : Int32), iv (2 : Int32), iv (0 : Int32), iv c0] [(.int (0 : Int32)), (.ref a3)]))
  refine own_go (XS.iload X0.here hx rfl (hb hby d6_28) rfl (Steps.refl _)) ?_
  show own_Fin _ _ _ _ (s₁.setTop (mkF m 30 #[rv a1, iv (0 : Int32), rv a3, iv (0 : Int32), iv (2 : Int32), iv (0 : Int32), iv c0] [(.int c0), (.int (0 : Int32)), (.ref a3)]))
  refine own_go (XS.i2b X0.here hx rfl (hb hby d6_30) rfl (Steps.refl _)) ?_
  show own_Fin _ _ _ _ (s₁.setTop (mkF m 31 #[rv a1, iv (0 : Int32), rv a3, iv (0 : Int32), iv (2 : Int32), iv (0 : Int32), iv c0] [(.int (c0.toInt8.toInt32)), (.int (0 : Int32)), (.ref a3)]))
  obtain ⟨cl6, Ar6, qa6, Sa6, Na6, Ha6, Ga6⟩ := id V_a3
  have hin6 : ¬ ((0 : Int32) < 0 ∨ cl6.slots.size ≤ ((0 : Int32)).toNatClampNeg) := inb_of Sa6 ⟨by decide, by decide⟩
  obtain ⟨T7, h7, X7, e7, W7, st7⟩ := stB X0 hx hZ e0 Ar6 (j := (0 : Int32)) hin6 (g := (mkF m 31 #[rv a1, iv (0 : Int32), rv a3, iv (0 : Int32), iv (2 : Int32), iv (0 : Int32), iv c0] [(.int (c0.toInt8.toInt32)), (.int (0 : Int32)), (.ref a3)])) rfl rfl (hb hby d6_31)
  refine own_by st7 ?_
  have V_a3_7 : Arv Z h7 a3 kb .byte (2 : Int32) [(.int (nar .byte (c0.toInt8.toInt32))), (.int (0 : Int32))] (.int (0 : Int32)) := Arv.set Ar6 qa6 Sa6 Na6 Ha6 Ga6 (fits_nar_byte (c0.toInt8.toInt32)) W7 0 rfl (Nat.le_of_ble_eq_true rfl)
  have V_a1_7 := V_a1.other W7 ne13
  have N7 := Fr.snoc X7 N0 g_a3
  have Z7 : n0 ≤ h7.size := Nat.le_trans Z0 (Keep.of_wr W7).1
  have K7 := Kz.wr W7 (Or.inl (List.mem_of_getElem? (i := 0) rfl))
  show own_Fin _ _ _ _ (T7.setTop (mkF m 32 #[rv a1, iv (0 : Int32), rv a3, iv (0 : Int32), iv (2 : Int32), iv (0 : Int32), iv c0] []))
  refine own_go (XS.iinc X7.here hx rfl (hb hby d6_32) rfl rfl (Steps.refl _)) ?_
  show own_Fin _ _ _ _ (T7.setTop (mkF m 35 #[rv a1, iv (1 : Int32), rv a3, iv (0 : Int32), iv (2 : Int32), iv (0 : Int32), iv c0] []))
  refine own_go (XS.iinc X7.here hx rfl (hb hby d6_35) rfl rfl (Steps.refl _)) ?_
  show own_Fin _ _ _ _ (T7.setTop (mkF m 38 #[rv a1, iv (1 : Int32), rv a3, iv (1 : Int32), iv (2 : Int32), iv (0 : Int32), iv c0] []))
  refine own_go (XS.iinc X7.here hx rfl (hb hby d6_38) rfl rfl (Steps.refl _)) ?_
  show own_Fin _ _ _ _ (T7.setTop (mkF m 41 #[rv a1, iv (1 : Int32), rv a3, iv (1 : Int32), iv (2 : Int32), iv (1 : Int32), iv c0] []))
  refine own_go (XS.goto X7.here hx rfl (pc0 := 41) (pc' := 3) rfl (hb hby d6_41) (by decide) (by decide) (Steps.refl _)) ?_
  show own_Fin _ _ _ _ (T7.setTop (mkF m 3 #[rv a1, iv (1 : Int32), rv a3, iv (1 : Int32), iv (2 : Int32), iv (1 : Int32), iv c0] []))
  refine own_go (XS.iload X7.here hx rfl (hb hby d6_3) rfl (Steps.refl _)) ?_
  show own_Fin _ _ _ _ (T7.setTop (mkF m 5 #[rv a1, iv (1 : Int32), rv a3, iv (1 : Int32), iv (2 : Int32), iv (1 : Int32), iv c0] [(.int (1 : Int32))]))
  refine own_go (XS.iload X7.here hx rfl (hb hby d6_5) rfl (Steps.refl _)) ?_
  show own_Fin _ _ _ _ (T7.setTop (mkF m 7 #[rv a1, iv (1 : Int32), rv a3, iv (1 : Int32), iv (2 : Int32), iv (1 : Int32), iv c0] [(.int (2 : Int32)), (.int (1 : Int32))]))
  refine own_go (XS.icmpNo X7.here hx rfl (hb hby d6_7) rfl (tlt (by decide : (1 : Int32) < (2 : Int32))).2.1 (Steps.refl _)) ?_
  show own_Fin _ _ _ _ (T7.setTop (mkF m 10 #[rv a1, iv (1 : Int32), rv a3, iv (1 : Int32), iv (2 : Int32), iv (1 : Int32), iv c0] []))
  refine own_go (XS.aloadN X7.here hx rfl (hb hby d6_10) rfl rfl (Steps.refl _)) ?_
  show own_Fin _ _ _ _ (T7.setTop (mkF m 11 #[rv a1, iv (1 : Int32), rv a3, iv (1 : Int32), iv (2 : Int32), iv (1 : Int32), iv c0] [(.ref a1)]))
  refine own_go (XS.iloadN X7.here hx rfl (hb hby d6_11) rfl (Steps.refl _)) ?_
  show own_Fin _ _ _ _ (T7.setTop (mkF m 12 #[rv a1, iv (1 : Int32), rv a3, iv (1 : Int32), iv (2 : Int32), iv (1 : Int32), iv c0] [(.int (1 : Int32)), (.ref a1)]))
  obtain ⟨cl8, Ar8, qa8, Sa8, Na8, Ha8, Ga8⟩ := id V_a1_7
  have hin8 : ¬ ((1 : Int32) < 0 ∨ cl8.slots.size ≤ ((1 : Int32)).toNatClampNeg) := inb_of Sa8 ⟨by decide, by decide⟩
  have hat8 : cl8.slots[((1 : Int32)).toNatClampNeg]? = some (.int c1) := Has.at Ha8 hin8 rfl
  refine own_by (X7.caload hx (j := (1 : Int32)) (v := (.int c1)) (by rw [e7]; exact Ar8.1) (State.isArrayOf_alike hZ.alike Ar8.2.1) Ar8.2.2 hin8 hat8 (g := (mkF m 12 #[rv a1, iv (1 : Int32), rv a3, iv (1 : Int32), iv (2 : Int32), iv (1 : Int32), iv c0] [(.int (1 : Int32)), (.ref a1)])) rfl rfl (hb hby d6_12)) ?_
  show own_Fin _ _ _ _ (T7.setTop (mkF m 13 #[rv a1, iv (1 : Int32), rv a3, iv (1 : Int32), iv (2 : Int32), iv (1 : Int32), iv c0] [(.int c1)]))
  refine own_go (XS.istore X7.here hx rfl (hb hby d6_13) rfl rfl (Steps.refl _)) ?_
  show own_Fin _ _ _ _ (T7.setTop (mkF m 15 #[rv a1, iv (1 : Int32), rv a3, iv (1 : Int32), iv (2 : Int32), iv (1 : Int32), iv c1] []))
  refine own_go (XS.iload X7.here hx rfl (hb hby d6_15) rfl (Steps.refl _)) ?_
  show own_Fin _ _ _ _ (T7.setTop (mkF m 17 #[rv a1, iv (1 : Int32), rv a3, iv (1 : Int32), iv (2 : Int32), iv (1 : Int32), iv c1] [(.int c1)]))
  refine own_go (XS.sipush X7.here hx rfl (hb hby d6_17) (Steps.refl _)) ?_
  show own_Fin _ _ _ _ (T7.setTop (mkF m 20 #[rv a1, iv (1 : Int32), rv a3, iv (1 : Int32), iv (2 : Int32), iv (1 : Int32), iv c1] [(.int (255 : Int32)), (.int c1)]))
  refine own_go (XS.icmpYes X7.here hx rfl (pc0 := 20) (pc' := 26) rfl (hb hby d6_20) rfl (flt (show ¬ ((255 : Int32) < c1) from hc1)).2.2.2 (by decide) (by decide) (Steps.refl _)) ?_
  show own_Fin _ _ _ _ (T7.setTop (mkF m 26 #[rv a1, iv (1 : Int32), rv a3, iv (1 : Int32), iv (2 : Int32), iv (1 : Int32), iv c1] []))
  refine own_go (XS.aloadN X7.here hx rfl (hb hby d6_26) rfl rfl (Steps.refl _)) ?_
  show own_Fin _ _ _ _ (T7.setTop (mkF m 27 #[rv a1, iv (1 : Int32), rv a3, iv (1 : Int32), iv (2 : Int32), iv (1 : Int32), iv c1] [(.ref a3)]))
  refine own_go (XS.iloadN X7.here hx rfl (hb hby d6_27) rfl (Steps.refl _)) ?_
  show own_Fin _ _ _ _ (T7.setTop (mkF m 28 #[rv a1, iv (1 : Int32), rv a3, iv (1 : Int32), iv (2 : Int32), iv (1 : Int32), iv c1] [(.int (1 : Int32)), (.ref a3)]))
  refine own_go (XS.iload X7.here hx rfl (hb hby d6_28) rfl (Steps.refl _)) ?_
  show own_Fin _ _ _ _ (T7.setTop (mkF m 30 #[rv a1, iv (1 : Int32), rv a3, iv (1 : Int32), iv (2 : Int32), iv (1 : Int32), iv c1] [(.int c1), (.int (1 : Int32)), (.ref a3)]))
  refine own_go (XS.i2b X7.here hx rfl (hb hby d6_30) rfl (Steps.refl _)) ?_
  show own_Fin _ _ _ _ (T7.setTop (mkF m 31 #[rv a1, iv (1 : Int32), rv a3, iv (1 : Int32), iv (2 : Int32), iv (1 : Int32), iv c1] [(.int (c1.toInt8.toInt32)), (.int (1 : Int32)), (.ref a3)]))
  obtain ⟨cl9, Ar9, qa9, Sa9, Na9, Ha9, Ga9⟩ := id V_a3_7
  have hin9 : ¬ ((1 : Int32) < 0 ∨ cl9.slots.size ≤ ((1 : Int32)).toNatClampNeg) := inb_of Sa9 ⟨by decide, by decide⟩
  obtain ⟨T10, h10, X10, e10, W10, st10⟩ := stB X7 hx hZ e7 Ar9 (j := (1 : Int32)) hin9 (g := (mkF m 31 #[rv a1, iv (1 : Int32), rv a3, iv (1 : Int32), iv (2 : Int32), iv (1 : Int32), iv c1] [(.int (c1.toInt8.toInt32)), (.int (1 : Int32)), (.ref a3)])) rfl rfl (hb hby d6_31)
  refine own_by st10 ?_
  have V_a3_10 : Arv Z h10 a3 kb .byte (2 : Int32) [(.int (nar .byte (c0.toInt8.toInt32))), (.int (nar .byte (c1.toInt8.toInt32)))] (.int (0 : Int32)) := Arv.set Ar9 qa9 Sa9 Na9 Ha9 Ga9 (fits_nar_byte (c1.toInt8.toInt32)) W10 1 rfl (Nat.le_of_ble_eq_true rfl)
  have V_a1_10 := V_a1_7.other W10 ne13
  have N10 := Fr.snoc X10 N7 g_a3
  have Z10 : n0 ≤ h10.size := Nat.le_trans Z7 (Keep.of_wr W10).1
  have K10 := K7.wr W10 (Or.inl (List.mem_of_getElem? (i := 0) rfl))
  show own_Fin _ _ _ _ (T10.setTop (mkF m 32 #[rv a1, iv (1 : Int32), rv a3, iv (1 : Int32), iv (2 : Int32), iv (1 : Int32), iv c1] []))
  refine own_go (XS.iinc X10.here hx rfl (hb hby d6_32) rfl rfl (Steps.refl _)) ?_
  show own_Fin _ _ _ _ (T10.setTop (mkF m 35 #[rv a1, iv (2 : Int32), rv a3, iv (1 : Int32), iv (2 : Int32), iv (1 : Int32), iv c1] []))
  refine own_go (XS.iinc X10.here hx rfl (hb hby d6_35) rfl rfl (Steps.refl _)) ?_
  show own_Fin _ _ _ _ (T10.setTop (mkF m 38 #[rv a1, iv (2 : Int32), rv a3, iv (2 : Int32), iv (2 : Int32), iv (1 : Int32), iv c1] []))
  refine own_go (XS.iinc X10.here hx rfl (hb hby d6_38) rfl rfl (Steps.refl _)) ?_
  show own_Fin _ _ _ _ (T10.setTop (mkF m 41 #[rv a1, iv (2 : Int32), rv a3, iv (2 : Int32), iv (2 : Int32), iv (2 : Int32), iv c1] []))
  refine own_go (XS.goto X10.here hx rfl (pc0 := 41) (pc' := 3) rfl (hb hby d6_41) (by decide) (by decide) (Steps.refl _)) ?_
  show own_Fin _ _ _ _ (T10.setTop (mkF m 3 #[rv a1, iv (2 : Int32), rv a3, iv (2 : Int32), iv (2 : Int32), iv (2 : Int32), iv c1] []))
  refine own_go (XS.iload X10.here hx rfl (hb hby d6_3) rfl (Steps.refl _)) ?_
  show own_Fin _ _ _ _ (T10.setTop (mkF m 5 #[rv a1, iv (2 : Int32), rv a3, iv (2 : Int32), iv (2 : Int32), iv (2 : Int32), iv c1] [(.int (2 : Int32))]))
  refine own_go (XS.iload X10.here hx rfl (hb hby d6_5) rfl (Steps.refl _)) ?_
  show own_Fin _ _ _ _ (T10.setTop (mkF m 7 #[rv a1, iv (2 : Int32), rv a3, iv (2 : Int32), iv (2 : Int32), iv (2 : Int32), iv c1] [(.int (2 : Int32)), (.int (2 : Int32))]))
  refine own_go (XS.icmpYes X10.here hx rfl (pc0 := 7) (pc' := 44) rfl (hb hby d6_7) rfl (flt (by decide : ¬ ((2 : Int32) < (2 : Int32)))).2.1 (by decide) (by decide) (Steps.refl _)) ?_
  show own_Fin _ _ _ _ (T10.setTop (mkF m 44 #[rv a1, iv (2 : Int32), rv a3, iv (2 : Int32), iv (2 : Int32), iv (2 : Int32), iv c1] []))
  refine own_go (XS.iload X10.here hx rfl (hb hby d6_44) rfl (Steps.refl _)) ?_
  show own_Fin _ _ _ _ (T10.setTop (mkF m 46 #[rv a1, iv (2 : Int32), rv a3, iv (2 : Int32), iv (2 : Int32), iv (2 : Int32), iv c1] [(.int (2 : Int32))]))
  obtain ⟨fs11, hr11, hrun11, hended11, hW11, hsame11⟩ := X10.leave (v := some (.int (2 : Int32))) (fun h => by rw [Bd.returns] at h; cases h)
  refine own_done (own_retI X10 hx Bd.returns (hb hby d6_46) hr11) hrun11 hended11 ⟨_, _, rfl, ?_, ⟨_, rfl⟩, hW11, hsame11.mono (by decide) (by decide)⟩
  show Qcm_2 Z a1 k c0 c1 a3 kb h0 n0 _ T10.heap _
  rw [e10]
  exact ⟨rfl, N10, K10, V_a3_10⟩
theorem ef_cm_3 (m : MethodId) (x0 : Addr) (x1 : Int32) (x2 : Addr) (x3 : Int32) (x4 : Int32) : entryFrame m #[(.ref x0), (.int x1), (.ref x2), (.int x3), (.int x4)] 7 = mkF m 0 #[.val (.ref x0), .val (.int x1), .val (.ref x2), .val (.int x3), .val (.int x4), .unset, .unset] [] := by first | (simp [entryFrame, mkF, argsToLocals, Value.category]; done) | rfl
def Qcm_3 (Z : State) (a1 : Addr) (k : ClassId) (c0 : Int32) (c1 : Int32) (c2 : Int32) (a3 : Addr) (kb : ClassId) (h0 : Heap) (n0 : Nat) (v : Option Value) (h : Heap) (L : List Loc) : Prop := v = some (.int (3 : Int32)) ∧ Fr n0 L ∧ Keep h0 h [a3] ∧ Arv Z h a3 kb .byte (3 : Int32) [(.int (nar .byte (c0.toInt8.toInt32))), (.int (nar .byte (c1.toInt8.toInt32))), (.int (nar .byte (c2.toInt8.toInt32)))] (.int (0 : Int32))
abbrev Gcm_3 (Z : State) (a1 : Addr) (k : ClassId) (c0 : Int32) (c1 : Int32) (c2 : Int32) (a3 : Addr) (kb : ClassId) (h0 : Heap) (n0 : Nat) (s : State) : Outcome → State → Prop := fun o U' => ∃ v L, o = .returned v ∧ Qcm_3 Z a1 k c0 c1 c2 a3 kb h0 n0 v U'.heap L ∧ FrameEnd s o U' L ({ frames := 0, cells := 0, slots := 0, locals := 0 } : Room).cells ({ frames := 0, cells := 0, slots := 0, locals := 0 } : Room).slots
set_option maxRecDepth 65536 in
set_option maxHeartbeats 40000000 in
theorem rmcm_3 (l : Launch) (Z : State) (a0 : Array Value) (hw : ∀ d ∈ tables_1, d.before a0 Z = true) (ws : List Jvm.Cond) (a1 : Addr) (k : ClassId) (c0 : Int32) (c1 : Int32) (c2 : Int32) (a3 : Addr) (kb : ClassId) (h0 : Heap) (n0 : Nat) (Z0 : n0 ≤ h0.size) (V_a1 : Arv Z h0 a1 k .char (3 : Int32) [(.int c0), (.int c1), (.int c2)] (.int (0 : Int32))) (V_a3 : Arv Z h0 a3 kb .byte (3 : Int32) [(.int (0 : Int32)), (.int (0 : Int32)), (.int (0 : Int32))] (.int (0 : Int32))) (g_a3 : n0 ≤ a3) (ne13 : a1 ≠ a3) (hc0 : ¬ (255 : Int32) < c0) (hc1 : ¬ (255 : Int32) < c1) (hc2 : ¬ (255 : Int32) < c2) :
    MetFree l (⟨"java/lang/StringUTF16", "compress", "([CI[BII)I"⟩ : MethodName) (head1 (Jvm.Cond.code (⟨"java/lang/StringUTF16", "compress", "([CI[BII)I"⟩ : MethodName) jdk_52_method_21_code 7 (some .int) :: ws) ({ frames := 0, cells := 0, slots := 0, locals := 0 } : Room)) (fun a U => a = #[(.ref a1), (.int (0 : Int32)), (.ref a3), (.int (0 : Int32)), (.int (3 : Int32))] ∧ Z.Warmed39 U.vm ∧ U.heap = h0) (fun _ _ _ _ _ => True) (fun _ U o U' => ∃ v L, o = .returned v ∧ Qcm_3 Z a1 k c0 c1 c2 a3 kb h0 n0 v U'.heap L ∧ FrameEnd U o U' L ({ frames := 0, cells := 0, slots := 0, locals := 0 } : Room).cells ({ frames := 0, cells := 0, slots := 0, locals := 0 } : Room).slots) := by
  refine MetFree.of_bodySF (plainFor_of_name pn_java_lang_StringUTF16) hisR ?_
  intro p e s m args below meth c s₁ Bd hml0 hP hK
  obtain ⟨rfl, hZ, hh⟩ := hP
  have hx := Bd.exec
  have hby := Bd.bytes
  have hml : c.maxLocals = 7 := hml0
  have hown : s.vm.findClass "java/lang/StringUTF16" = some m.cls := findClass_of_methodNamed Bd.named
  have hnm := (name_of_methodNamed Bd.named Bd.method).1
  have X0 : Stand p l e ({ frames := 0, cells := 0, slots := 0, locals := 0 } : Room) s m #[(.ref a1), (.int (0 : Int32)), (.ref a3), (.int (0 : Int32)), (.int (3 : Int32))] below meth c s₁ [] 0 0 := Stand.of_body Bd
  have e0 : s₁.heap = h0 := by rw [← hh, Bd.state]; rfl
  have es0 : s.heap = h0 := hh
  have N0 := Fr.nil n0
  show own_Fin p e below (Gcm_3 Z a1 k c0 c1 c2 a3 kb h0 n0 s) (s₁.setTop (entryFrame m #[(.ref a1), (.int (0 : Int32)), (.ref a3), (.int (0 : Int32)), (.int (3 : Int32))] 7))
  rw [ef_cm_3 m a1 (0 : Int32) a3 (0 : Int32) (3 : Int32)]
  have Kz := Keep.refl h0 [a3]
  refine own_go (XS.iconst X0.here hx rfl (hb hby d6_0) (Steps.refl _)) ?_
  show own_Fin _ _ _ _ (s₁.setTop (mkF m 1 #[rv a1, iv (0 : Int32), rv a3, iv (0 : Int32), iv (3 : Int32), .unset, .unset] [(.int (0 : Int32))]))
  refine own_go (XS.istore X0.here hx rfl (hb hby d6_1) rfl rfl (Steps.refl _)) ?_
  show own_Fin _ _ _ _ (s₁.setTop (mkF m 3 #[rv a1, iv (0 : Int32), rv a3, iv (0 : Int32), iv (3 : Int32), iv (0 : Int32), .unset] []))
  refine own_go (XS.iload X0.here hx rfl (hb hby d6_3) rfl (Steps.refl _)) ?_
  show own_Fin _ _ _ _ (s₁.setTop (mkF m 5 #[rv a1, iv (0 : Int32), rv a3, iv (0 : Int32), iv (3 : Int32), iv (0 : Int32), .unset] [(.int (0 : Int32))]))
  refine own_go (XS.iload X0.here hx rfl (hb hby d6_5) rfl (Steps.refl _)) ?_
  show own_Fin _ _ _ _ (s₁.setTop (mkF m 7 #[rv a1, iv (0 : Int32), rv a3, iv (0 : Int32), iv (3 : Int32), iv (0 : Int32), .unset] [(.int (3 : Int32)), (.int (0 : Int32))]))
  refine own_go (XS.icmpNo X0.here hx rfl (hb hby d6_7) rfl (tlt (by decide : (0 : Int32) < (3 : Int32))).2.1 (Steps.refl _)) ?_
  show own_Fin _ _ _ _ (s₁.setTop (mkF m 10 #[rv a1, iv (0 : Int32), rv a3, iv (0 : Int32), iv (3 : Int32), iv (0 : Int32), .unset] []))
  refine own_go (XS.aloadN X0.here hx rfl (hb hby d6_10) rfl rfl (Steps.refl _)) ?_
  show own_Fin _ _ _ _ (s₁.setTop (mkF m 11 #[rv a1, iv (0 : Int32), rv a3, iv (0 : Int32), iv (3 : Int32), iv (0 : Int32), .unset] [(.ref a1)]))
  refine own_go (XS.iloadN X0.here hx rfl (hb hby d6_11) rfl (Steps.refl _)) ?_
  show own_Fin _ _ _ _ (s₁.setTop (mkF m 12 #[rv a1, iv (0 : Int32), rv a3, iv (0 : Int32), iv (3 : Int32), iv (0 : Int32), .unset] [(.int (0 : Int32)), (.ref a1)]))
  obtain ⟨cl12, Ar12, qa12, Sa12, Na12, Ha12, Ga12⟩ := id V_a1
  have hin12 : ¬ ((0 : Int32) < 0 ∨ cl12.slots.size ≤ ((0 : Int32)).toNatClampNeg) := inb_of Sa12 ⟨by decide, by decide⟩
  have hat12 : cl12.slots[((0 : Int32)).toNatClampNeg]? = some (.int c0) := Has.at Ha12 hin12 rfl
  refine own_by (X0.caload hx (j := (0 : Int32)) (v := (.int c0)) (by rw [e0]; exact Ar12.1) (State.isArrayOf_alike hZ.alike Ar12.2.1) Ar12.2.2 hin12 hat12 (g := (mkF m 12 #[rv a1, iv (0 : Int32), rv a3, iv (0 : Int32), iv (3 : Int32), iv (0 : Int32), .unset] [(.int (0 : Int32)), (.ref a1)])) rfl rfl (hb hby d6_12)) ?_
  show own_Fin _ _ _ _ (s₁.setTop (mkF m 13 #[rv a1, iv (0 : Int32), rv a3, iv (0 : Int32), iv (3 : Int32), iv (0 : Int32), .unset] [(.int c0)]))
  refine own_go (XS.istore X0.here hx rfl (hb hby d6_13) rfl rfl (Steps.refl _)) ?_
  show own_Fin _ _ _ _ (s₁.setTop (mkF m 15 #[rv a1, iv (0 : Int32), rv a3, iv (0 : Int32), iv (3 : Int32), iv (0 : Int32), iv c0] []))
  refine own_go (XS.iload X0.here hx rfl (hb hby d6_15) rfl (Steps.refl _)) ?_
  show own_Fin _ _ _ _ (s₁.setTop (mkF m 17 #[rv a1, iv (0 : Int32), rv a3, iv (0 : Int32), iv (3 : Int32), iv (0 : Int32), iv c0] [(.int c0)]))
  refine own_go (XS.sipush X0.here hx rfl (hb hby d6_17) (Steps.refl _)) ?_
  show own_Fin _ _ _ _ (s₁.setTop (mkF m 20 #[rv a1, iv (0 : Int32), rv a3, iv (0 : Int32), iv (3 : Int32), iv (0 : Int32), iv c0] [(.int (255 : Int32)), (.int c0)]))
  refine own_go (XS.icmpYes X0.here hx rfl (pc0 := 20) (pc' := 26) rfl (hb hby d6_20) rfl (flt (show ¬ ((255 : Int32) < c0) from hc0)).2.2.2 (by decide) (by decide) (Steps.refl _)) ?_
  show own_Fin _ _ _ _ (s₁.setTop (mkF m 26 #[rv a1, iv (0 : Int32), rv a3, iv (0 : Int32), iv (3 : Int32), iv (0 : Int32), iv c0] []))
  refine own_go (XS.aloadN X0.here hx rfl (hb hby d6_26) rfl rfl (Steps.refl _)) ?_
  show own_Fin _ _ _ _ (s₁.setTop (mkF m 27 #[rv a1, iv (0 : Int32), rv a3, iv (0 : Int32), iv (3 : Int32), iv (0 : Int32), iv c0] [(.ref a3)]))
  refine own_go (XS.iloadN X0.here hx rfl (hb hby d6_27) rfl (Steps.refl _)) ?_
  show own_Fin _ _ _ _ (s₁.setTop (mkF m 28 #[rv a1, iv (0 : Int32), rv a3, iv (0 : Int32), iv (3 : Int32), iv (0 : Int32), iv c0] [(.int (0 : Int32)), (.ref a3)]))
  refine own_go (XS.iload X0.here hx rfl (hb hby d6_28) rfl (Steps.refl _)) ?_
  show own_Fin _ _ _ _ (s₁.setTop (mkF m 30 #[rv a1, iv (0 : Int32), rv a3, iv (0 : Int32), iv (3 : Int32), iv (0 : Int32), iv c0] [(.int c0), (.int (0 : Int32)), (.ref a3)]))
  refine own_go (XS.i2b X0.here hx rfl (hb hby d6_30) rfl (Steps.refl _)) ?_
  show own_Fin _ _ _ _ (s₁.setTop (mkF m 31 #[rv a1, iv (0 : Int32), rv a3, iv (0 : Int32), iv (3 : Int32), iv (0 : Int32), iv c0] [(.int (c0.toInt8.toInt32)), (.int (0 : Int32)), (.ref a3)]))
  obtain ⟨cl13, Ar13, qa13, Sa13, Na13, Ha13, Ga13⟩ := id V_a3
  have hin13 : ¬ ((0 : Int32) < 0 ∨ cl13.slots.size ≤ ((0 : Int32)).toNatClampNeg) := inb_of Sa13 ⟨by decide, by decide⟩
  obtain ⟨T14, h14, X14, e14, W14, st14⟩ := stB X0 hx hZ e0 Ar13 (j := (0 : Int32)) hin13 (g := (mkF m 31 #[rv a1, iv (0 : Int32), rv a3, iv (0 : Int32), iv (3 : Int32), iv (0 : Int32), iv c0] [(.int (c0.toInt8.toInt32)), (.int (0 : Int32)), (.ref a3)])) rfl rfl (hb hby d6_31)
  refine own_by st14 ?_
  have V_a3_14 : Arv Z h14 a3 kb .byte (3 : Int32) [(.int (nar .byte (c0.toInt8.toInt32))), (.int (0 : Int32)), (.int (0 : Int32))] (.int (0 : Int32)) := Arv.set Ar13 qa13 Sa13 Na13 Ha13 Ga13 (fits_nar_byte (c0.toInt8.toInt32)) W14 0 rfl (Nat.le_of_ble_eq_true rfl)
  have V_a1_14 := V_a1.other W14 ne13
  have N14 := Fr.snoc X14 N0 g_a3
  have Z14 : n0 ≤ h14.size := Nat.le_trans Z0 (Keep.of_wr W14).1
  have K14 := Kz.wr W14 (Or.inl (List.mem_of_getElem? (i := 0) rfl))
  show own_Fin _ _ _ _ (T14.setTop (mkF m 32 #[rv a1, iv (0 : Int32), rv a3, iv (0 : Int32), iv (3 : Int32), iv (0 : Int32), iv c0] []))
  refine own_go (XS.iinc X14.here hx rfl (hb hby d6_32) rfl rfl (Steps.refl _)) ?_
  show own_Fin _ _ _ _ (T14.setTop (mkF m 35 #[rv a1, iv (1 : Int32), rv a3, iv (0 : Int32), iv (3 : Int32), iv (0 : Int32), iv c0] []))
  refine own_go (XS.iinc X14.here hx rfl (hb hby d6_35) rfl rfl (Steps.refl _)) ?_
  show own_Fin _ _ _ _ (T14.setTop (mkF m 38 #[rv a1, iv (1 : Int32), rv a3, iv (1 : Int32), iv (3 : Int32), iv (0 : Int32), iv c0] []))
  refine own_go (XS.iinc X14.here hx rfl (hb hby d6_38) rfl rfl (Steps.refl _)) ?_
  show own_Fin _ _ _ _ (T14.setTop (mkF m 41 #[rv a1, iv (1 : Int32), rv a3, iv (1 : Int32), iv (3 : Int32), iv (1 : Int32), iv c0] []))
  refine own_go (XS.goto X14.here hx rfl (pc0 := 41) (pc' := 3) rfl (hb hby d6_41) (by decide) (by decide) (Steps.refl _)) ?_
  show own_Fin _ _ _ _ (T14.setTop (mkF m 3 #[rv a1, iv (1 : Int32), rv a3, iv (1 : Int32), iv (3 : Int32), iv (1 : Int32), iv c0] []))
  refine own_go (XS.iload X14.here hx rfl (hb hby d6_3) rfl (Steps.refl _)) ?_
  show own_Fin _ _ _ _ (T14.setTop (mkF m 5 #[rv a1, iv (1 : Int32), rv a3, iv (1 : Int32), iv (3 : Int32), iv (1 : Int32), iv c0] [(.int (1 : Int32))]))
  refine own_go (XS.iload X14.here hx rfl (hb hby d6_5) rfl (Steps.refl _)) ?_
  show own_Fin _ _ _ _ (T14.setTop (mkF m 7 #[rv a1, iv (1 : Int32), rv a3, iv (1 : Int32), iv (3 : Int32), iv (1 : Int32), iv c0] [(.int (3 : Int32)), (.int (1 : Int32))]))
  refine own_go (XS.icmpNo X14.here hx rfl (hb hby d6_7) rfl (tlt (by decide : (1 : Int32) < (3 : Int32))).2.1 (Steps.refl _)) ?_
  show own_Fin _ _ _ _ (T14.setTop (mkF m 10 #[rv a1, iv (1 : Int32), rv a3, iv (1 : Int32), iv (3 : Int32), iv (1 : Int32), iv c0] []))
  refine own_go (XS.aloadN X14.here hx rfl (hb hby d6_10) rfl rfl (Steps.refl _)) ?_
  show own_Fin _ _ _ _ (T14.setTop (mkF m 11 #[rv a1, iv (1 : Int32), rv a3, iv (1 : Int32), iv (3 : Int32), iv (1 : Int32), iv c0] [(.ref a1)]))
  refine own_go (XS.iloadN X14.here hx rfl (hb hby d6_11) rfl (Steps.refl _)) ?_
  show own_Fin _ _ _ _ (T14.setTop (mkF m 12 #[rv a1, iv (1 : Int32), rv a3, iv (1 : Int32), iv (3 : Int32), iv (1 : Int32), iv c0] [(.int (1 : Int32)), (.ref a1)]))
  obtain ⟨cl15, Ar15, qa15, Sa15, Na15, Ha15, Ga15⟩ := id V_a1_14
  have hin15 : ¬ ((1 : Int32) < 0 ∨ cl15.slots.size ≤ ((1 : Int32)).toNatClampNeg) := inb_of Sa15 ⟨by decide, by decide⟩
  have hat15 : cl15.slots[((1 : Int32)).toNatClampNeg]? = some (.int c1) := Has.at Ha15 hin15 rfl
  refine own_by (X14.caload hx (j := (1 : Int32)) (v := (.int c1)) (by rw [e14]; exact Ar15.1) (State.isArrayOf_alike hZ.alike Ar15.2.1) Ar15.2.2 hin15 hat15 (g := (mkF m 12 #[rv a1, iv (1 : Int32), rv a3, iv (1 : Int32), iv (3 : Int32), iv (1 : Int32), iv c0] [(.int (1 : Int32)), (.ref a1)])) rfl rfl (hb hby d6_12)) ?_
  show own_Fin _ _ _ _ (T14.setTop (mkF m 13 #[rv a1, iv (1 : Int32), rv a3, iv (1 : Int32), iv (3 : Int32), iv (1 : Int32), iv c0] [(.int c1)]))
  refine own_go (XS.istore X14.here hx rfl (hb hby d6_13) rfl rfl (Steps.refl _)) ?_
  show own_Fin _ _ _ _ (T14.setTop (mkF m 15 #[rv a1, iv (1 : Int32), rv a3, iv (1 : Int32), iv (3 : Int32), iv (1 : Int32), iv c1] []))
  refine own_go (XS.iload X14.here hx rfl (hb hby d6_15) rfl (Steps.refl _)) ?_
  show own_Fin _ _ _ _ (T14.setTop (mkF m 17 #[rv a1, iv (1 : Int32), rv a3, iv (1 : Int32), iv (3 : Int32), iv (1 : Int32), iv c1] [(.int c1)]))
  refine own_go (XS.sipush X14.here hx rfl (hb hby d6_17) (Steps.refl _)) ?_
  show own_Fin _ _ _ _ (T14.setTop (mkF m 20 #[rv a1, iv (1 : Int32), rv a3, iv (1 : Int32), iv (3 : Int32), iv (1 : Int32), iv c1] [(.int (255 : Int32)), (.int c1)]))
  refine own_go (XS.icmpYes X14.here hx rfl (pc0 := 20) (pc' := 26) rfl (hb hby d6_20) rfl (flt (show ¬ ((255 : Int32) < c1) from hc1)).2.2.2 (by decide) (by decide) (Steps.refl _)) ?_
  show own_Fin _ _ _ _ (T14.setTop (mkF m 26 #[rv a1, iv (1 : Int32), rv a3, iv (1 : Int32), iv (3 : Int32), iv (1 : Int32), iv c1] []))
  refine own_go (XS.aloadN X14.here hx rfl (hb hby d6_26) rfl rfl (Steps.refl _)) ?_
  show own_Fin _ _ _ _ (T14.setTop (mkF m 27 #[rv a1, iv (1 : Int32), rv a3, iv (1 : Int32), iv (3 : Int32), iv (1 : Int32), iv c1] [(.ref a3)]))
  refine own_go (XS.iloadN X14.here hx rfl (hb hby d6_27) rfl (Steps.refl _)) ?_
  show own_Fin _ _ _ _ (T14.setTop (mkF m 28 #[rv a1, iv (1 : Int32), rv a3, iv (1 : Int32), iv (3 : Int32), iv (1 : Int32), iv c1] [(.int (1 : Int32)), (.ref a3)]))
  refine own_go (XS.iload X14.here hx rfl (hb hby d6_28) rfl (Steps.refl _)) ?_
  show own_Fin _ _ _ _ (T14.setTop (mkF m 30 #[rv a1, iv (1 : Int32), rv a3, iv (1 : Int32), iv (3 : Int32), iv (1 : Int32), iv c1] [(.int c1), (.int (1 : Int32)), (.ref a3)]))
  refine own_go (XS.i2b X14.here hx rfl (hb hby d6_30) rfl (Steps.refl _)) ?_
  show own_Fin _ _ _ _ (T14.setTop (mkF m 31 #[rv a1, iv (1 : Int32), rv a3, iv (1 : Int32), iv (3 : Int32), iv (1 : Int32), iv c1] [(.int (c1.toInt8.toInt32)), (.int (1 : Int32)), (.ref a3)]))
  obtain ⟨cl16, Ar16, qa16, Sa16, Na16, Ha16, Ga16⟩ := id V_a3_14
  have hin16 : ¬ ((1 : Int32) < 0 ∨ cl16.slots.size ≤ ((1 : Int32)).toNatClampNeg) := inb_of Sa16 ⟨by decide, by decide⟩
  obtain ⟨T17, h17, X17, e17, W17, st17⟩ := stB X14 hx hZ e14 Ar16 (j := (1 : Int32)) hin16 (g := (mkF m 31 #[rv a1, iv (1 : Int32), rv a3, iv (1 : Int32), iv (3 : Int32), iv (1 : Int32), iv c1] [(.int (c1.toInt8.toInt32)), (.int (1 : Int32)), (.ref a3)])) rfl rfl (hb hby d6_31)
  refine own_by st17 ?_
  have V_a3_17 : Arv Z h17 a3 kb .byte (3 : Int32) [(.int (nar .byte (c0.toInt8.toInt32))), (.int (nar .byte (c1.toInt8.toInt32))), (.int (0 : Int32))] (.int (0 : Int32)) := Arv.set Ar16 qa16 Sa16 Na16 Ha16 Ga16 (fits_nar_byte (c1.toInt8.toInt32)) W17 1 rfl (Nat.le_of_ble_eq_true rfl)
  have V_a1_17 := V_a1_14.other W17 ne13
  have N17 := Fr.snoc X17 N14 g_a3
  have Z17 : n0 ≤ h17.size := Nat.le_trans Z14 (Keep.of_wr W17).1
  have K17 := K14.wr W17 (Or.inl (List.mem_of_getElem? (i := 0) rfl))
  show own_Fin _ _ _ _ (T17.setTop (mkF m 32 #[rv a1, iv (1 : Int32), rv a3, iv (1 : Int32), iv (3 : Int32), iv (1 : Int32), iv c1] []))
  refine own_go (XS.iinc X17.here hx rfl (hb hby d6_32) rfl rfl (Steps.refl _)) ?_
  show own_Fin _ _ _ _ (T17.setTop (mkF m 35 #[rv a1, iv (2 : Int32), rv a3, iv (1 : Int32), iv (3 : Int32), iv (1 : Int32), iv c1] []))
  refine own_go (XS.iinc X17.here hx rfl (hb hby d6_35) rfl rfl (Steps.refl _)) ?_
  show own_Fin _ _ _ _ (T17.setTop (mkF m 38 #[rv a1, iv (2 : Int32), rv a3, iv (2 : Int32), iv (3 : Int32), iv (1 : Int32), iv c1] []))
  refine own_go (XS.iinc X17.here hx rfl (hb hby d6_38) rfl rfl (Steps.refl _)) ?_
  show own_Fin _ _ _ _ (T17.setTop (mkF m 41 #[rv a1, iv (2 : Int32), rv a3, iv (2 : Int32), iv (3 : Int32), iv (2 : Int32), iv c1] []))
  refine own_go (XS.goto X17.here hx rfl (pc0 := 41) (pc' := 3) rfl (hb hby d6_41) (by decide) (by decide) (Steps.refl _)) ?_
  show own_Fin _ _ _ _ (T17.setTop (mkF m 3 #[rv a1, iv (2 : Int32), rv a3, iv (2 : Int32), iv (3 : Int32), iv (2 : Int32), iv c1] []))
  refine own_go (XS.iload X17.here hx rfl (hb hby d6_3) rfl (Steps.refl _)) ?_
  show own_Fin _ _ _ _ (T17.setTop (mkF m 5 #[rv a1, iv (2 : Int32), rv a3, iv (2 : Int32), iv (3 : Int32), iv (2 : Int32), iv c1] [(.int (2 : Int32))]))
  refine own_go (XS.iload X17.here hx rfl (hb hby d6_5) rfl (Steps.refl _)) ?_
  show own_Fin _ _ _ _ (T17.setTop (mkF m 7 #[rv a1, iv (2 : Int32), rv a3, iv (2 : Int32), iv (3 : Int32), iv (2 : Int32), iv c1] [(.int (3 : Int32)), (.int (2 : Int32))]))
  refine own_go (XS.icmpNo X17.here hx rfl (hb hby d6_7) rfl (tlt (by decide : (2 : Int32) < (3 : Int32))).2.1 (Steps.refl _)) ?_
  show own_Fin _ _ _ _ (T17.setTop (mkF m 10 #[rv a1, iv (2 : Int32), rv a3, iv (2 : Int32), iv (3 : Int32), iv (2 : Int32), iv c1] []))
  refine own_go (XS.aloadN X17.here hx rfl (hb hby d6_10) rfl rfl (Steps.refl _)) ?_
  show own_Fin _ _ _ _ (T17.setTop (mkF m 11 #[rv a1, iv (2 : Int32), rv a3, iv (2 : Int32), iv (3 : Int32), iv (2 : Int32), iv c1] [(.ref a1)]))
  refine own_go (XS.iloadN X17.here hx rfl (hb hby d6_11) rfl (Steps.refl _)) ?_
  show own_Fin _ _ _ _ (T17.setTop (mkF m 12 #[rv a1, iv (2 : Int32), rv a3, iv (2 : Int32), iv (3 : Int32), iv (2 : Int32), iv c1] [(.int (2 : Int32)), (.ref a1)]))
  obtain ⟨cl18, Ar18, qa18, Sa18, Na18, Ha18, Ga18⟩ := id V_a1_17
  have hin18 : ¬ ((2 : Int32) < 0 ∨ cl18.slots.size ≤ ((2 : Int32)).toNatClampNeg) := inb_of Sa18 ⟨by decide, by decide⟩
  have hat18 : cl18.slots[((2 : Int32)).toNatClampNeg]? = some (.int c2) := Has.at Ha18 hin18 rfl
  refine own_by (X17.caload hx (j := (2 : Int32)) (v := (.int c2)) (by rw [e17]; exact Ar18.1) (State.isArrayOf_alike hZ.alike Ar18.2.1) Ar18.2.2 hin18 hat18 (g := (mkF m 12 #[rv a1, iv (2 : Int32), rv a3, iv (2 : Int32), iv (3 : Int32), iv (2 : Int32), iv c1] [(.int (2 : Int32)), (.ref a1)])) rfl rfl (hb hby d6_12)) ?_
  show own_Fin _ _ _ _ (T17.setTop (mkF m 13 #[rv a1, iv (2 : Int32), rv a3, iv (2 : Int32), iv (3 : Int32), iv (2 : Int32), iv c1] [(.int c2)]))
  refine own_go (XS.istore X17.here hx rfl (hb hby d6_13) rfl rfl (Steps.refl _)) ?_
  show own_Fin _ _ _ _ (T17.setTop (mkF m 15 #[rv a1, iv (2 : Int32), rv a3, iv (2 : Int32), iv (3 : Int32), iv (2 : Int32), iv c2] []))
  refine own_go (XS.iload X17.here hx rfl (hb hby d6_15) rfl (Steps.refl _)) ?_
  show own_Fin _ _ _ _ (T17.setTop (mkF m 17 #[rv a1, iv (2 : Int32), rv a3, iv (2 : Int32), iv (3 : Int32), iv (2 : Int32), iv c2] [(.int c2)]))
  refine own_go (XS.sipush X17.here hx rfl (hb hby d6_17) (Steps.refl _)) ?_
  show own_Fin _ _ _ _ (T17.setTop (mkF m 20 #[rv a1, iv (2 : Int32), rv a3, iv (2 : Int32), iv (3 : Int32), iv (2 : Int32), iv c2] [(.int (255 : Int32)), (.int c2)]))
  refine own_go (XS.icmpYes X17.here hx rfl (pc0 := 20) (pc' := 26) rfl (hb hby d6_20) rfl (flt (show ¬ ((255 : Int32) < c2) from hc2)).2.2.2 (by decide) (by decide) (Steps.refl _)) ?_
  show own_Fin _ _ _ _ (T17.setTop (mkF m 26 #[rv a1, iv (2 : Int32), rv a3, iv (2 : Int32), iv (3 : Int32), iv (2 : Int32), iv c2] []))
  refine own_go (XS.aloadN X17.here hx rfl (hb hby d6_26) rfl rfl (Steps.refl _)) ?_
  show own_Fin _ _ _ _ (T17.setTop (mkF m 27 #[rv a1, iv (2 : Int32), rv a3, iv (2 : Int32), iv (3 : Int32), iv (2 : Int32), iv c2] [(.ref a3)]))
  refine own_go (XS.iloadN X17.here hx rfl (hb hby d6_27) rfl (Steps.refl _)) ?_
  show own_Fin _ _ _ _ (T17.setTop (mkF m 28 #[rv a1, iv (2 : Int32), rv a3, iv (2 : Int32), iv (3 : Int32), iv (2 : Int32), iv c2] [(.int (2 : Int32)), (.ref a3)]))
  refine own_go (XS.iload X17.here hx rfl (hb hby d6_28) rfl (Steps.refl _)) ?_
  show own_Fin _ _ _ _ (T17.setTop (mkF m 30 #[rv a1, iv (2 : Int32), rv a3, iv (2 : Int32), iv (3 : Int32), iv (2 : Int32), iv c2] [(.int c2), (.int (2 : Int32)), (.ref a3)]))
  refine own_go (XS.i2b X17.here hx rfl (hb hby d6_30) rfl (Steps.refl _)) ?_
  show own_Fin _ _ _ _ (T17.setTop (mkF m 31 #[rv a1, iv (2 : Int32), rv a3, iv (2 : Int32), iv (3 : Int32), iv (2 : Int32), iv c2] [(.int (c2.toInt8.toInt32)), (.int (2 : Int32)), (.ref a3)]))
  obtain ⟨cl19, Ar19, qa19, Sa19, Na19, Ha19, Ga19⟩ := id V_a3_17
  have hin19 : ¬ ((2 : Int32) < 0 ∨ cl19.slots.size ≤ ((2 : Int32)).toNatClampNeg) := inb_of Sa19 ⟨by decide, by decide⟩
  obtain ⟨T20, h20, X20, e20, W20, st20⟩ := stB X17 hx hZ e17 Ar19 (j := (2 : Int32)) hin19 (g := (mkF m 31 #[rv a1, iv (2 : Int32), rv a3, iv (2 : Int32), iv (3 : Int32), iv (2 : Int32), iv c2] [(.int (c2.toInt8.toInt32)), (.int (2 : Int32)), (.ref a3)])) rfl rfl (hb hby d6_31)
  refine own_by st20 ?_
  have V_a3_20 : Arv Z h20 a3 kb .byte (3 : Int32) [(.int (nar .byte (c0.toInt8.toInt32))), (.int (nar .byte (c1.toInt8.toInt32))), (.int (nar .byte (c2.toInt8.toInt32)))] (.int (0 : Int32)) := Arv.set Ar19 qa19 Sa19 Na19 Ha19 Ga19 (fits_nar_byte (c2.toInt8.toInt32)) W20 2 rfl (Nat.le_of_ble_eq_true rfl)
  have V_a1_20 := V_a1_17.other W20 ne13
  have N20 := Fr.snoc X20 N17 g_a3
  have Z20 : n0 ≤ h20.size := Nat.le_trans Z17 (Keep.of_wr W20).1
  have K20 := K17.wr W20 (Or.inl (List.mem_of_getElem? (i := 0) rfl))
  show own_Fin _ _ _ _ (T20.setTop (mkF m 32 #[rv a1, iv (2 : Int32), rv a3, iv (2 : Int32), iv (3 : Int32), iv (2 : Int32), iv c2] []))
  refine own_go (XS.iinc X20.here hx rfl (hb hby d6_32) rfl rfl (Steps.refl _)) ?_
  show own_Fin _ _ _ _ (T20.setTop (mkF m 35 #[rv a1, iv (3 : Int32), rv a3, iv (2 : Int32), iv (3 : Int32), iv (2 : Int32), iv c2] []))
  refine own_go (XS.iinc X20.here hx rfl (hb hby d6_35) rfl rfl (Steps.refl _)) ?_
  show own_Fin _ _ _ _ (T20.setTop (mkF m 38 #[rv a1, iv (3 : Int32), rv a3, iv (3 : Int32), iv (3 : Int32), iv (2 : Int32), iv c2] []))
  refine own_go (XS.iinc X20.here hx rfl (hb hby d6_38) rfl rfl (Steps.refl _)) ?_
  show own_Fin _ _ _ _ (T20.setTop (mkF m 41 #[rv a1, iv (3 : Int32), rv a3, iv (3 : Int32), iv (3 : Int32), iv (3 : Int32), iv c2] []))
  refine own_go (XS.goto X20.here hx rfl (pc0 := 41) (pc' := 3) rfl (hb hby d6_41) (by decide) (by decide) (Steps.refl _)) ?_
  show own_Fin _ _ _ _ (T20.setTop (mkF m 3 #[rv a1, iv (3 : Int32), rv a3, iv (3 : Int32), iv (3 : Int32), iv (3 : Int32), iv c2] []))
  refine own_go (XS.iload X20.here hx rfl (hb hby d6_3) rfl (Steps.refl _)) ?_
  show own_Fin _ _ _ _ (T20.setTop (mkF m 5 #[rv a1, iv (3 : Int32), rv a3, iv (3 : Int32), iv (3 : Int32), iv (3 : Int32), iv c2] [(.int (3 : Int32))]))
  refine own_go (XS.iload X20.here hx rfl (hb hby d6_5) rfl (Steps.refl _)) ?_
  show own_Fin _ _ _ _ (T20.setTop (mkF m 7 #[rv a1, iv (3 : Int32), rv a3, iv (3 : Int32), iv (3 : Int32), iv (3 : Int32), iv c2] [(.int (3 : Int32)), (.int (3 : Int32))]))
  refine own_go (XS.icmpYes X20.here hx rfl (pc0 := 7) (pc' := 44) rfl (hb hby d6_7) rfl (flt (by decide : ¬ ((3 : Int32) < (3 : Int32)))).2.1 (by decide) (by decide) (Steps.refl _)) ?_
  show own_Fin _ _ _ _ (T20.setTop (mkF m 44 #[rv a1, iv (3 : Int32), rv a3, iv (3 : Int32), iv (3 : Int32), iv (3 : Int32), iv c2] []))
  refine own_go (XS.iload X20.here hx rfl (hb hby d6_44) rfl (Steps.refl _)) ?_
  show own_Fin _ _ _ _ (T20.setTop (mkF m 46 #[rv a1, iv (3 : Int32), rv a3, iv (3 : Int32), iv (3 : Int32), iv (3 : Int32), iv c2] [(.int (3 : Int32))]))
  obtain ⟨fs21, hr21, hrun21, hended21, hW21, hsame21⟩ := X20.leave (v := some (.int (3 : Int32))) (fun h => by rw [Bd.returns] at h; cases h)
  refine own_done (own_retI X20 hx Bd.returns (hb hby d6_46) hr21) hrun21 hended21 ⟨_, _, rfl, ?_, ⟨_, rfl⟩, hW21, hsame21.mono (by decide) (by decide)⟩
  show Qcm_3 Z a1 k c0 c1 c2 a3 kb h0 n0 _ T20.heap _
  rw [e20]
  exact ⟨rfl, N20, K20, V_a3_20⟩
def own_lb (c : Int32) : Int32 := nar .byte ((c >>> ((0 : Int32) &&& 31)).toInt8.toInt32)
def own_hb (c : Int32) : Int32 := nar .byte ((c >>> ((8 : Int32) &&& 31)).toInt8.toInt32)
def own_ch (c : Int32) : Prop := ∃ k : Fin 512, c = Int32.ofNat k.val
theorem own_gc {c : Int32} (h : own_ch c) : nar .char (((((own_lb c) &&& (255 : Int32)) <<< ((0 : Int32) &&& 31)) ||| (((own_hb c) &&& (255 : Int32)) <<< ((8 : Int32) &&& 31))).toUInt32.toUInt16.toUInt32.toInt32) = c := by
  obtain ⟨k, rfl⟩ := h
  exact (show ∀ k : Fin 512, nar .char (((((own_lb (Int32.ofNat k.val)) &&& (255 : Int32)) <<< ((0 : Int32) &&& 31)) ||| (((own_hb (Int32.ofNat k.val)) &&& (255 : Int32)) <<< ((8 : Int32) &&& 31))).toUInt32.toUInt16.toUInt32.toInt32) = Int32.ofNat k.val by decide +kernel) k
theorem d20_0 : decode jdk_52_method_3_code 0 = .ok (.iload_n 0, 1) := by decide +kernel
theorem d20_1 : decode jdk_52_method_3_code 1 = .ok (.ifCond .ge 11, 3) := by decide +kernel
theorem d20_4 : decode jdk_52_method_3_code 4 = .ok (.new 17, 3) := by decide +kernel
theorem d20_7 : decode jdk_52_method_3_code 7 = .ok (.dup, 1) := by decide +kernel
theorem d20_8 : decode jdk_52_method_3_code 8 = .ok (.invokespecial 19, 3) := by decide +kernel
theorem d20_11 : decode jdk_52_method_3_code 11 = .ok (.athrow, 1) := by decide +kernel
theorem d20_12 : decode jdk_52_method_3_code 12 = .ok (.iload_n 0, 1) := by decide +kernel
theorem d20_13 : decode jdk_52_method_3_code 13 = .ok (.ldc 20, 2) := by decide +kernel
theorem d20_15 : decode jdk_52_method_3_code 15 = .ok (.if_icmp .lt 40, 3) := by decide +kernel
theorem d20_18 : decode jdk_52_method_3_code 18 = .ok (.new 21, 3) := by decide +kernel
theorem d20_21 : decode jdk_52_method_3_code 21 = .ok (.dup, 1) := by decide +kernel
theorem d20_22 : decode jdk_52_method_3_code 22 = .ok (.new 23, 3) := by decide +kernel
theorem d20_25 : decode jdk_52_method_3_code 25 = .ok (.dup, 1) := by decide +kernel
theorem d20_26 : decode jdk_52_method_3_code 26 = .ok (.invokespecial 25, 3) := by decide +kernel
theorem d20_29 : decode jdk_52_method_3_code 29 = .ok (.ldc 26, 2) := by decide +kernel
theorem d20_31 : decode jdk_52_method_3_code 31 = .ok (.invokevirtual 28, 3) := by decide +kernel
theorem d20_34 : decode jdk_52_method_3_code 34 = .ok (.iload_n 0, 1) := by decide +kernel
theorem d20_35 : decode jdk_52_method_3_code 35 = .ok (.invokevirtual 32, 3) := by decide +kernel
theorem d20_38 : decode jdk_52_method_3_code 38 = .ok (.ldc 35, 2) := by decide +kernel
theorem d20_40 : decode jdk_52_method_3_code 40 = .ok (.invokevirtual 28, 3) := by decide +kernel
theorem d20_43 : decode jdk_52_method_3_code 43 = .ok (.ldc 20, 2) := by decide +kernel
theorem d20_45 : decode jdk_52_method_3_code 45 = .ok (.invokevirtual 32, 3) := by decide +kernel
theorem d20_48 : decode jdk_52_method_3_code 48 = .ok (.invokevirtual 37, 3) := by decide +kernel
theorem d20_51 : decode jdk_52_method_3_code 51 = .ok (.invokespecial 41, 3) := by decide +kernel
theorem d20_54 : decode jdk_52_method_3_code 54 = .ok (.athrow, 1) := by decide +kernel
theorem d20_55 : decode jdk_52_method_3_code 55 = .ok (.iload_n 0, 1) := by decide +kernel
theorem d20_56 : decode jdk_52_method_3_code 56 = .ok (.iconst 1, 1) := by decide +kernel
theorem d20_57 : decode jdk_52_method_3_code 57 = .ok (.ishl, 1) := by decide +kernel
theorem d20_58 : decode jdk_52_method_3_code 58 = .ok (.ireturn, 1) := by decide +kernel
theorem ef_nl_1 (m : MethodId) (x0 : Int32) : entryFrame m #[(.int x0)] 1 = mkF m 0 #[.val (.int x0)] [] := by first | (simp [entryFrame, mkF, argsToLocals, Value.category]; done) | rfl
def Qnl_1 (Z : State)  (h0 : Heap) (n0 : Nat) (v : Option Value) (h : Heap) (L : List Loc) : Prop := v = some (.int (2 : Int32)) ∧ Fr n0 L ∧ h = h0
abbrev Gnl_1 (Z : State)  (h0 : Heap) (n0 : Nat) (s : State) : Outcome → State → Prop := fun o U' => ∃ v L, o = .returned v ∧ Qnl_1 Z  h0 n0 v U'.heap L ∧ FrameEnd s o U' L ({ frames := 0, cells := 0, slots := 0, locals := 0 } : Room).cells ({ frames := 0, cells := 0, slots := 0, locals := 0 } : Room).slots
set_option maxRecDepth 65536 in
set_option maxHeartbeats 40000000 in
theorem rmnl_1 (l : Launch) (Z : State) (a0 : Array Value) (hw : ∀ d ∈ tables_1, d.before a0 Z = true) (ws : List Jvm.Cond)  (h0 : Heap) (n0 : Nat) (Z0 : n0 ≤ h0.size)  :
    MetFree l (⟨"java/lang/StringUTF16", "newBytesLength", "(I)I"⟩ : MethodName) (head1 (Jvm.Cond.code (⟨"java/lang/StringUTF16", "newBytesLength", "(I)I"⟩ : MethodName) jdk_52_method_3_code 1 (some .int) :: ws) ({ frames := 0, cells := 0, slots := 0, locals := 0 } : Room)) (fun a U => a = #[(.int (1 : Int32))] ∧ Z.Warmed39 U.vm ∧ U.heap = h0) (fun _ _ _ _ _ => True) (fun _ U o U' => ∃ v L, o = .returned v ∧ Qnl_1 Z  h0 n0 v U'.heap L ∧ FrameEnd U o U' L ({ frames := 0, cells := 0, slots := 0, locals := 0 } : Room).cells ({ frames := 0, cells := 0, slots := 0, locals := 0 } : Room).slots) := by
  refine MetFree.of_bodySF (plainFor_of_name pn_java_lang_StringUTF16) hisR ?_
  intro p e s m args below meth c s₁ Bd hml0 hP hK
  obtain ⟨rfl, hZ, hh⟩ := hP
  have hx := Bd.exec
  have hby := Bd.bytes
  have hml : c.maxLocals = 1 := hml0
  have hown : s.vm.findClass "java/lang/StringUTF16" = some m.cls := findClass_of_methodNamed Bd.named
  have hnm := (name_of_methodNamed Bd.named Bd.method).1
  have X0 : Stand p l e ({ frames := 0, cells := 0, slots := 0, locals := 0 } : Room) s m #[(.int (1 : Int32))] below meth c s₁ [] 0 0 := Stand.of_body Bd
  have e0 : s₁.heap = h0 := by rw [← hh, Bd.state]; rfl
  have es0 : s.heap = h0 := hh
  have N0 := Fr.nil n0
  show own_Fin p e below (Gnl_1 Z  h0 n0 s) (s₁.setTop (entryFrame m #[(.int (1 : Int32))] 1))
  rw [ef_nl_1 m (1 : Int32)]
  refine own_go (XS.iloadN X0.here hx rfl (hb hby d20_0) rfl (Steps.refl _)) ?_
  show own_Fin _ _ _ _ (s₁.setTop (mkF m 1 #[iv (1 : Int32)] [(.int (1 : Int32))]))
  refine own_go (XS.ifYes X0.here hx rfl (pc0 := 1) (pc' := 12) rfl (hb hby d20_1) rfl ((if0 _ _).trans (flt (by decide : ¬ ((1 : Int32) < (0 : Int32)))).2.1) (by decide) (by decide) (Steps.refl _)) ?_
  show own_Fin _ _ _ _ (s₁.setTop (mkF m 12 #[iv (1 : Int32)] []))
  refine own_go (XS.iloadN X0.here hx rfl (hb hby d20_12) rfl (Steps.refl _)) ?_
  show own_Fin _ _ _ _ (s₁.setTop (mkF m 13 #[iv (1 : Int32)] [(.int (1 : Int32))]))
  refine own_by (X0.ldcInt hx hown (mvT hZ (hw _ (List.mem_of_getElem? (i := 88) rfl))) (g := (mkF m 13 #[iv (1 : Int32)] [(.int (1 : Int32))])) rfl (hb hby d20_13)) ?_
  show own_Fin _ _ _ _ (s₁.setTop (mkF m 15 #[iv (1 : Int32)] [(.int (1073741823 : Int32)), (.int (1 : Int32))]))
  refine own_go (XS.icmpYes X0.here hx rfl (pc0 := 15) (pc' := 55) rfl (hb hby d20_15) rfl (tlt (by decide : (1 : Int32) < (1073741823 : Int32))).1 (by decide) (by decide) (Steps.refl _)) ?_
  show own_Fin _ _ _ _ (s₁.setTop (mkF m 55 #[iv (1 : Int32)] []))
  refine own_go (XS.iloadN X0.here hx rfl (hb hby d20_55) rfl (Steps.refl _)) ?_
  show own_Fin _ _ _ _ (s₁.setTop (mkF m 56 #[iv (1 : Int32)] [(.int (1 : Int32))]))
  refine own_go (XS.iconst X0.here hx rfl (hb hby d20_56) (Steps.refl _)) ?_
  show own_Fin _ _ _ _ (s₁.setTop (mkF m 57 #[iv (1 : Int32)] [(.int (1 : Int32)), (.int (1 : Int32))]))
  refine own_go (XS.ishl X0.here hx rfl (hb hby d20_57) rfl (Steps.refl _)) ?_
  show own_Fin _ _ _ _ (s₁.setTop (mkF m 58 #[iv (1 : Int32)] [(.int (2 : Int32))]))
  obtain ⟨fs22, hr22, hrun22, hended22, hW22, hsame22⟩ := X0.leave (v := some (.int (2 : Int32))) (fun h => by rw [Bd.returns] at h; cases h)
  refine own_done (own_retI X0 hx Bd.returns (hb hby d20_58) hr22) hrun22 hended22 ⟨_, _, rfl, ?_, ⟨_, rfl⟩, hW22, hsame22.mono (by decide) (by decide)⟩
  show Qnl_1 Z  h0 n0 _ s₁.heap _
  rw [e0]
  exact ⟨rfl, N0, rfl⟩
theorem d19_0 : decode jdk_52_method_2_code 0 = .ok (.iload_n 0, 1) := by decide +kernel
theorem d19_1 : decode jdk_52_method_2_code 1 = .ok (.invokestatic 11, 3) := by decide +kernel
theorem d19_4 : decode jdk_52_method_2_code 4 = .ok (.newarray .byte, 2) := by decide +kernel
theorem d19_6 : decode jdk_52_method_2_code 6 = .ok (.areturn, 1) := by decide +kernel
theorem ef_nf_1 (m : MethodId) (x0 : Int32) : entryFrame m #[(.int x0)] 1 = mkF m 0 #[.val (.int x0)] [] := by first | (simp [entryFrame, mkF, argsToLocals, Value.category]; done) | rfl
def Qnf_1 (Z : State)  (h0 : Heap) (n0 : Nat) (v : Option Value) (h : Heap) (L : List Loc) : Prop := ∃ (b : Addr) (kb : ClassId), v = some (.ref b) ∧ Fr n0 L ∧ Keep h0 h [] ∧ n0 ≤ b ∧ h0.size ≤ b ∧ Arv Z h b kb .byte (2 : Int32) [(.int (0 : Int32)), (.int (0 : Int32))] (.int (0 : Int32))
abbrev Gnf_1 (Z : State)  (h0 : Heap) (n0 : Nat) (s : State) : Outcome → State → Prop := fun o U' => ∃ v L, o = .returned v ∧ Qnf_1 Z  h0 n0 v U'.heap L ∧ FrameEnd s o U' L ({ frames := 1, cells := 1, slots := 2, locals := 16 } : Room).cells ({ frames := 1, cells := 1, slots := 2, locals := 16 } : Room).slots
theorem pd__28_I_29_I : parseMethodDescriptor "(I)I" = some ⟨[.int], some .int⟩ := by decide +kernel
set_option maxRecDepth 65536 in
set_option maxHeartbeats 40000000 in
theorem rmnf_1 (l : Launch) (Z : State) (a0 : Array Value) (hw : ∀ d ∈ tables_1, d.before a0 Z = true) (ws : List Jvm.Cond)  (h0 : Heap) (n0 : Nat) (Z0 : n0 ≤ h0.size)  :
    MetFree l (⟨"java/lang/StringUTF16", "newBytesFor", "(I)[B"⟩ : MethodName) (head1 (Jvm.Cond.code (⟨"java/lang/StringUTF16", "newBytesFor", "(I)[B"⟩ : MethodName) jdk_52_method_2_code 1 (some (.array .byte)) :: ws) ({ frames := 1, cells := 1, slots := 2, locals := 16 } : Room)) (fun a U => a = #[(.int (1 : Int32))] ∧ Z.Warmed39 U.vm ∧ U.heap = h0) (fun _ _ _ _ _ => True) (fun _ U o U' => ∃ v L, o = .returned v ∧ Qnf_1 Z  h0 n0 v U'.heap L ∧ FrameEnd U o U' L ({ frames := 1, cells := 1, slots := 2, locals := 16 } : Room).cells ({ frames := 1, cells := 1, slots := 2, locals := 16 } : Room).slots) := by
  refine MetFree.of_bodySF (plainFor_of_name pn_java_lang_StringUTF16) hisR ?_
  intro p e s m args below meth c s₁ Bd hml0 hP hK
  obtain ⟨rfl, hZ, hh⟩ := hP
  have hx := Bd.exec
  have hby := Bd.bytes
  have hml : c.maxLocals = 1 := hml0
  have hown : s.vm.findClass "java/lang/StringUTF16" = some m.cls := findClass_of_methodNamed Bd.named
  have hnm := (name_of_methodNamed Bd.named Bd.method).1
  have X0 : Stand p l e ({ frames := 1, cells := 1, slots := 2, locals := 16 } : Room) s m #[(.int (1 : Int32))] below meth c s₁ [] 0 0 := Stand.of_body Bd
  have e0 : s₁.heap = h0 := by rw [← hh, Bd.state]; rfl
  have es0 : s.heap = h0 := hh
  have N0 := Fr.nil n0
  show own_Fin p e below (Gnf_1 Z  h0 n0 s) (s₁.setTop (entryFrame m #[(.int (1 : Int32))] 1))
  rw [ef_nf_1 m (1 : Int32)]
  have Kz := Keep.refl h0 []
  refine own_go (XS.iloadN X0.here hx rfl (hb hby d19_0) rfl (Steps.refl _)) ?_
  show own_Fin _ _ _ _ (s₁.setTop (mkF m 1 #[iv (1 : Int32)] [(.int (1 : Int32))]))
  obtain ⟨_, _, ⟨T23, L23, k23, n23⟩, -, X23, ⟨Lc23, hQ23, l23, y23, z23⟩, st23⟩ := Jvm.LawKit.callS X0 hx (y := (⟨"java/lang/StringUTF16", "newBytesLength", "(I)I"⟩ : MethodName)) hown (mvT hZ (hw _ (List.mem_of_getElem? (i := 85) rfl))) (mvT hZ (hw _ (List.mem_of_getElem? (i := 86) rfl))) (mvT hZ (hw _ (List.mem_of_getElem? (i := 21) rfl))) (mvT hZ (hw _ (List.mem_of_getElem? (i := 87) rfl))) (by decide) (backOf (W := 0) (rmnl_1 l Z a0 hw []  h0 n0 Z0) hZ (hw _ (List.mem_of_getElem? (i := 87) rfl)) (hw _ (List.mem_of_getElem? (i := 21) rfl)) (by decide) (by decide)) (g := (mkF m 1 #[iv (1 : Int32)] [(.int (1 : Int32))])) rfl (by rw [hml]; rfl) (argsL := [(.int (1 : Int32))]) (rest := []) (lenOf pd__28_I_29_I rfl) rfl (by show 2 * 0 + _ ≤ _; exact Nat.le_of_eq rfl) (hb hby d19_1) (fun _ hv => ⟨rfl, e0, (by decide : 0 + 0 ≤ _), (by decide : 0 + 0 ≤ _)⟩)
  dsimp only [Pt.U, Pt.locs, Pt.cells, Pt.slots] at X23 l23 y23 z23 st23 hQ23
  subst l23 y23 z23
  obtain ⟨rfl, Nq23, e23⟩ := hQ23
  refine own_by st23 ?_
  have N23 := Fr.app N0 Nq23
  show own_Fin _ _ _ _ (T23.setTop (mkF m 4 #[iv (1 : Int32)] [(.int (2 : Int32))]))
  obtain ⟨T24, h24, k24, X24, e24, E24, A24, st24⟩ := newP X23 hx hZ (hw _ (List.mem_of_getElem? (i := 23) rfl)) e23 (g := (mkF m 4 #[iv (1 : Int32)] [(.int (2 : Int32))])) rfl (hb hby d19_4) rfl (by decide) (cap := 2) (by decide) (by decide) (by decide) (by decide)
  obtain ⟨b24, g24⟩ : ∃ z, z = h0.size := ⟨_, rfl⟩
  rw [← g24] at A24 st24
  refine own_by st24 ?_
  have g_b24 : n0 ≤ b24 := Nat.le_trans Z0 (Nat.le_of_eq g24.symm)
  have sz_b24 : h0.size ≤ b24 := Nat.le_trans Kz.1 (Nat.le_of_eq g24.symm)
  have K24 := Kz.ext E24
  have Z24 : n0 ≤ h24.size := Nat.le_trans Z0 E24.1
  have V_b24 : Arv Z h24 b24 k24 .byte (2 : Int32) [(.int (0 : Int32)), (.int (0 : Int32))] (.int (0 : Int32)) := (Arv.new A24 (by decide)).pad (pad_rep [] (.int (0 : Int32)) 2)
  show own_Fin _ _ _ _ (T24.setTop (mkF m 6 #[iv (1 : Int32)] [(.ref b24)]))
  obtain ⟨fs25, hr25, hrun25, hended25, hW25, hsame25⟩ := X24.leave (v := some (.ref b24)) (fun h => by rw [Bd.returns] at h; cases h)
  refine own_done (retOut X24 hx Bd.returns rfl (Or.inr (Or.inr (Or.inr (Or.inr ⟨rfl, rfl, rfl⟩)))) (hb hby d19_6) hr25) hrun25 hended25 ⟨_, _, rfl, ?_, ⟨_, rfl⟩, hW25, hsame25.mono (by decide) (by decide)⟩
  show Qnf_1 Z  h0 n0 _ T24.heap _
  rw [e24]
  exact ⟨b24, k24, rfl, N23, K24, g_b24, sz_b24, V_b24⟩
theorem d21_0 : decode jdk_52_method_4_code 0 = .ok (.getstatic 44, 3) := by decide +kernel
theorem d21_3 : decode jdk_52_method_4_code 3 = .ok (.ifCond .ne 25, 3) := by decide +kernel
theorem d21_6 : decode jdk_52_method_4_code 6 = .ok (.iload_n 1, 1) := by decide +kernel
theorem d21_7 : decode jdk_52_method_4_code 7 = .ok (.ifCond .lt 11, 3) := by decide +kernel
theorem d21_10 : decode jdk_52_method_4_code 10 = .ok (.iload_n 1, 1) := by decide +kernel
theorem d21_11 : decode jdk_52_method_4_code 11 = .ok (.aload_n 0, 1) := by decide +kernel
theorem d21_12 : decode jdk_52_method_4_code 12 = .ok (.invokestatic 48, 3) := by decide +kernel
theorem d21_15 : decode jdk_52_method_4_code 15 = .ok (.if_icmp .lt 13, 3) := by decide +kernel
theorem d21_18 : decode jdk_52_method_4_code 18 = .ok (.new 52, 3) := by decide +kernel
theorem d21_21 : decode jdk_52_method_4_code 21 = .ok (.dup, 1) := by decide +kernel
theorem d21_22 : decode jdk_52_method_4_code 22 = .ok (.ldc 54, 2) := by decide +kernel
theorem d21_24 : decode jdk_52_method_4_code 24 = .ok (.invokespecial 56, 3) := by decide +kernel
theorem d21_27 : decode jdk_52_method_4_code 27 = .ok (.athrow, 1) := by decide +kernel
theorem d21_28 : decode jdk_52_method_4_code 28 = .ok (.iload_n 1, 1) := by decide +kernel
theorem d21_29 : decode jdk_52_method_4_code 29 = .ok (.iconst 1, 1) := by decide +kernel
theorem d21_30 : decode jdk_52_method_4_code 30 = .ok (.ishl, 1) := by decide +kernel
theorem d21_31 : decode jdk_52_method_4_code 31 = .ok (.istore_n 1, 1) := by decide +kernel
theorem d21_32 : decode jdk_52_method_4_code 32 = .ok (.aload_n 0, 1) := by decide +kernel
theorem d21_33 : decode jdk_52_method_4_code 33 = .ok (.iload_n 1, 1) := by decide +kernel
theorem d21_34 : decode jdk_52_method_4_code 34 = .ok (.iinc 1 1, 3) := by decide +kernel
theorem d21_37 : decode jdk_52_method_4_code 37 = .ok (.iload_n 2, 1) := by decide +kernel
theorem d21_38 : decode jdk_52_method_4_code 38 = .ok (.getstatic 59, 3) := by decide +kernel
theorem d21_41 : decode jdk_52_method_4_code 41 = .ok (.ishr, 1) := by decide +kernel
theorem d21_42 : decode jdk_52_method_4_code 42 = .ok (.i2b, 1) := by decide +kernel
theorem d21_43 : decode jdk_52_method_4_code 43 = .ok (.bastore, 1) := by decide +kernel
theorem d21_44 : decode jdk_52_method_4_code 44 = .ok (.aload_n 0, 1) := by decide +kernel
theorem d21_45 : decode jdk_52_method_4_code 45 = .ok (.iload_n 1, 1) := by decide +kernel
theorem d21_46 : decode jdk_52_method_4_code 46 = .ok (.iload_n 2, 1) := by decide +kernel
theorem d21_47 : decode jdk_52_method_4_code 47 = .ok (.getstatic 63, 3) := by decide +kernel
theorem d21_50 : decode jdk_52_method_4_code 50 = .ok (.ishr, 1) := by decide +kernel
theorem d21_51 : decode jdk_52_method_4_code 51 = .ok (.i2b, 1) := by decide +kernel
theorem d21_52 : decode jdk_52_method_4_code 52 = .ok (.bastore, 1) := by decide +kernel
theorem d21_53 : decode jdk_52_method_4_code 53 = .ok (.return_, 1) := by decide +kernel
theorem ef_pc_1_0 (m : MethodId) (x0 : Addr) (x1 : Int32) (x2 : Int32) : entryFrame m #[(.ref x0), (.int x1), (.int x2)] 3 = mkF m 0 #[.val (.ref x0), .val (.int x1), .val (.int x2)] [] := by first | (simp [entryFrame, mkF, argsToLocals, Value.category]; done) | rfl
def Qpc_1_0 (Z : State) (a1 : Addr) (k : ClassId) (x : Int32) (y0 : Int32) (y1 : Int32) (h0 : Heap) (n0 : Nat) (v : Option Value) (h : Heap) (L : List Loc) : Prop := v = none ∧ Fr n0 L ∧ Keep h0 h [a1] ∧ Arv Z h a1 k .byte (2 : Int32) [(.int (own_lb x)), (.int (own_hb x))] (.int (0 : Int32))
abbrev Gpc_1_0 (Z : State) (a1 : Addr) (k : ClassId) (x : Int32) (y0 : Int32) (y1 : Int32) (h0 : Heap) (n0 : Nat) (s : State) : Outcome → State → Prop := fun o U' => ∃ v L, o = .returned v ∧ Qpc_1_0 Z a1 k x y0 y1 h0 n0 v U'.heap L ∧ FrameEnd s o U' L ({ frames := 0, cells := 0, slots := 0, locals := 0 } : Room).cells ({ frames := 0, cells := 0, slots := 0, locals := 0 } : Room).slots
set_option maxRecDepth 65536 in
set_option maxHeartbeats 40000000 in
theorem rmpc_1_0 (l : Launch) (Z : State) (a0 : Array Value) (hw : ∀ d ∈ tables_1, d.before a0 Z = true) (ws : List Jvm.Cond) (a1 : Addr) (k : ClassId) (x : Int32) (y0 : Int32) (y1 : Int32) (h0 : Heap) (n0 : Nat) (Z0 : n0 ≤ h0.size) (V_a1 : Arv Z h0 a1 k .byte (2 : Int32) [(.int y0), (.int y1)] (.int (0 : Int32))) (g_a1 : n0 ≤ a1) (O0 : Old Z n0 h0) (S__assertionsDisabled : Sta Z Z.heap "java/lang/StringUTF16" "$assertionsDisabled" "Z" (.int (1 : Int32))) (S_HI_BYTE_SHIFT : Sta Z Z.heap "java/lang/StringUTF16" "HI_BYTE_SHIFT" "I" (.int (0 : Int32))) (S_LO_BYTE_SHIFT : Sta Z Z.heap "java/lang/StringUTF16" "LO_BYTE_SHIFT" "I" (.int (8 : Int32))) :
    MetFree l (⟨"java/lang/StringUTF16", "putChar", "([BII)V"⟩ : MethodName) (head1 (Jvm.Cond.code (⟨"java/lang/StringUTF16", "putChar", "([BII)V"⟩ : MethodName) jdk_52_method_4_code 3 none :: ws) ({ frames := 0, cells := 0, slots := 0, locals := 0 } : Room)) (fun a U => a = #[(.ref a1), (.int (0 : Int32)), (.int x)] ∧ Z.Warmed39 U.vm ∧ U.heap = h0) (fun _ _ _ _ _ => True) (fun _ U o U' => ∃ v L, o = .returned v ∧ Qpc_1_0 Z a1 k x y0 y1 h0 n0 v U'.heap L ∧ FrameEnd U o U' L ({ frames := 0, cells := 0, slots := 0, locals := 0 } : Room).cells ({ frames := 0, cells := 0, slots := 0, locals := 0 } : Room).slots) := by
  refine MetFree.of_bodySF (plainFor_of_name pn_java_lang_StringUTF16) hisR ?_
  intro p e s m args below meth c s₁ Bd hml0 hP hK
  obtain ⟨rfl, hZ, hh⟩ := hP
  have hx := Bd.exec
  have hby := Bd.bytes
  have hml : c.maxLocals = 3 := hml0
  have hown : s.vm.findClass "java/lang/StringUTF16" = some m.cls := findClass_of_methodNamed Bd.named
  have hnm := (name_of_methodNamed Bd.named Bd.method).1
  have X0 : Stand p l e ({ frames := 0, cells := 0, slots := 0, locals := 0 } : Room) s m #[(.ref a1), (.int (0 : Int32)), (.int x)] below meth c s₁ [] 0 0 := Stand.of_body Bd
  have e0 : s₁.heap = h0 := by rw [← hh, Bd.state]; rfl
  have es0 : s.heap = h0 := hh
  have N0 := Fr.nil n0
  show own_Fin p e below (Gpc_1_0 Z a1 k x y0 y1 h0 n0 s) (s₁.setTop (entryFrame m #[(.ref a1), (.int (0 : Int32)), (.int x)] 3))
  rw [ef_pc_1_0 m a1 (0 : Int32) x]
  have Kz := Keep.refl h0 [a1]
  obtain ⟨T26, X26, e26, st26⟩ := getS2 X0 hx hZ hown (host := "") (Or.inl (hw _ (List.mem_of_getElem? (i := 92) rfl))) Via.refl e0 (S__assertionsDisabled.ext O0.2) (g := (mkF m 0 #[rv a1, iv (0 : Int32), iv x] [])) rfl (hb hby d21_0)
  refine own_by st26 ?_
  show own_Fin _ _ _ _ (T26.setTop (mkF m 3 #[rv a1, iv (0 : Int32), iv x] [(.int (1 : Int32))]))
  refine own_go (XS.ifYes X26.here hx rfl (pc0 := 3) (pc' := 28) rfl (hb hby d21_3) rfl ((if0 _ _).trans (feq (by decide : ¬ ((1 : Int32) = (0 : Int32)))).2) (by decide) (by decide) (Steps.refl _)) ?_
  show own_Fin _ _ _ _ (T26.setTop (mkF m 28 #[rv a1, iv (0 : Int32), iv x] []))
  refine own_go (XS.iloadN X26.here hx rfl (hb hby d21_28) rfl (Steps.refl _)) ?_
  show own_Fin _ _ _ _ (T26.setTop (mkF m 29 #[rv a1, iv (0 : Int32), iv x] [(.int (0 : Int32))]))
  refine own_go (XS.iconst X26.here hx rfl (hb hby d21_29) (Steps.refl _)) ?_
  show own_Fin _ _ _ _ (T26.setTop (mkF m 30 #[rv a1, iv (0 : Int32), iv x] [(.int (1 : Int32)), (.int (0 : Int32))]))
  refine own_go (XS.ishl X26.here hx rfl (hb hby d21_30) rfl (Steps.refl _)) ?_
  show own_Fin _ _ _ _ (T26.setTop (mkF m 31 #[rv a1, iv (0 : Int32), iv x] [(.int (0 : Int32))]))
  refine own_go (XS.istoreN X26.here hx rfl (hb hby d21_31) rfl rfl (Steps.refl _)) ?_
  show own_Fin _ _ _ _ (T26.setTop (mkF m 32 #[rv a1, iv (0 : Int32), iv x] []))
  refine own_go (XS.aloadN X26.here hx rfl (hb hby d21_32) rfl rfl (Steps.refl _)) ?_
  show own_Fin _ _ _ _ (T26.setTop (mkF m 33 #[rv a1, iv (0 : Int32), iv x] [(.ref a1)]))
  refine own_go (XS.iloadN X26.here hx rfl (hb hby d21_33) rfl (Steps.refl _)) ?_
  show own_Fin _ _ _ _ (T26.setTop (mkF m 34 #[rv a1, iv (0 : Int32), iv x] [(.int (0 : Int32)), (.ref a1)]))
  refine own_go (XS.iinc X26.here hx rfl (hb hby d21_34) rfl rfl (Steps.refl _)) ?_
  show own_Fin _ _ _ _ (T26.setTop (mkF m 37 #[rv a1, iv (1 : Int32), iv x] [(.int (0 : Int32)), (.ref a1)]))
  refine own_go (XS.iloadN X26.here hx rfl (hb hby d21_37) rfl (Steps.refl _)) ?_
  show own_Fin _ _ _ _ (T26.setTop (mkF m 38 #[rv a1, iv (1 : Int32), iv x] [(.int x), (.int (0 : Int32)), (.ref a1)]))
  obtain ⟨T27, X27, e27, st27⟩ := getS2 X26 hx hZ hown (host := "") (Or.inl (hw _ (List.mem_of_getElem? (i := 93) rfl))) Via.refl e26 (S_HI_BYTE_SHIFT.ext O0.2) (g := (mkF m 38 #[rv a1, iv (1 : Int32), iv x] [(.int x), (.int (0 : Int32)), (.ref a1)])) rfl (hb hby d21_38)
  refine own_by st27 ?_
  show own_Fin _ _ _ _ (T27.setTop (mkF m 41 #[rv a1, iv (1 : Int32), iv x] [(.int (0 : Int32)), (.int x), (.int (0 : Int32)), (.ref a1)]))
  refine own_go (XS.ishr X27.here hx rfl (hb hby d21_41) rfl (Steps.refl _)) ?_
  show own_Fin _ _ _ _ (T27.setTop (mkF m 42 #[rv a1, iv (1 : Int32), iv x] [(.int (x >>> ((0 : Int32) &&& 31))), (.int (0 : Int32)), (.ref a1)]))
  refine own_go (XS.i2b X27.here hx rfl (hb hby d21_42) rfl (Steps.refl _)) ?_
  show own_Fin _ _ _ _ (T27.setTop (mkF m 43 #[rv a1, iv (1 : Int32), iv x] [(.int ((x >>> ((0 : Int32) &&& 31)).toInt8.toInt32)), (.int (0 : Int32)), (.ref a1)]))
  obtain ⟨cl28, Ar28, qa28, Sa28, Na28, Ha28, Ga28⟩ := id V_a1
  have hin28 : ¬ ((0 : Int32) < 0 ∨ cl28.slots.size ≤ ((0 : Int32)).toNatClampNeg) := inb_of Sa28 ⟨by decide, by decide⟩
  obtain ⟨T29, h29, X29, e29, W29, st29⟩ := stB X27 hx hZ e27 Ar28 (j := (0 : Int32)) hin28 (g := (mkF m 43 #[rv a1, iv (1 : Int32), iv x] [(.int ((x >>> ((0 : Int32) &&& 31)).toInt8.toInt32)), (.int (0 : Int32)), (.ref a1)])) rfl rfl (hb hby d21_43)
  refine own_by st29 ?_
  have hnr29 : nar .byte ((x >>> ((0 : Int32) &&& 31)).toInt8.toInt32) = (own_lb x) := rfl
  rw [hnr29] at W29
  have V_a1_29 : Arv Z h29 a1 k .byte (2 : Int32) [(.int (own_lb x)), (.int y1)] (.int (0 : Int32)) := Arv.set Ar28 qa28 Sa28 Na28 Ha28 Ga28 (hnr29 ▸ fits_nar_byte ((x >>> ((0 : Int32) &&& 31)).toInt8.toInt32)) W29 0 rfl (Nat.le_of_ble_eq_true rfl)
  have Od29 := O0.wr W29 g_a1
  have N29 := Fr.snoc X29 N0 g_a1
  have Z29 : n0 ≤ h29.size := Nat.le_trans Z0 (Keep.of_wr W29).1
  have K29 := Kz.wr W29 (Or.inl (List.mem_of_getElem? (i := 0) rfl))
  show own_Fin _ _ _ _ (T29.setTop (mkF m 44 #[rv a1, iv (1 : Int32), iv x] []))
  refine own_go (XS.aloadN X29.here hx rfl (hb hby d21_44) rfl rfl (Steps.refl _)) ?_
  show own_Fin _ _ _ _ (T29.setTop (mkF m 45 #[rv a1, iv (1 : Int32), iv x] [(.ref a1)]))
  refine own_go (XS.iloadN X29.here hx rfl (hb hby d21_45) rfl (Steps.refl _)) ?_
  show own_Fin _ _ _ _ (T29.setTop (mkF m 46 #[rv a1, iv (1 : Int32), iv x] [(.int (1 : Int32)), (.ref a1)]))
  refine own_go (XS.iloadN X29.here hx rfl (hb hby d21_46) rfl (Steps.refl _)) ?_
  show own_Fin _ _ _ _ (T29.setTop (mkF m 47 #[rv a1, iv (1 : Int32), iv x] [(.int x), (.int (1 : Int32)), (.ref a1)]))
  obtain ⟨T30, X30, e30, st30⟩ := getS2 X29 hx hZ hown (host := "") (Or.inl (hw _ (List.mem_of_getElem? (i := 94) rfl))) Via.refl e29 (S_LO_BYTE_SHIFT.ext Od29.2) (g := (mkF m 47 #[rv a1, iv (1 : Int32), iv x] [(.int x), (.int (1 : Int32)), (.ref a1)])) rfl (hb hby d21_47)
  refine own_by st30 ?_
  show own_Fin _ _ _ _ (T30.setTop (mkF m 50 #[rv a1, iv (1 : Int32), iv x] [(.int (8 : Int32)), (.int x), (.int (1 : Int32)), (.ref a1)]))
  refine own_go (XS.ishr X30.here hx rfl (hb hby d21_50) rfl (Steps.refl _)) ?_
  show own_Fin _ _ _ _ (T30.setTop (mkF m 51 #[rv a1, iv (1 : Int32), iv x] [(.int (x >>> ((8 : Int32) &&& 31))), (.int (1 : Int32)), (.ref a1)]))
  refine own_go (XS.i2b X30.here hx rfl (hb hby d21_51) rfl (Steps.refl _)) ?_
  show own_Fin _ _ _ _ (T30.setTop (mkF m 52 #[rv a1, iv (1 : Int32), iv x] [(.int ((x >>> ((8 : Int32) &&& 31)).toInt8.toInt32)), (.int (1 : Int32)), (.ref a1)]))
  obtain ⟨cl31, Ar31, qa31, Sa31, Na31, Ha31, Ga31⟩ := id V_a1_29
  have hin31 : ¬ ((1 : Int32) < 0 ∨ cl31.slots.size ≤ ((1 : Int32)).toNatClampNeg) := inb_of Sa31 ⟨by decide, by decide⟩
  obtain ⟨T32, h32, X32, e32, W32, st32⟩ := stB X30 hx hZ e30 Ar31 (j := (1 : Int32)) hin31 (g := (mkF m 52 #[rv a1, iv (1 : Int32), iv x] [(.int ((x >>> ((8 : Int32) &&& 31)).toInt8.toInt32)), (.int (1 : Int32)), (.ref a1)])) rfl rfl (hb hby d21_52)
  refine own_by st32 ?_
  have hnr32 : nar .byte ((x >>> ((8 : Int32) &&& 31)).toInt8.toInt32) = (own_hb x) := rfl
  rw [hnr32] at W32
  have V_a1_32 : Arv Z h32 a1 k .byte (2 : Int32) [(.int (own_lb x)), (.int (own_hb x))] (.int (0 : Int32)) := Arv.set Ar31 qa31 Sa31 Na31 Ha31 Ga31 (hnr32 ▸ fits_nar_byte ((x >>> ((8 : Int32) &&& 31)).toInt8.toInt32)) W32 1 rfl (Nat.le_of_ble_eq_true rfl)
  have Od32 := Od29.wr W32 g_a1
  have N32 := Fr.snoc X32 N29 g_a1
  have Z32 : n0 ≤ h32.size := Nat.le_trans Z29 (Keep.of_wr W32).1
  have K32 := K29.wr W32 (Or.inl (List.mem_of_getElem? (i := 0) rfl))
  show own_Fin _ _ _ _ (T32.setTop (mkF m 53 #[rv a1, iv (1 : Int32), iv x] []))
  obtain ⟨fs33, hr33, hrun33, hended33, hW33, hsame33⟩ := X32.leave (v := none) (fun _ => rfl)
  refine own_done (X32.returnOut hx Bd.returns (hb hby d21_53) hr33) hrun33 hended33 ⟨_, _, rfl, ?_, ⟨_, rfl⟩, hW33, hsame33.mono (by decide) (by decide)⟩
  show Qpc_1_0 Z a1 k x y0 y1 h0 n0 _ T32.heap _
  rw [e32]
  exact ⟨rfl, N32, K32, V_a1_32⟩
theorem d18_0 : decode jdk_52_method_14_code 0 = .ok (.iload_n 2, 1) := by decide +kernel
theorem d18_1 : decode jdk_52_method_14_code 1 = .ok (.invokestatic 107, 3) := by decide +kernel
theorem d18_4 : decode jdk_52_method_14_code 4 = .ok (.astore_n 3, 1) := by decide +kernel
theorem d18_5 : decode jdk_52_method_14_code 5 = .ok (.iconst 0, 1) := by decide +kernel
theorem d18_6 : decode jdk_52_method_14_code 6 = .ok (.istore 4, 2) := by decide +kernel
theorem d18_8 : decode jdk_52_method_14_code 8 = .ok (.iload 4, 2) := by decide +kernel
theorem d18_10 : decode jdk_52_method_14_code 10 = .ok (.iload_n 2, 1) := by decide +kernel
theorem d18_11 : decode jdk_52_method_14_code 11 = .ok (.if_icmp .ge 21, 3) := by decide +kernel
theorem d18_14 : decode jdk_52_method_14_code 14 = .ok (.aload_n 3, 1) := by decide +kernel
theorem d18_15 : decode jdk_52_method_14_code 15 = .ok (.iload 4, 2) := by decide +kernel
theorem d18_17 : decode jdk_52_method_14_code 17 = .ok (.aload_n 0, 1) := by decide +kernel
theorem d18_18 : decode jdk_52_method_14_code 18 = .ok (.iload_n 1, 1) := by decide +kernel
theorem d18_19 : decode jdk_52_method_14_code 19 = .ok (.caload, 1) := by decide +kernel
theorem d18_20 : decode jdk_52_method_14_code 20 = .ok (.invokestatic 111, 3) := by decide +kernel
theorem d18_23 : decode jdk_52_method_14_code 23 = .ok (.iinc 1 1, 3) := by decide +kernel
theorem d18_26 : decode jdk_52_method_14_code 26 = .ok (.iinc 4 1, 3) := by decide +kernel
theorem d18_29 : decode jdk_52_method_14_code 29 = .ok (.goto (-21), 3) := by decide +kernel
theorem d18_32 : decode jdk_52_method_14_code 32 = .ok (.aload_n 3, 1) := by decide +kernel
theorem d18_33 : decode jdk_52_method_14_code 33 = .ok (.areturn, 1) := by decide +kernel
theorem ef_tb_1 (m : MethodId) (x0 : Addr) (x1 : Int32) (x2 : Int32) : entryFrame m #[(.ref x0), (.int x1), (.int x2)] 5 = mkF m 0 #[.val (.ref x0), .val (.int x1), .val (.int x2), .unset, .unset] [] := by first | (simp [entryFrame, mkF, argsToLocals, Value.category]; done) | rfl
def Qtb_1 (Z : State) (a1 : Addr) (k : ClassId) (c0 : Int32) (h0 : Heap) (n0 : Nat) (v : Option Value) (h : Heap) (L : List Loc) : Prop := ∃ (b : Addr) (kb : ClassId), v = some (.ref b) ∧ Fr n0 L ∧ Keep h0 h [] ∧ n0 ≤ b ∧ h0.size ≤ b ∧ Arv Z h b kb .byte (2 : Int32) [(.int (own_lb c0)), (.int (own_hb c0))] (.int (0 : Int32))
abbrev Gtb_1 (Z : State) (a1 : Addr) (k : ClassId) (c0 : Int32) (h0 : Heap) (n0 : Nat) (s : State) : Outcome → State → Prop := fun o U' => ∃ v L, o = .returned v ∧ Qtb_1 Z a1 k c0 h0 n0 v U'.heap L ∧ FrameEnd s o U' L ({ frames := 2, cells := 1, slots := 2, locals := 40 } : Room).cells ({ frames := 2, cells := 1, slots := 2, locals := 40 } : Room).slots
theorem pd__28_I_29__5b_B : parseMethodDescriptor "(I)[B" = some ⟨[.int], some (.array .byte)⟩ := by decide +kernel
theorem pd__28__5b_BII_29_V : parseMethodDescriptor "([BII)V" = some ⟨[(.array .byte), .int, .int], none⟩ := by decide +kernel
set_option maxRecDepth 65536 in
set_option maxHeartbeats 40000000 in
theorem rmtb_1 (l : Launch) (Z : State) (a0 : Array Value) (hw : ∀ d ∈ tables_1, d.before a0 Z = true) (ws : List Jvm.Cond) (a1 : Addr) (k : ClassId) (c0 : Int32) (h0 : Heap) (n0 : Nat) (Z0 : n0 ≤ h0.size) (V_a1 : Arv Z h0 a1 k .char (1 : Int32) [(.int c0)] (.int (0 : Int32))) (O0 : Old Z n0 h0) (S__assertionsDisabled : Sta Z Z.heap "java/lang/StringUTF16" "$assertionsDisabled" "Z" (.int (1 : Int32))) (S_HI_BYTE_SHIFT : Sta Z Z.heap "java/lang/StringUTF16" "HI_BYTE_SHIFT" "I" (.int (0 : Int32))) (S_LO_BYTE_SHIFT : Sta Z Z.heap "java/lang/StringUTF16" "LO_BYTE_SHIFT" "I" (.int (8 : Int32))) :
    MetFree l (⟨"java/lang/StringUTF16", "toBytes", "([CII)[B"⟩ : MethodName) (head1 (Jvm.Cond.code (⟨"java/lang/StringUTF16", "toBytes", "([CII)[B"⟩ : MethodName) jdk_52_method_14_code 5 (some (.array .byte)) :: ws) ({ frames := 2, cells := 1, slots := 2, locals := 40 } : Room)) (fun a U => a = #[(.ref a1), (.int (0 : Int32)), (.int (1 : Int32))] ∧ Z.Warmed39 U.vm ∧ U.heap = h0) (fun _ _ _ _ _ => True) (fun _ U o U' => ∃ v L, o = .returned v ∧ Qtb_1 Z a1 k c0 h0 n0 v U'.heap L ∧ FrameEnd U o U' L ({ frames := 2, cells := 1, slots := 2, locals := 40 } : Room).cells ({ frames := 2, cells := 1, slots := 2, locals := 40 } : Room).slots) := by
  refine MetFree.of_bodySF (plainFor_of_name pn_java_lang_StringUTF16) hisR ?_
  intro p e s m args below meth c s₁ Bd hml0 hP hK
  obtain ⟨rfl, hZ, hh⟩ := hP
  have hx := Bd.exec
  have hby := Bd.bytes
  have hml : c.maxLocals = 5 := hml0
  have hown : s.vm.findClass "java/lang/StringUTF16" = some m.cls := findClass_of_methodNamed Bd.named
  have hnm := (name_of_methodNamed Bd.named Bd.method).1
  have X0 : Stand p l e ({ frames := 2, cells := 1, slots := 2, locals := 40 } : Room) s m #[(.ref a1), (.int (0 : Int32)), (.int (1 : Int32))] below meth c s₁ [] 0 0 := Stand.of_body Bd
  have e0 : s₁.heap = h0 := by rw [← hh, Bd.state]; rfl
  have es0 : s.heap = h0 := hh
  have N0 := Fr.nil n0
  show own_Fin p e below (Gtb_1 Z a1 k c0 h0 n0 s) (s₁.setTop (entryFrame m #[(.ref a1), (.int (0 : Int32)), (.int (1 : Int32))] 5))
  rw [ef_tb_1 m a1 (0 : Int32) (1 : Int32)]
  have Kz := Keep.refl h0 []
  refine own_go (XS.iloadN X0.here hx rfl (hb hby d18_0) rfl (Steps.refl _)) ?_
  show own_Fin _ _ _ _ (s₁.setTop (mkF m 1 #[rv a1, iv (0 : Int32), iv (1 : Int32), .unset, .unset] [(.int (1 : Int32))]))
  obtain ⟨_, _, ⟨T34, L34, k34, n34⟩, -, X34, ⟨Lc34, hQ34, l34, y34, z34⟩, st34⟩ := Jvm.LawKit.callS X0 hx (y := (⟨"java/lang/StringUTF16", "newBytesFor", "(I)[B"⟩ : MethodName)) hown (mvT hZ (hw _ (List.mem_of_getElem? (i := 82) rfl))) (mvT hZ (hw _ (List.mem_of_getElem? (i := 83) rfl))) (mvT hZ (hw _ (List.mem_of_getElem? (i := 21) rfl))) (mvT hZ (hw _ (List.mem_of_getElem? (i := 84) rfl))) (by decide) (backOf (W := 0) (rmnf_1 l Z a0 hw []  h0 n0 Z0) hZ (hw _ (List.mem_of_getElem? (i := 84) rfl)) (hw _ (List.mem_of_getElem? (i := 21) rfl)) (by decide) (by decide)) (g := (mkF m 1 #[rv a1, iv (0 : Int32), iv (1 : Int32), .unset, .unset] [(.int (1 : Int32))])) rfl (by rw [hml]; rfl) (argsL := [(.int (1 : Int32))]) (rest := []) (lenOf pd__28_I_29__5b_B rfl) rfl (by show 2 * 0 + _ ≤ _; exact Nat.le_of_eq rfl) (hb hby d18_1) (fun _ hv => ⟨rfl, e0, (by decide : 0 + 1 ≤ _), (by decide : 0 + 2 ≤ _)⟩)
  dsimp only [Pt.U, Pt.locs, Pt.cells, Pt.slots] at X34 l34 y34 z34 st34 hQ34
  subst l34 y34 z34
  refine own_by st34 ?_
  obtain ⟨b_34, kb_34, rfl, Nq34, K34, g_b_34, sb_b_34, r34_0⟩ := hQ34
  have ne_a1_b_34 : a1 ≠ b_34 := Nat.ne_of_lt (Nat.lt_of_lt_of_le V_a1.lt sb_b_34)
  have sz_b_34 : h0.size ≤ b_34 := Nat.le_trans Kz.1 sb_b_34
  have Od34 := O0.keep K34 all0
  have V_a1_34 := V_a1.keep K34 nin0
  have Z34 : n0 ≤ T34.heap.size := Nat.le_trans Z0 K34.1
  have Kt34 := Kz.trans K34 all0
  have N34 := Fr.app N0 Nq34
  show own_Fin _ _ _ _ (T34.setTop (mkF m 4 #[rv a1, iv (0 : Int32), iv (1 : Int32), .unset, .unset] [(.ref b_34)]))
  refine own_go (XS.astoreN X34.here hx rfl (hb hby d18_4) rfl rfl rfl (Steps.refl _)) ?_
  show own_Fin _ _ _ _ (T34.setTop (mkF m 5 #[rv a1, iv (0 : Int32), iv (1 : Int32), rv b_34, .unset] []))
  refine own_go (XS.iconst X34.here hx rfl (hb hby d18_5) (Steps.refl _)) ?_
  show own_Fin _ _ _ _ (T34.setTop (mkF m 6 #[rv a1, iv (0 : Int32), iv (1 : Int32), rv b_34, .unset] [(.int (0 : Int32))]))
  refine own_go (XS.istore X34.here hx rfl (hb hby d18_6) rfl rfl (Steps.refl _)) ?_
  show own_Fin _ _ _ _ (T34.setTop (mkF m 8 #[rv a1, iv (0 : Int32), iv (1 : Int32), rv b_34, iv (0 : Int32)] []))
  refine own_go (XS.iload X34.here hx rfl (hb hby d18_8) rfl (Steps.refl _)) ?_
  show own_Fin _ _ _ _ (T34.setTop (mkF m 10 #[rv a1, iv (0 : Int32), iv (1 : Int32), rv b_34, iv (0 : Int32)] [(.int (0 : Int32))]))
  refine own_go (XS.iloadN X34.here hx rfl (hb hby d18_10) rfl (Steps.refl _)) ?_
  show own_Fin _ _ _ _ (T34.setTop (mkF m 11 #[rv a1, iv (0 : Int32), iv (1 : Int32), rv b_34, iv (0 : Int32)] [(.int (1 : Int32)), (.int (0 : Int32))]))
  refine own_go (XS.icmpNo X34.here hx rfl (hb hby d18_11) rfl (tlt (by decide : (0 : Int32) < (1 : Int32))).2.1 (Steps.refl _)) ?_
  show own_Fin _ _ _ _ (T34.setTop (mkF m 14 #[rv a1, iv (0 : Int32), iv (1 : Int32), rv b_34, iv (0 : Int32)] []))
  refine own_go (XS.aloadN X34.here hx rfl (hb hby d18_14) rfl rfl (Steps.refl _)) ?_
  show own_Fin _ _ _ _ (T34.setTop (mkF m 15 #[rv a1, iv (0 : Int32), iv (1 : Int32), rv b_34, iv (0 : Int32)] [(.ref b_34)]))
  refine own_go (XS.iload X34.here hx rfl (hb hby d18_15) rfl (Steps.refl _)) ?_
  show own_Fin _ _ _ _ (T34.setTop (mkF m 17 #[rv a1, iv (0 : Int32), iv (1 : Int32), rv b_34, iv (0 : Int32)] [(.int (0 : Int32)), (.ref b_34)]))
  refine own_go (XS.aloadN X34.here hx rfl (hb hby d18_17) rfl rfl (Steps.refl _)) ?_
  show own_Fin _ _ _ _ (T34.setTop (mkF m 18 #[rv a1, iv (0 : Int32), iv (1 : Int32), rv b_34, iv (0 : Int32)] [(.ref a1), (.int (0 : Int32)), (.ref b_34)]))
  refine own_go (XS.iloadN X34.here hx rfl (hb hby d18_18) rfl (Steps.refl _)) ?_
  show own_Fin _ _ _ _ (T34.setTop (mkF m 19 #[rv a1, iv (0 : Int32), iv (1 : Int32), rv b_34, iv (0 : Int32)] [(.int (0 : Int32)), (.ref a1), (.int (0 : Int32)), (.ref b_34)]))
  obtain ⟨cl35, Ar35, qa35, Sa35, Na35, Ha35, Ga35⟩ := id V_a1_34
  have hin35 : ¬ ((0 : Int32) < 0 ∨ cl35.slots.size ≤ ((0 : Int32)).toNatClampNeg) := inb_of Sa35 ⟨by decide, by decide⟩
  have hat35 : cl35.slots[((0 : Int32)).toNatClampNeg]? = some (.int c0) := Has.at Ha35 hin35 rfl
  refine own_by (X34.caload hx (j := (0 : Int32)) (v := (.int c0)) Ar35.1 (State.isArrayOf_alike hZ.alike Ar35.2.1) Ar35.2.2 hin35 hat35 (g := (mkF m 19 #[rv a1, iv (0 : Int32), iv (1 : Int32), rv b_34, iv (0 : Int32)] [(.int (0 : Int32)), (.ref a1), (.int (0 : Int32)), (.ref b_34)])) rfl rfl (hb hby d18_19)) ?_
  show own_Fin _ _ _ _ (T34.setTop (mkF m 20 #[rv a1, iv (0 : Int32), iv (1 : Int32), rv b_34, iv (0 : Int32)] [(.int c0), (.int (0 : Int32)), (.ref b_34)]))
  obtain ⟨_, _, ⟨T36, L36, k36, n36⟩, -, X36, ⟨Lc36, hQ36, l36, y36, z36⟩, st36⟩ := Jvm.LawKit.callS X34 hx (y := (⟨"java/lang/StringUTF16", "putChar", "([BII)V"⟩ : MethodName)) hown (mvT hZ (hw _ (List.mem_of_getElem? (i := 89) rfl))) (mvT hZ (hw _ (List.mem_of_getElem? (i := 90) rfl))) (mvT hZ (hw _ (List.mem_of_getElem? (i := 21) rfl))) (mvT hZ (hw _ (List.mem_of_getElem? (i := 91) rfl))) (by decide) (backOf (W := 0) (rmpc_1_0 l Z a0 hw [] b_34 kb_34 c0 (0 : Int32) (0 : Int32) T34.heap n0 Z34 r34_0 g_b_34 Od34 S__assertionsDisabled S_HI_BYTE_SHIFT S_LO_BYTE_SHIFT) hZ (hw _ (List.mem_of_getElem? (i := 91) rfl)) (hw _ (List.mem_of_getElem? (i := 21) rfl)) (by decide) (by decide)) (g := (mkF m 20 #[rv a1, iv (0 : Int32), iv (1 : Int32), rv b_34, iv (0 : Int32)] [(.int c0), (.int (0 : Int32)), (.ref b_34)])) rfl (by rw [hml]; rfl) (argsL := [(.ref b_34), (.int (0 : Int32)), (.int c0)]) (rest := []) (lenOf pd__28__5b_BII_29_V rfl) rfl (by show 2 * 0 + _ ≤ _; exact Nat.le_of_eq rfl) (hb hby d18_20) (fun _ hv => ⟨rfl, rfl, (by decide : 1 + 0 ≤ _), (by decide : 2 + 0 ≤ _)⟩)
  dsimp only [Pt.U, Pt.locs, Pt.cells, Pt.slots] at X36 l36 y36 z36 st36 hQ36
  subst l36 y36 z36
  refine own_by st36 ?_
  obtain ⟨rfl, Nq36, K36, r36_0⟩ := hQ36
  have Od36 := Od34.keep K36 (allS g_b_34 all0)
  have V_a1_36 := V_a1_34.keep K36 (ninS ne_a1_b_34 nin0)
  have Z36 : n0 ≤ T36.heap.size := Nat.le_trans Z34 K36.1
  have Kt36 := Kt34.trans K36 (allS (P := fun x => x ∈ _ ∨ _ ≤ x) (Or.inr sz_b_34) all0)
  have N36 := Fr.app N34 Nq36
  show own_Fin _ _ _ _ (T36.setTop (mkF m 23 #[rv a1, iv (0 : Int32), iv (1 : Int32), rv b_34, iv (0 : Int32)] []))
  refine own_go (XS.iinc X36.here hx rfl (hb hby d18_23) rfl rfl (Steps.refl _)) ?_
  show own_Fin _ _ _ _ (T36.setTop (mkF m 26 #[rv a1, iv (1 : Int32), iv (1 : Int32), rv b_34, iv (0 : Int32)] []))
  refine own_go (XS.iinc X36.here hx rfl (hb hby d18_26) rfl rfl (Steps.refl _)) ?_
  show own_Fin _ _ _ _ (T36.setTop (mkF m 29 #[rv a1, iv (1 : Int32), iv (1 : Int32), rv b_34, iv (1 : Int32)] []))
  refine own_go (XS.goto X36.here hx rfl (pc0 := 29) (pc' := 8) rfl (hb hby d18_29) (by decide) (by decide) (Steps.refl _)) ?_
  show own_Fin _ _ _ _ (T36.setTop (mkF m 8 #[rv a1, iv (1 : Int32), iv (1 : Int32), rv b_34, iv (1 : Int32)] []))
  refine own_go (XS.iload X36.here hx rfl (hb hby d18_8) rfl (Steps.refl _)) ?_
  show own_Fin _ _ _ _ (T36.setTop (mkF m 10 #[rv a1, iv (1 : Int32), iv (1 : Int32), rv b_34, iv (1 : Int32)] [(.int (1 : Int32))]))
  refine own_go (XS.iloadN X36.here hx rfl (hb hby d18_10) rfl (Steps.refl _)) ?_
  show own_Fin _ _ _ _ (T36.setTop (mkF m 11 #[rv a1, iv (1 : Int32), iv (1 : Int32), rv b_34, iv (1 : Int32)] [(.int (1 : Int32)), (.int (1 : Int32))]))
  refine own_go (XS.icmpYes X36.here hx rfl (pc0 := 11) (pc' := 32) rfl (hb hby d18_11) rfl (flt (by decide : ¬ ((1 : Int32) < (1 : Int32)))).2.1 (by decide) (by decide) (Steps.refl _)) ?_
  show own_Fin _ _ _ _ (T36.setTop (mkF m 32 #[rv a1, iv (1 : Int32), iv (1 : Int32), rv b_34, iv (1 : Int32)] []))
  refine own_go (XS.aloadN X36.here hx rfl (hb hby d18_32) rfl rfl (Steps.refl _)) ?_
  show own_Fin _ _ _ _ (T36.setTop (mkF m 33 #[rv a1, iv (1 : Int32), iv (1 : Int32), rv b_34, iv (1 : Int32)] [(.ref b_34)]))
  obtain ⟨fs37, hr37, hrun37, hended37, hW37, hsame37⟩ := X36.leave (v := some (.ref b_34)) (fun h => by rw [Bd.returns] at h; cases h)
  refine own_done (retOut X36 hx Bd.returns rfl (Or.inr (Or.inr (Or.inr (Or.inr ⟨rfl, rfl, rfl⟩)))) (hb hby d18_33) hr37) hrun37 hended37 ⟨_, _, rfl, ?_, ⟨_, rfl⟩, hW37, hsame37.mono (by decide) (by decide)⟩
  show Qtb_1 Z a1 k c0 h0 n0 _ T36.heap _
  exact ⟨b_34, kb_34, rfl, N36, Kt36, g_b_34, sz_b_34, r36_0⟩
theorem d22_0 : decode jdk_52_method_5_code 0 = .ok (.getstatic 44, 3) := by decide +kernel
theorem d22_3 : decode jdk_52_method_5_code 3 = .ok (.ifCond .ne 25, 3) := by decide +kernel
theorem d22_6 : decode jdk_52_method_5_code 6 = .ok (.iload_n 1, 1) := by decide +kernel
theorem d22_7 : decode jdk_52_method_5_code 7 = .ok (.ifCond .lt 11, 3) := by decide +kernel
theorem d22_10 : decode jdk_52_method_5_code 10 = .ok (.iload_n 1, 1) := by decide +kernel
theorem d22_11 : decode jdk_52_method_5_code 11 = .ok (.aload_n 0, 1) := by decide +kernel
theorem d22_12 : decode jdk_52_method_5_code 12 = .ok (.invokestatic 48, 3) := by decide +kernel
theorem d22_15 : decode jdk_52_method_5_code 15 = .ok (.if_icmp .lt 13, 3) := by decide +kernel
theorem d22_18 : decode jdk_52_method_5_code 18 = .ok (.new 52, 3) := by decide +kernel
theorem d22_21 : decode jdk_52_method_5_code 21 = .ok (.dup, 1) := by decide +kernel
theorem d22_22 : decode jdk_52_method_5_code 22 = .ok (.ldc 54, 2) := by decide +kernel
theorem d22_24 : decode jdk_52_method_5_code 24 = .ok (.invokespecial 56, 3) := by decide +kernel
theorem d22_27 : decode jdk_52_method_5_code 27 = .ok (.athrow, 1) := by decide +kernel
theorem d22_28 : decode jdk_52_method_5_code 28 = .ok (.iload_n 1, 1) := by decide +kernel
theorem d22_29 : decode jdk_52_method_5_code 29 = .ok (.iconst 1, 1) := by decide +kernel
theorem d22_30 : decode jdk_52_method_5_code 30 = .ok (.ishl, 1) := by decide +kernel
theorem d22_31 : decode jdk_52_method_5_code 31 = .ok (.istore_n 1, 1) := by decide +kernel
theorem d22_32 : decode jdk_52_method_5_code 32 = .ok (.aload_n 0, 1) := by decide +kernel
theorem d22_33 : decode jdk_52_method_5_code 33 = .ok (.iload_n 1, 1) := by decide +kernel
theorem d22_34 : decode jdk_52_method_5_code 34 = .ok (.iinc 1 1, 3) := by decide +kernel
theorem d22_37 : decode jdk_52_method_5_code 37 = .ok (.baload, 1) := by decide +kernel
theorem d22_38 : decode jdk_52_method_5_code 38 = .ok (.sipush 255, 3) := by decide +kernel
theorem d22_41 : decode jdk_52_method_5_code 41 = .ok (.iand, 1) := by decide +kernel
theorem d22_42 : decode jdk_52_method_5_code 42 = .ok (.getstatic 59, 3) := by decide +kernel
theorem d22_45 : decode jdk_52_method_5_code 45 = .ok (.ishl, 1) := by decide +kernel
theorem d22_46 : decode jdk_52_method_5_code 46 = .ok (.aload_n 0, 1) := by decide +kernel
theorem d22_47 : decode jdk_52_method_5_code 47 = .ok (.iload_n 1, 1) := by decide +kernel
theorem d22_48 : decode jdk_52_method_5_code 48 = .ok (.baload, 1) := by decide +kernel
theorem d22_49 : decode jdk_52_method_5_code 49 = .ok (.sipush 255, 3) := by decide +kernel
theorem d22_52 : decode jdk_52_method_5_code 52 = .ok (.iand, 1) := by decide +kernel
theorem d22_53 : decode jdk_52_method_5_code 53 = .ok (.getstatic 63, 3) := by decide +kernel
theorem d22_56 : decode jdk_52_method_5_code 56 = .ok (.ishl, 1) := by decide +kernel
theorem d22_57 : decode jdk_52_method_5_code 57 = .ok (.ior, 1) := by decide +kernel
theorem d22_58 : decode jdk_52_method_5_code 58 = .ok (.i2c, 1) := by decide +kernel
theorem d22_59 : decode jdk_52_method_5_code 59 = .ok (.ireturn, 1) := by decide +kernel
theorem ef_gc_1_0 (m : MethodId) (x0 : Addr) (x1 : Int32) : entryFrame m #[(.ref x0), (.int x1)] 2 = mkF m 0 #[.val (.ref x0), .val (.int x1)] [] := by first | (simp [entryFrame, mkF, argsToLocals, Value.category]; done) | rfl
def Qgc_1_0 (Z : State) (a1 : Addr) (k : ClassId) (c0 : Int32) (h0 : Heap) (n0 : Nat) (v : Option Value) (h : Heap) (L : List Loc) : Prop := v = some (.int c0) ∧ Fr n0 L ∧ h = h0
abbrev Ggc_1_0 (Z : State) (a1 : Addr) (k : ClassId) (c0 : Int32) (h0 : Heap) (n0 : Nat) (s : State) : Outcome → State → Prop := fun o U' => ∃ v L, o = .returned v ∧ Qgc_1_0 Z a1 k c0 h0 n0 v U'.heap L ∧ FrameEnd s o U' L ({ frames := 0, cells := 0, slots := 0, locals := 0 } : Room).cells ({ frames := 0, cells := 0, slots := 0, locals := 0 } : Room).slots
set_option maxRecDepth 65536 in
set_option maxHeartbeats 40000000 in
theorem rmgc_1_0 (l : Launch) (Z : State) (a0 : Array Value) (hw : ∀ d ∈ tables_1, d.before a0 Z = true) (ws : List Jvm.Cond) (a1 : Addr) (k : ClassId) (c0 : Int32) (h0 : Heap) (n0 : Nat) (Z0 : n0 ≤ h0.size) (V_a1 : Arv Z h0 a1 k .byte (2 : Int32) [(.int (own_lb c0)), (.int (own_hb c0))] (.int (0 : Int32))) (hr : own_ch c0) (O0 : Old Z n0 h0) (S__assertionsDisabled : Sta Z Z.heap "java/lang/StringUTF16" "$assertionsDisabled" "Z" (.int (1 : Int32))) (S_HI_BYTE_SHIFT : Sta Z Z.heap "java/lang/StringUTF16" "HI_BYTE_SHIFT" "I" (.int (0 : Int32))) (S_LO_BYTE_SHIFT : Sta Z Z.heap "java/lang/StringUTF16" "LO_BYTE_SHIFT" "I" (.int (8 : Int32))) :
    MetFree l (⟨"java/lang/StringUTF16", "getChar", "([BI)C"⟩ : MethodName) (head1 (Jvm.Cond.code (⟨"java/lang/StringUTF16", "getChar", "([BI)C"⟩ : MethodName) jdk_52_method_5_code 2 (some .char) :: ws) ({ frames := 0, cells := 0, slots := 0, locals := 0 } : Room)) (fun a U => a = #[(.ref a1), (.int (0 : Int32))] ∧ Z.Warmed39 U.vm ∧ U.heap = h0) (fun _ _ _ _ _ => True) (fun _ U o U' => ∃ v L, o = .returned v ∧ Qgc_1_0 Z a1 k c0 h0 n0 v U'.heap L ∧ FrameEnd U o U' L ({ frames := 0, cells := 0, slots := 0, locals := 0 } : Room).cells ({ frames := 0, cells := 0, slots := 0, locals := 0 } : Room).slots) := by
  refine MetFree.of_bodySF (plainFor_of_name pn_java_lang_StringUTF16) hisR ?_
  intro p e s m args below meth c s₁ Bd hml0 hP hK
  obtain ⟨rfl, hZ, hh⟩ := hP
  have hx := Bd.exec
  have hby := Bd.bytes
  have hml : c.maxLocals = 2 := hml0
  have hown : s.vm.findClass "java/lang/StringUTF16" = some m.cls := findClass_of_methodNamed Bd.named
  have hnm := (name_of_methodNamed Bd.named Bd.method).1
  have X0 : Stand p l e ({ frames := 0, cells := 0, slots := 0, locals := 0 } : Room) s m #[(.ref a1), (.int (0 : Int32))] below meth c s₁ [] 0 0 := Stand.of_body Bd
  have e0 : s₁.heap = h0 := by rw [← hh, Bd.state]; rfl
  have es0 : s.heap = h0 := hh
  have N0 := Fr.nil n0
  show own_Fin p e below (Ggc_1_0 Z a1 k c0 h0 n0 s) (s₁.setTop (entryFrame m #[(.ref a1), (.int (0 : Int32))] 2))
  rw [ef_gc_1_0 m a1 (0 : Int32)]
  obtain ⟨T38, X38, e38, st38⟩ := getS2 X0 hx hZ hown (host := "") (Or.inl (hw _ (List.mem_of_getElem? (i := 92) rfl))) Via.refl e0 (S__assertionsDisabled.ext O0.2) (g := (mkF m 0 #[rv a1, iv (0 : Int32)] [])) rfl (hb hby d22_0)
  refine own_by st38 ?_
  show own_Fin _ _ _ _ (T38.setTop (mkF m 3 #[rv a1, iv (0 : Int32)] [(.int (1 : Int32))]))
  refine own_go (XS.ifYes X38.here hx rfl (pc0 := 3) (pc' := 28) rfl (hb hby d22_3) rfl ((if0 _ _).trans (feq (by decide : ¬ ((1 : Int32) = (0 : Int32)))).2) (by decide) (by decide) (Steps.refl _)) ?_
  show own_Fin _ _ _ _ (T38.setTop (mkF m 28 #[rv a1, iv (0 : Int32)] []))
  refine own_go (XS.iloadN X38.here hx rfl (hb hby d22_28) rfl (Steps.refl _)) ?_
  show own_Fin _ _ _ _ (T38.setTop (mkF m 29 #[rv a1, iv (0 : Int32)] [(.int (0 : Int32))]))
  refine own_go (XS.iconst X38.here hx rfl (hb hby d22_29) (Steps.refl _)) ?_
  show own_Fin _ _ _ _ (T38.setTop (mkF m 30 #[rv a1, iv (0 : Int32)] [(.int (1 : Int32)), (.int (0 : Int32))]))
  refine own_go (XS.ishl X38.here hx rfl (hb hby d22_30) rfl (Steps.refl _)) ?_
  show own_Fin _ _ _ _ (T38.setTop (mkF m 31 #[rv a1, iv (0 : Int32)] [(.int (0 : Int32))]))
  refine own_go (XS.istoreN X38.here hx rfl (hb hby d22_31) rfl rfl (Steps.refl _)) ?_
  show own_Fin _ _ _ _ (T38.setTop (mkF m 32 #[rv a1, iv (0 : Int32)] []))
  refine own_go (XS.aloadN X38.here hx rfl (hb hby d22_32) rfl rfl (Steps.refl _)) ?_
  show own_Fin _ _ _ _ (T38.setTop (mkF m 33 #[rv a1, iv (0 : Int32)] [(.ref a1)]))
  refine own_go (XS.iloadN X38.here hx rfl (hb hby d22_33) rfl (Steps.refl _)) ?_
  show own_Fin _ _ _ _ (T38.setTop (mkF m 34 #[rv a1, iv (0 : Int32)] [(.int (0 : Int32)), (.ref a1)]))
  refine own_go (XS.iinc X38.here hx rfl (hb hby d22_34) rfl rfl (Steps.refl _)) ?_
  show own_Fin _ _ _ _ (T38.setTop (mkF m 37 #[rv a1, iv (1 : Int32)] [(.int (0 : Int32)), (.ref a1)]))
  obtain ⟨cl39, Ar39, qa39, Sa39, Na39, Ha39, Ga39⟩ := id V_a1
  have hin39 : ¬ ((0 : Int32) < 0 ∨ cl39.slots.size ≤ ((0 : Int32)).toNatClampNeg) := inb_of Sa39 ⟨by decide, by decide⟩
  have hat39 : cl39.slots[((0 : Int32)).toNatClampNeg]? = some (.int (own_lb c0)) := Has.at Ha39 hin39 rfl
  refine own_by (X38.baloadBytes hx (j := (0 : Int32)) (v := (.int (own_lb c0))) (by rw [e38]; exact Ar39.1) (State.isArrayOf_alike hZ.alike Ar39.2.1) Ar39.2.2 hin39 hat39 (g := (mkF m 37 #[rv a1, iv (1 : Int32)] [(.int (0 : Int32)), (.ref a1)])) rfl rfl (hb hby d22_37)) ?_
  show own_Fin _ _ _ _ (T38.setTop (mkF m 38 #[rv a1, iv (1 : Int32)] [(.int (own_lb c0))]))
  refine own_go (XS.sipush X38.here hx rfl (hb hby d22_38) (Steps.refl _)) ?_
  show own_Fin _ _ _ _ (T38.setTop (mkF m 41 #[rv a1, iv (1 : Int32)] [(.int (255 : Int32)), (.int (own_lb c0))]))
  refine own_go (XS.iand X38.here hx rfl (hb hby d22_41) rfl (Steps.refl _)) ?_
  show own_Fin _ _ _ _ (T38.setTop (mkF m 42 #[rv a1, iv (1 : Int32)] [(.int ((own_lb c0) &&& (255 : Int32)))]))
  obtain ⟨T40, X40, e40, st40⟩ := getS2 X38 hx hZ hown (host := "") (Or.inl (hw _ (List.mem_of_getElem? (i := 93) rfl))) Via.refl e38 (S_HI_BYTE_SHIFT.ext O0.2) (g := (mkF m 42 #[rv a1, iv (1 : Int32)] [(.int ((own_lb c0) &&& (255 : Int32)))])) rfl (hb hby d22_42)
  refine own_by st40 ?_
  show own_Fin _ _ _ _ (T40.setTop (mkF m 45 #[rv a1, iv (1 : Int32)] [(.int (0 : Int32)), (.int ((own_lb c0) &&& (255 : Int32)))]))
  refine own_go (XS.ishl X40.here hx rfl (hb hby d22_45) rfl (Steps.refl _)) ?_
  show own_Fin _ _ _ _ (T40.setTop (mkF m 46 #[rv a1, iv (1 : Int32)] [(.int (((own_lb c0) &&& (255 : Int32)) <<< ((0 : Int32) &&& 31)))]))
  refine own_go (XS.aloadN X40.here hx rfl (hb hby d22_46) rfl rfl (Steps.refl _)) ?_
  show own_Fin _ _ _ _ (T40.setTop (mkF m 47 #[rv a1, iv (1 : Int32)] [(.ref a1), (.int (((own_lb c0) &&& (255 : Int32)) <<< ((0 : Int32) &&& 31)))]))
  refine own_go (XS.iloadN X40.here hx rfl (hb hby d22_47) rfl (Steps.refl _)) ?_
  show own_Fin _ _ _ _ (T40.setTop (mkF m 48 #[rv a1, iv (1 : Int32)] [(.int (1 : Int32)), (.ref a1), (.int (((own_lb c0) &&& (255 : Int32)) <<< ((0 : Int32) &&& 31)))]))
  obtain ⟨cl41, Ar41, qa41, Sa41, Na41, Ha41, Ga41⟩ := id V_a1
  have hin41 : ¬ ((1 : Int32) < 0 ∨ cl41.slots.size ≤ ((1 : Int32)).toNatClampNeg) := inb_of Sa41 ⟨by decide, by decide⟩
  have hat41 : cl41.slots[((1 : Int32)).toNatClampNeg]? = some (.int (own_hb c0)) := Has.at Ha41 hin41 rfl
  refine own_by (X40.baloadBytes hx (j := (1 : Int32)) (v := (.int (own_hb c0))) (by rw [e40]; exact Ar41.1) (State.isArrayOf_alike hZ.alike Ar41.2.1) Ar41.2.2 hin41 hat41 (g := (mkF m 48 #[rv a1, iv (1 : Int32)] [(.int (1 : Int32)), (.ref a1), (.int (((own_lb c0) &&& (255 : Int32)) <<< ((0 : Int32) &&& 31)))])) rfl rfl (hb hby d22_48)) ?_
  show own_Fin _ _ _ _ (T40.setTop (mkF m 49 #[rv a1, iv (1 : Int32)] [(.int (own_hb c0)), (.int (((own_lb c0) &&& (255 : Int32)) <<< ((0 : Int32) &&& 31)))]))
  refine own_go (XS.sipush X40.here hx rfl (hb hby d22_49) (Steps.refl _)) ?_
  show own_Fin _ _ _ _ (T40.setTop (mkF m 52 #[rv a1, iv (1 : Int32)] [(.int (255 : Int32)), (.int (own_hb c0)), (.int (((own_lb c0) &&& (255 : Int32)) <<< ((0 : Int32) &&& 31)))]))
  refine own_go (XS.iand X40.here hx rfl (hb hby d22_52) rfl (Steps.refl _)) ?_
  show own_Fin _ _ _ _ (T40.setTop (mkF m 53 #[rv a1, iv (1 : Int32)] [(.int ((own_hb c0) &&& (255 : Int32))), (.int (((own_lb c0) &&& (255 : Int32)) <<< ((0 : Int32) &&& 31)))]))
  obtain ⟨T42, X42, e42, st42⟩ := getS2 X40 hx hZ hown (host := "") (Or.inl (hw _ (List.mem_of_getElem? (i := 94) rfl))) Via.refl e40 (S_LO_BYTE_SHIFT.ext O0.2) (g := (mkF m 53 #[rv a1, iv (1 : Int32)] [(.int ((own_hb c0) &&& (255 : Int32))), (.int (((own_lb c0) &&& (255 : Int32)) <<< ((0 : Int32) &&& 31)))])) rfl (hb hby d22_53)
  refine own_by st42 ?_
  show own_Fin _ _ _ _ (T42.setTop (mkF m 56 #[rv a1, iv (1 : Int32)] [(.int (8 : Int32)), (.int ((own_hb c0) &&& (255 : Int32))), (.int (((own_lb c0) &&& (255 : Int32)) <<< ((0 : Int32) &&& 31)))]))
  refine own_go (XS.ishl X42.here hx rfl (hb hby d22_56) rfl (Steps.refl _)) ?_
  show own_Fin _ _ _ _ (T42.setTop (mkF m 57 #[rv a1, iv (1 : Int32)] [(.int (((own_hb c0) &&& (255 : Int32)) <<< ((8 : Int32) &&& 31))), (.int (((own_lb c0) &&& (255 : Int32)) <<< ((0 : Int32) &&& 31)))]))
  refine own_go (XS.ior X42.here hx rfl (hb hby d22_57) rfl (Steps.refl _)) ?_
  show own_Fin _ _ _ _ (T42.setTop (mkF m 58 #[rv a1, iv (1 : Int32)] [(.int ((((own_lb c0) &&& (255 : Int32)) <<< ((0 : Int32) &&& 31)) ||| (((own_hb c0) &&& (255 : Int32)) <<< ((8 : Int32) &&& 31))))]))
  refine own_go (XS.i2c X42.here hx rfl (hb hby d22_58) rfl (Steps.refl _)) ?_
  show own_Fin _ _ _ _ (T42.setTop (mkF m 59 #[rv a1, iv (1 : Int32)] [(.int (((((own_lb c0) &&& (255 : Int32)) <<< ((0 : Int32) &&& 31)) ||| (((own_hb c0) &&& (255 : Int32)) <<< ((8 : Int32) &&& 31))).toUInt32.toUInt16.toUInt32.toInt32))]))
  obtain ⟨fs43, hr43, hrun43, hended43, hW43, hsame43⟩ := X42.leave (v := some (.int (nar .char (((((own_lb c0) &&& (255 : Int32)) <<< ((0 : Int32) &&& 31)) ||| (((own_hb c0) &&& (255 : Int32)) <<< ((8 : Int32) &&& 31))).toUInt32.toUInt16.toUInt32.toInt32)))) (fun h => by rw [Bd.returns] at h; cases h)
  refine own_done (retN X42 hx (t := .char) Bd.returns (by simp) (hb hby d22_59) hr43) hrun43 hended43 ⟨_, _, rfl, ?_, ⟨_, rfl⟩, hW43, hsame43.mono (by decide) (by decide)⟩
  show Qgc_1_0 Z a1 k c0 h0 n0 _ T42.heap _
  rw [e42]
  exact ⟨(by rw [own_gc hr]), N0, rfl⟩
theorem d7_0 : decode jdk_52_method_15_code 0 = .ok (.iload_n 1, 1) := by decide +kernel
theorem d7_1 : decode jdk_52_method_15_code 1 = .ok (.aload_n 0, 1) := by decide +kernel
theorem d7_2 : decode jdk_52_method_15_code 2 = .ok (.arraylength, 1) := by decide +kernel
theorem d7_3 : decode jdk_52_method_15_code 3 = .ok (.isub, 1) := by decide +kernel
theorem d7_4 : decode jdk_52_method_15_code 4 = .ok (.bipush 31, 2) := by decide +kernel
theorem d7_6 : decode jdk_52_method_15_code 6 = .ok (.iushr, 1) := by decide +kernel
theorem d7_7 : decode jdk_52_method_15_code 7 = .ok (.i2b, 1) := by decide +kernel
theorem d7_8 : decode jdk_52_method_15_code 8 = .ok (.ireturn, 1) := by decide +kernel
theorem ef_cfu_1 (m : MethodId) (x0 : Addr) (x1 : Int32) : entryFrame m #[(.ref x0), (.int x1)] 2 = mkF m 0 #[.val (.ref x0), .val (.int x1)] [] := by first | (simp [entryFrame, mkF, argsToLocals, Value.category]; done) | rfl
def Qcfu_1 (Z : State) (a1 : Addr) (k : ClassId) (c0 : Int32) (h0 : Heap) (n0 : Nat) (v : Option Value) (h : Heap) (L : List Loc) : Prop := v = some (.int (1 : Int32)) ∧ Fr n0 L ∧ h = h0
abbrev Gcfu_1 (Z : State) (a1 : Addr) (k : ClassId) (c0 : Int32) (h0 : Heap) (n0 : Nat) (s : State) : Outcome → State → Prop := fun o U' => ∃ v L, o = .returned v ∧ Qcfu_1 Z a1 k c0 h0 n0 v U'.heap L ∧ FrameEnd s o U' L ({ frames := 0, cells := 0, slots := 0, locals := 0 } : Room).cells ({ frames := 0, cells := 0, slots := 0, locals := 0 } : Room).slots
set_option maxRecDepth 65536 in
set_option maxHeartbeats 40000000 in
theorem rmcfu_1 (l : Launch) (Z : State) (a0 : Array Value) (hw : ∀ d ∈ tables_1, d.before a0 Z = true) (ws : List Jvm.Cond) (a1 : Addr) (k : ClassId) (c0 : Int32) (h0 : Heap) (n0 : Nat) (Z0 : n0 ≤ h0.size) (V_a1 : Arv Z h0 a1 k .byte (2 : Int32) [(.int (own_lb c0)), (.int (own_hb c0))] (.int (0 : Int32))) :
    MetFree l (⟨"java/lang/StringUTF16", "coderFromArrayLen", "([BI)B"⟩ : MethodName) (head1 (Jvm.Cond.code (⟨"java/lang/StringUTF16", "coderFromArrayLen", "([BI)B"⟩ : MethodName) jdk_52_method_15_code 2 (some .byte) :: ws) ({ frames := 0, cells := 0, slots := 0, locals := 0 } : Room)) (fun a U => a = #[(.ref a1), (.int (1 : Int32))] ∧ Z.Warmed39 U.vm ∧ U.heap = h0) (fun _ _ _ _ _ => True) (fun _ U o U' => ∃ v L, o = .returned v ∧ Qcfu_1 Z a1 k c0 h0 n0 v U'.heap L ∧ FrameEnd U o U' L ({ frames := 0, cells := 0, slots := 0, locals := 0 } : Room).cells ({ frames := 0, cells := 0, slots := 0, locals := 0 } : Room).slots) := by
  refine MetFree.of_bodySF (plainFor_of_name pn_java_lang_StringUTF16) hisR ?_
  intro p e s m args below meth c s₁ Bd hml0 hP hK
  obtain ⟨rfl, hZ, hh⟩ := hP
  have hx := Bd.exec
  have hby := Bd.bytes
  have hml : c.maxLocals = 2 := hml0
  have hown : s.vm.findClass "java/lang/StringUTF16" = some m.cls := findClass_of_methodNamed Bd.named
  have hnm := (name_of_methodNamed Bd.named Bd.method).1
  have X0 : Stand p l e ({ frames := 0, cells := 0, slots := 0, locals := 0 } : Room) s m #[(.ref a1), (.int (1 : Int32))] below meth c s₁ [] 0 0 := Stand.of_body Bd
  have e0 : s₁.heap = h0 := by rw [← hh, Bd.state]; rfl
  have es0 : s.heap = h0 := hh
  have N0 := Fr.nil n0
  show own_Fin p e below (Gcfu_1 Z a1 k c0 h0 n0 s) (s₁.setTop (entryFrame m #[(.ref a1), (.int (1 : Int32))] 2))
  rw [ef_cfu_1 m a1 (1 : Int32)]
  refine own_go (XS.iloadN X0.here hx rfl (hb hby d7_0) rfl (Steps.refl _)) ?_
  show own_Fin _ _ _ _ (s₁.setTop (mkF m 1 #[rv a1, iv (1 : Int32)] [(.int (1 : Int32))]))
  refine own_go (XS.aloadN X0.here hx rfl (hb hby d7_1) rfl rfl (Steps.refl _)) ?_
  show own_Fin _ _ _ _ (s₁.setTop (mkF m 2 #[rv a1, iv (1 : Int32)] [(.ref a1), (.int (1 : Int32))]))
  obtain ⟨cl44, Ar44, qa44, Sa44, Na44, Ha44, Ga44⟩ := id V_a1
  refine own_by (X0.arraylength hx (by rw [e0]; exact Ar44.1) (State.isArrayOf_alike hZ.alike Ar44.2.1) (g := (mkF m 2 #[rv a1, iv (1 : Int32)] [(.ref a1), (.int (1 : Int32))])) rfl rfl (hb hby d7_2)) ?_
  rw [len_of Sa44 Na44]
  show own_Fin _ _ _ _ (s₁.setTop (mkF m 3 #[rv a1, iv (1 : Int32)] [(.int (2 : Int32)), (.int (1 : Int32))]))
  refine own_go (XS.isub X0.here hx rfl (hb hby d7_3) rfl (Steps.refl _)) ?_
  show own_Fin _ _ _ _ (s₁.setTop (mkF m 4 #[rv a1, iv (1 : Int32)] [(.int (-1 : Int32))]))
  refine own_go (XS.bipush X0.here hx rfl (hb hby d7_4) (Steps.refl _)) ?_
  show own_Fin _ _ _ _ (s₁.setTop (mkF m 6 #[rv a1, iv (1 : Int32)] [(.int (31 : Int32)), (.int (-1 : Int32))]))
  refine own_go (XS.iushr X0.here hx rfl (hb hby d7_6) rfl (Steps.refl _)) ?_
  show own_Fin _ _ _ _ (s₁.setTop (mkF m 7 #[rv a1, iv (1 : Int32)] [(.int (1 : Int32))]))
  refine own_go (XS.i2b X0.here hx rfl (hb hby d7_7) rfl (Steps.refl _)) ?_
  show own_Fin _ _ _ _ (s₁.setTop (mkF m 8 #[rv a1, iv (1 : Int32)] [(.int ((1 : Int32).toInt8.toInt32))]))
  obtain ⟨fs45, hr45, hrun45, hended45, hW45, hsame45⟩ := X0.leave (v := some (.int (nar .byte ((1 : Int32).toInt8.toInt32)))) (fun h => by rw [Bd.returns] at h; cases h)
  refine own_done (retN X0 hx (t := .byte) Bd.returns (by simp) (hb hby d7_8) hr45) hrun45 hended45 ⟨_, _, rfl, ?_, ⟨_, rfl⟩, hW45, hsame45.mono (by decide) (by decide)⟩
  show Qcfu_1 Z a1 k c0 h0 n0 _ s₁.heap _
  rw [e0]
  exact ⟨(by decide), N0, rfl⟩
theorem ef_cmu_1_0 (m : MethodId) (x0 : Addr) (x1 : Int32) (x2 : Addr) (x3 : Int32) (x4 : Int32) : entryFrame m #[(.ref x0), (.int x1), (.ref x2), (.int x3), (.int x4)] 7 = mkF m 0 #[.val (.ref x0), .val (.int x1), .val (.ref x2), .val (.int x3), .val (.int x4), .unset, .unset] [] := by first | (simp [entryFrame, mkF, argsToLocals, Value.category]; done) | rfl
def Qcmu_1_0 (Z : State) (a1 : Addr) (k : ClassId) (a3 : Addr) (kb : ClassId) (c0 : Int32) (h0 : Heap) (n0 : Nat) (v : Option Value) (h : Heap) (L : List Loc) : Prop := v = some (.int (0 : Int32)) ∧ Fr n0 L ∧ Keep h0 h [a3]
abbrev Gcmu_1_0 (Z : State) (a1 : Addr) (k : ClassId) (a3 : Addr) (kb : ClassId) (c0 : Int32) (h0 : Heap) (n0 : Nat) (s : State) : Outcome → State → Prop := fun o U' => ∃ v L, o = .returned v ∧ Qcmu_1_0 Z a1 k a3 kb c0 h0 n0 v U'.heap L ∧ FrameEnd s o U' L ({ frames := 0, cells := 0, slots := 0, locals := 0 } : Room).cells ({ frames := 0, cells := 0, slots := 0, locals := 0 } : Room).slots
set_option maxRecDepth 65536 in
set_option maxHeartbeats 40000000 in
theorem rmcmu_1_0 (l : Launch) (Z : State) (a0 : Array Value) (hw : ∀ d ∈ tables_1, d.before a0 Z = true) (ws : List Jvm.Cond) (a1 : Addr) (k : ClassId) (a3 : Addr) (kb : ClassId) (c0 : Int32) (h0 : Heap) (n0 : Nat) (Z0 : n0 ≤ h0.size) (V_a1 : Arv Z h0 a1 k .char (1 : Int32) [(.int c0)] (.int (0 : Int32))) (V_a3 : Arv Z h0 a3 kb .byte (1 : Int32) [(.int (0 : Int32))] (.int (0 : Int32))) (g_a3 : n0 ≤ a3) (ne13 : a1 ≠ a3) (hg0 : (255 : Int32) < c0) :
    MetFree l (⟨"java/lang/StringUTF16", "compress", "([CI[BII)I"⟩ : MethodName) (head1 (Jvm.Cond.code (⟨"java/lang/StringUTF16", "compress", "([CI[BII)I"⟩ : MethodName) jdk_52_method_21_code 7 (some .int) :: ws) ({ frames := 0, cells := 0, slots := 0, locals := 0 } : Room)) (fun a U => a = #[(.ref a1), (.int (0 : Int32)), (.ref a3), (.int (0 : Int32)), (.int (1 : Int32))] ∧ Z.Warmed39 U.vm ∧ U.heap = h0) (fun _ _ _ _ _ => True) (fun _ U o U' => ∃ v L, o = .returned v ∧ Qcmu_1_0 Z a1 k a3 kb c0 h0 n0 v U'.heap L ∧ FrameEnd U o U' L ({ frames := 0, cells := 0, slots := 0, locals := 0 } : Room).cells ({ frames := 0, cells := 0, slots := 0, locals := 0 } : Room).slots) := by
  refine MetFree.of_bodySF (plainFor_of_name pn_java_lang_StringUTF16) hisR ?_
  intro p e s m args below meth c s₁ Bd hml0 hP hK
  obtain ⟨rfl, hZ, hh⟩ := hP
  have hx := Bd.exec
  have hby := Bd.bytes
  have hml : c.maxLocals = 7 := hml0
  have hown : s.vm.findClass "java/lang/StringUTF16" = some m.cls := findClass_of_methodNamed Bd.named
  have hnm := (name_of_methodNamed Bd.named Bd.method).1
  have X0 : Stand p l e ({ frames := 0, cells := 0, slots := 0, locals := 0 } : Room) s m #[(.ref a1), (.int (0 : Int32)), (.ref a3), (.int (0 : Int32)), (.int (1 : Int32))] below meth c s₁ [] 0 0 := Stand.of_body Bd
  have e0 : s₁.heap = h0 := by rw [← hh, Bd.state]; rfl
  have es0 : s.heap = h0 := hh
  have N0 := Fr.nil n0
  show own_Fin p e below (Gcmu_1_0 Z a1 k a3 kb c0 h0 n0 s) (s₁.setTop (entryFrame m #[(.ref a1), (.int (0 : Int32)), (.ref a3), (.int (0 : Int32)), (.int (1 : Int32))] 7))
  rw [ef_cmu_1_0 m a1 (0 : Int32) a3 (0 : Int32) (1 : Int32)]
  have Kz := Keep.refl h0 [a3]
  refine own_go (XS.iconst X0.here hx rfl (hb hby d6_0) (Steps.refl _)) ?_
  show own_Fin _ _ _ _ (s₁.setTop (mkF m 1 #[rv a1, iv (0 : Int32), rv a3, iv (0 : Int32), iv (1 : Int32), .unset, .unset] [(.int (0 : Int32))]))
  refine own_go (XS.istore X0.here hx rfl (hb hby d6_1) rfl rfl (Steps.refl _)) ?_
  show own_Fin _ _ _ _ (s₁.setTop (mkF m 3 #[rv a1, iv (0 : Int32), rv a3, iv (0 : Int32), iv (1 : Int32), iv (0 : Int32), .unset] []))
  refine own_go (XS.iload X0.here hx rfl (hb hby d6_3) rfl (Steps.refl _)) ?_
  show own_Fin _ _ _ _ (s₁.setTop (mkF m 5 #[rv a1, iv (0 : Int32), rv a3, iv (0 : Int32), iv (1 : Int32), iv (0 : Int32), .unset] [(.int (0 : Int32))]))
  refine own_go (XS.iload X0.here hx rfl (hb hby d6_5) rfl (Steps.refl _)) ?_
  show own_Fin _ _ _ _ (s₁.setTop (mkF m 7 #[rv a1, iv (0 : Int32), rv a3, iv (0 : Int32), iv (1 : Int32), iv (0 : Int32), .unset] [(.int (1 : Int32)), (.int (0 : Int32))]))
  refine own_go (XS.icmpNo X0.here hx rfl (hb hby d6_7) rfl (tlt (by decide : (0 : Int32) < (1 : Int32))).2.1 (Steps.refl _)) ?_
  show own_Fin _ _ _ _ (s₁.setTop (mkF m 10 #[rv a1, iv (0 : Int32), rv a3, iv (0 : Int32), iv (1 : Int32), iv (0 : Int32), .unset] []))
  refine own_go (XS.aloadN X0.here hx rfl (hb hby d6_10) rfl rfl (Steps.refl _)) ?_
  show own_Fin _ _ _ _ (s₁.setTop (mkF m 11 #[rv a1, iv (0 : Int32), rv a3, iv (0 : Int32), iv (1 : Int32), iv (0 : Int32), .unset] [(.ref a1)]))
  refine own_go (XS.iloadN X0.here hx rfl (hb hby d6_11) rfl (Steps.refl _)) ?_
  show own_Fin _ _ _ _ (s₁.setTop (mkF m 12 #[rv a1, iv (0 : Int32), rv a3, iv (0 : Int32), iv (1 : Int32), iv (0 : Int32), .unset] [(.int (0 : Int32)), (.ref a1)]))
  obtain ⟨cl46, Ar46, qa46, Sa46, Na46, Ha46, Ga46⟩ := id V_a1
  have hin46 : ¬ ((0 : Int32) < 0 ∨ cl46.slots.size ≤ ((0 : Int32)).toNatClampNeg) := inb_of Sa46 ⟨by decide, by decide⟩
  have hat46 : cl46.slots[((0 : Int32)).toNatClampNeg]? = some (.int c0) := Has.at Ha46 hin46 rfl
  refine own_by (X0.caload hx (j := (0 : Int32)) (v := (.int c0)) (by rw [e0]; exact Ar46.1) (State.isArrayOf_alike hZ.alike Ar46.2.1) Ar46.2.2 hin46 hat46 (g := (mkF m 12 #[rv a1, iv (0 : Int32), rv a3, iv (0 : Int32), iv (1 : Int32), iv (0 : Int32), .unset] [(.int (0 : Int32)), (.ref a1)])) rfl rfl (hb hby d6_12)) ?_
  show own_Fin _ _ _ _ (s₁.setTop (mkF m 13 #[rv a1, iv (0 : Int32), rv a3, iv (0 : Int32), iv (1 : Int32), iv (0 : Int32), .unset] [(.int c0)]))
  refine own_go (XS.istore X0.here hx rfl (hb hby d6_13) rfl rfl (Steps.refl _)) ?_
  show own_Fin _ _ _ _ (s₁.setTop (mkF m 15 #[rv a1, iv (0 : Int32), rv a3, iv (0 : Int32), iv (1 : Int32), iv (0 : Int32), iv c0] []))
  refine own_go (XS.iload X0.here hx rfl (hb hby d6_15) rfl (Steps.refl _)) ?_
  show own_Fin _ _ _ _ (s₁.setTop (mkF m 17 #[rv a1, iv (0 : Int32), rv a3, iv (0 : Int32), iv (1 : Int32), iv (0 : Int32), iv c0] [(.int c0)]))
  refine own_go (XS.sipush X0.here hx rfl (hb hby d6_17) (Steps.refl _)) ?_
  show own_Fin _ _ _ _ (s₁.setTop (mkF m 20 #[rv a1, iv (0 : Int32), rv a3, iv (0 : Int32), iv (1 : Int32), iv (0 : Int32), iv c0] [(.int (255 : Int32)), (.int c0)]))
  refine own_go (XS.icmpNo X0.here hx rfl (hb hby d6_20) rfl (tlt (show (255 : Int32) < c0 from hg0)).2.2.2 (Steps.refl _)) ?_
  show own_Fin _ _ _ _ (s₁.setTop (mkF m 23 #[rv a1, iv (0 : Int32), rv a3, iv (0 : Int32), iv (1 : Int32), iv (0 : Int32), iv c0] []))
  refine own_go (XS.iload X0.here hx rfl (hb hby d6_23) rfl (Steps.refl _)) ?_
  show own_Fin _ _ _ _ (s₁.setTop (mkF m 25 #[rv a1, iv (0 : Int32), rv a3, iv (0 : Int32), iv (1 : Int32), iv (0 : Int32), iv c0] [(.int (0 : Int32))]))
  obtain ⟨fs47, hr47, hrun47, hended47, hW47, hsame47⟩ := X0.leave (v := some (.int (0 : Int32))) (fun h => by rw [Bd.returns] at h; cases h)
  refine own_done (own_retI X0 hx Bd.returns (hb hby d6_25) hr47) hrun47 hended47 ⟨_, _, rfl, ?_, ⟨_, rfl⟩, hW47, hsame47.mono (by decide) (by decide)⟩
  show Qcmu_1_0 Z a1 k a3 kb c0 h0 n0 _ s₁.heap _
  rw [e0]
  exact ⟨rfl, N0, Kz⟩
theorem ef_nl_2 (m : MethodId) (x0 : Int32) : entryFrame m #[(.int x0)] 1 = mkF m 0 #[.val (.int x0)] [] := by first | (simp [entryFrame, mkF, argsToLocals, Value.category]; done) | rfl
def Qnl_2 (Z : State)  (h0 : Heap) (n0 : Nat) (v : Option Value) (h : Heap) (L : List Loc) : Prop := v = some (.int (4 : Int32)) ∧ Fr n0 L ∧ h = h0
abbrev Gnl_2 (Z : State)  (h0 : Heap) (n0 : Nat) (s : State) : Outcome → State → Prop := fun o U' => ∃ v L, o = .returned v ∧ Qnl_2 Z  h0 n0 v U'.heap L ∧ FrameEnd s o U' L ({ frames := 0, cells := 0, slots := 0, locals := 0 } : Room).cells ({ frames := 0, cells := 0, slots := 0, locals := 0 } : Room).slots
set_option maxRecDepth 65536 in
set_option maxHeartbeats 40000000 in
theorem rmnl_2 (l : Launch) (Z : State) (a0 : Array Value) (hw : ∀ d ∈ tables_1, d.before a0 Z = true) (ws : List Jvm.Cond)  (h0 : Heap) (n0 : Nat) (Z0 : n0 ≤ h0.size)  :
    MetFree l (⟨"java/lang/StringUTF16", "newBytesLength", "(I)I"⟩ : MethodName) (head1 (Jvm.Cond.code (⟨"java/lang/StringUTF16", "newBytesLength", "(I)I"⟩ : MethodName) jdk_52_method_3_code 1 (some .int) :: ws) ({ frames := 0, cells := 0, slots := 0, locals := 0 } : Room)) (fun a U => a = #[(.int (2 : Int32))] ∧ Z.Warmed39 U.vm ∧ U.heap = h0) (fun _ _ _ _ _ => True) (fun _ U o U' => ∃ v L, o = .returned v ∧ Qnl_2 Z  h0 n0 v U'.heap L ∧ FrameEnd U o U' L ({ frames := 0, cells := 0, slots := 0, locals := 0 } : Room).cells ({ frames := 0, cells := 0, slots := 0, locals := 0 } : Room).slots) := by
  refine MetFree.of_bodySF (plainFor_of_name pn_java_lang_StringUTF16) hisR ?_
  intro p e s m args below meth c s₁ Bd hml0 hP hK
  obtain ⟨rfl, hZ, hh⟩ := hP
  have hx := Bd.exec
  have hby := Bd.bytes
  have hml : c.maxLocals = 1 := hml0
  have hown : s.vm.findClass "java/lang/StringUTF16" = some m.cls := findClass_of_methodNamed Bd.named
  have hnm := (name_of_methodNamed Bd.named Bd.method).1
  have X0 : Stand p l e ({ frames := 0, cells := 0, slots := 0, locals := 0 } : Room) s m #[(.int (2 : Int32))] below meth c s₁ [] 0 0 := Stand.of_body Bd
  have e0 : s₁.heap = h0 := by rw [← hh, Bd.state]; rfl
  have es0 : s.heap = h0 := hh
  have N0 := Fr.nil n0
  show own_Fin p e below (Gnl_2 Z  h0 n0 s) (s₁.setTop (entryFrame m #[(.int (2 : Int32))] 1))
  rw [ef_nl_2 m (2 : Int32)]
  refine own_go (XS.iloadN X0.here hx rfl (hb hby d20_0) rfl (Steps.refl _)) ?_
  show own_Fin _ _ _ _ (s₁.setTop (mkF m 1 #[iv (2 : Int32)] [(.int (2 : Int32))]))
  refine own_go (XS.ifYes X0.here hx rfl (pc0 := 1) (pc' := 12) rfl (hb hby d20_1) rfl ((if0 _ _).trans (flt (by decide : ¬ ((2 : Int32) < (0 : Int32)))).2.1) (by decide) (by decide) (Steps.refl _)) ?_
  show own_Fin _ _ _ _ (s₁.setTop (mkF m 12 #[iv (2 : Int32)] []))
  refine own_go (XS.iloadN X0.here hx rfl (hb hby d20_12) rfl (Steps.refl _)) ?_
  show own_Fin _ _ _ _ (s₁.setTop (mkF m 13 #[iv (2 : Int32)] [(.int (2 : Int32))]))
  refine own_by (X0.ldcInt hx hown (mvT hZ (hw _ (List.mem_of_getElem? (i := 88) rfl))) (g := (mkF m 13 #[iv (2 : Int32)] [(.int (2 : Int32))])) rfl (hb hby d20_13)) ?_
  show own_Fin _ _ _ _ (s₁.setTop (mkF m 15 #[iv (2 : Int32)] [(.int (1073741823 : Int32)), (.int (2 : Int32))]))
  refine own_go (XS.icmpYes X0.here hx rfl (pc0 := 15) (pc' := 55) rfl (hb hby d20_15) rfl (tlt (by decide : (2 : Int32) < (1073741823 : Int32))).1 (by decide) (by decide) (Steps.refl _)) ?_
  show own_Fin _ _ _ _ (s₁.setTop (mkF m 55 #[iv (2 : Int32)] []))
  refine own_go (XS.iloadN X0.here hx rfl (hb hby d20_55) rfl (Steps.refl _)) ?_
  show own_Fin _ _ _ _ (s₁.setTop (mkF m 56 #[iv (2 : Int32)] [(.int (2 : Int32))]))
  refine own_go (XS.iconst X0.here hx rfl (hb hby d20_56) (Steps.refl _)) ?_
  show own_Fin _ _ _ _ (s₁.setTop (mkF m 57 #[iv (2 : Int32)] [(.int (1 : Int32)), (.int (2 : Int32))]))
  refine own_go (XS.ishl X0.here hx rfl (hb hby d20_57) rfl (Steps.refl _)) ?_
  show own_Fin _ _ _ _ (s₁.setTop (mkF m 58 #[iv (2 : Int32)] [(.int (4 : Int32))]))
  obtain ⟨fs48, hr48, hrun48, hended48, hW48, hsame48⟩ := X0.leave (v := some (.int (4 : Int32))) (fun h => by rw [Bd.returns] at h; cases h)
  refine own_done (own_retI X0 hx Bd.returns (hb hby d20_58) hr48) hrun48 hended48 ⟨_, _, rfl, ?_, ⟨_, rfl⟩, hW48, hsame48.mono (by decide) (by decide)⟩
  show Qnl_2 Z  h0 n0 _ s₁.heap _
  rw [e0]
  exact ⟨rfl, N0, rfl⟩
theorem ef_nf_2 (m : MethodId) (x0 : Int32) : entryFrame m #[(.int x0)] 1 = mkF m 0 #[.val (.int x0)] [] := by first | (simp [entryFrame, mkF, argsToLocals, Value.category]; done) | rfl
def Qnf_2 (Z : State)  (h0 : Heap) (n0 : Nat) (v : Option Value) (h : Heap) (L : List Loc) : Prop := ∃ (b : Addr) (kb : ClassId), v = some (.ref b) ∧ Fr n0 L ∧ Keep h0 h [] ∧ n0 ≤ b ∧ h0.size ≤ b ∧ Arv Z h b kb .byte (4 : Int32) [(.int (0 : Int32)), (.int (0 : Int32)), (.int (0 : Int32)), (.int (0 : Int32))] (.int (0 : Int32))
abbrev Gnf_2 (Z : State)  (h0 : Heap) (n0 : Nat) (s : State) : Outcome → State → Prop := fun o U' => ∃ v L, o = .returned v ∧ Qnf_2 Z  h0 n0 v U'.heap L ∧ FrameEnd s o U' L ({ frames := 1, cells := 1, slots := 4, locals := 16 } : Room).cells ({ frames := 1, cells := 1, slots := 4, locals := 16 } : Room).slots
set_option maxRecDepth 65536 in
set_option maxHeartbeats 40000000 in
theorem rmnf_2 (l : Launch) (Z : State) (a0 : Array Value) (hw : ∀ d ∈ tables_1, d.before a0 Z = true) (ws : List Jvm.Cond)  (h0 : Heap) (n0 : Nat) (Z0 : n0 ≤ h0.size)  :
    MetFree l (⟨"java/lang/StringUTF16", "newBytesFor", "(I)[B"⟩ : MethodName) (head1 (Jvm.Cond.code (⟨"java/lang/StringUTF16", "newBytesFor", "(I)[B"⟩ : MethodName) jdk_52_method_2_code 1 (some (.array .byte)) :: ws) ({ frames := 1, cells := 1, slots := 4, locals := 16 } : Room)) (fun a U => a = #[(.int (2 : Int32))] ∧ Z.Warmed39 U.vm ∧ U.heap = h0) (fun _ _ _ _ _ => True) (fun _ U o U' => ∃ v L, o = .returned v ∧ Qnf_2 Z  h0 n0 v U'.heap L ∧ FrameEnd U o U' L ({ frames := 1, cells := 1, slots := 4, locals := 16 } : Room).cells ({ frames := 1, cells := 1, slots := 4, locals := 16 } : Room).slots) := by
  refine MetFree.of_bodySF (plainFor_of_name pn_java_lang_StringUTF16) hisR ?_
  intro p e s m args below meth c s₁ Bd hml0 hP hK
  obtain ⟨rfl, hZ, hh⟩ := hP
  have hx := Bd.exec
  have hby := Bd.bytes
  have hml : c.maxLocals = 1 := hml0
  have hown : s.vm.findClass "java/lang/StringUTF16" = some m.cls := findClass_of_methodNamed Bd.named
  have hnm := (name_of_methodNamed Bd.named Bd.method).1
  have X0 : Stand p l e ({ frames := 1, cells := 1, slots := 4, locals := 16 } : Room) s m #[(.int (2 : Int32))] below meth c s₁ [] 0 0 := Stand.of_body Bd
  have e0 : s₁.heap = h0 := by rw [← hh, Bd.state]; rfl
  have es0 : s.heap = h0 := hh
  have N0 := Fr.nil n0
  show own_Fin p e below (Gnf_2 Z  h0 n0 s) (s₁.setTop (entryFrame m #[(.int (2 : Int32))] 1))
  rw [ef_nf_2 m (2 : Int32)]
  have Kz := Keep.refl h0 []
  refine own_go (XS.iloadN X0.here hx rfl (hb hby d19_0) rfl (Steps.refl _)) ?_
  show own_Fin _ _ _ _ (s₁.setTop (mkF m 1 #[iv (2 : Int32)] [(.int (2 : Int32))]))
  obtain ⟨_, _, ⟨T49, L49, k49, n49⟩, -, X49, ⟨Lc49, hQ49, l49, y49, z49⟩, st49⟩ := Jvm.LawKit.callS X0 hx (y := (⟨"java/lang/StringUTF16", "newBytesLength", "(I)I"⟩ : MethodName)) hown (mvT hZ (hw _ (List.mem_of_getElem? (i := 85) rfl))) (mvT hZ (hw _ (List.mem_of_getElem? (i := 86) rfl))) (mvT hZ (hw _ (List.mem_of_getElem? (i := 21) rfl))) (mvT hZ (hw _ (List.mem_of_getElem? (i := 87) rfl))) (by decide) (backOf (W := 0) (rmnl_2 l Z a0 hw []  h0 n0 Z0) hZ (hw _ (List.mem_of_getElem? (i := 87) rfl)) (hw _ (List.mem_of_getElem? (i := 21) rfl)) (by decide) (by decide)) (g := (mkF m 1 #[iv (2 : Int32)] [(.int (2 : Int32))])) rfl (by rw [hml]; rfl) (argsL := [(.int (2 : Int32))]) (rest := []) (lenOf pd__28_I_29_I rfl) rfl (by show 2 * 0 + _ ≤ _; exact Nat.le_of_eq rfl) (hb hby d19_1) (fun _ hv => ⟨rfl, e0, (by decide : 0 + 0 ≤ _), (by decide : 0 + 0 ≤ _)⟩)
  dsimp only [Pt.U, Pt.locs, Pt.cells, Pt.slots] at X49 l49 y49 z49 st49 hQ49
  subst l49 y49 z49
  obtain ⟨rfl, Nq49, e49⟩ := hQ49
  refine own_by st49 ?_
  have N49 := Fr.app N0 Nq49
  show own_Fin _ _ _ _ (T49.setTop (mkF m 4 #[iv (2 : Int32)] [(.int (4 : Int32))]))
  obtain ⟨T50, h50, k50, X50, e50, E50, A50, st50⟩ := newP X49 hx hZ (hw _ (List.mem_of_getElem? (i := 23) rfl)) e49 (g := (mkF m 4 #[iv (2 : Int32)] [(.int (4 : Int32))])) rfl (hb hby d19_4) rfl (by decide) (cap := 4) (by decide) (by decide) (by decide) (by decide)
  obtain ⟨b50, g50⟩ : ∃ z, z = h0.size := ⟨_, rfl⟩
  rw [← g50] at A50 st50
  refine own_by st50 ?_
  have g_b50 : n0 ≤ b50 := Nat.le_trans Z0 (Nat.le_of_eq g50.symm)
  have sz_b50 : h0.size ≤ b50 := Nat.le_trans Kz.1 (Nat.le_of_eq g50.symm)
  have K50 := Kz.ext E50
  have Z50 : n0 ≤ h50.size := Nat.le_trans Z0 E50.1
  have V_b50 : Arv Z h50 b50 k50 .byte (4 : Int32) [(.int (0 : Int32)), (.int (0 : Int32)), (.int (0 : Int32)), (.int (0 : Int32))] (.int (0 : Int32)) := (Arv.new A50 (by decide)).pad (pad_rep [] (.int (0 : Int32)) 4)
  show own_Fin _ _ _ _ (T50.setTop (mkF m 6 #[iv (2 : Int32)] [(.ref b50)]))
  obtain ⟨fs51, hr51, hrun51, hended51, hW51, hsame51⟩ := X50.leave (v := some (.ref b50)) (fun h => by rw [Bd.returns] at h; cases h)
  refine own_done (retOut X50 hx Bd.returns rfl (Or.inr (Or.inr (Or.inr (Or.inr ⟨rfl, rfl, rfl⟩)))) (hb hby d19_6) hr51) hrun51 hended51 ⟨_, _, rfl, ?_, ⟨_, rfl⟩, hW51, hsame51.mono (by decide) (by decide)⟩
  show Qnf_2 Z  h0 n0 _ T50.heap _
  rw [e50]
  exact ⟨b50, k50, rfl, N49, K50, g_b50, sz_b50, V_b50⟩
theorem ef_pc_2_0 (m : MethodId) (x0 : Addr) (x1 : Int32) (x2 : Int32) : entryFrame m #[(.ref x0), (.int x1), (.int x2)] 3 = mkF m 0 #[.val (.ref x0), .val (.int x1), .val (.int x2)] [] := by first | (simp [entryFrame, mkF, argsToLocals, Value.category]; done) | rfl
def Qpc_2_0 (Z : State) (a1 : Addr) (k : ClassId) (x : Int32) (y0 : Int32) (y1 : Int32) (y2 : Int32) (y3 : Int32) (h0 : Heap) (n0 : Nat) (v : Option Value) (h : Heap) (L : List Loc) : Prop := v = none ∧ Fr n0 L ∧ Keep h0 h [a1] ∧ Arv Z h a1 k .byte (4 : Int32) [(.int (own_lb x)), (.int (own_hb x)), (.int y2), (.int y3)] (.int (0 : Int32))
abbrev Gpc_2_0 (Z : State) (a1 : Addr) (k : ClassId) (x : Int32) (y0 : Int32) (y1 : Int32) (y2 : Int32) (y3 : Int32) (h0 : Heap) (n0 : Nat) (s : State) : Outcome → State → Prop := fun o U' => ∃ v L, o = .returned v ∧ Qpc_2_0 Z a1 k x y0 y1 y2 y3 h0 n0 v U'.heap L ∧ FrameEnd s o U' L ({ frames := 0, cells := 0, slots := 0, locals := 0 } : Room).cells ({ frames := 0, cells := 0, slots := 0, locals := 0 } : Room).slots
set_option maxRecDepth 65536 in
set_option maxHeartbeats 40000000 in
theorem rmpc_2_0 (l : Launch) (Z : State) (a0 : Array Value) (hw : ∀ d ∈ tables_1, d.before a0 Z = true) (ws : List Jvm.Cond) (a1 : Addr) (k : ClassId) (x : Int32) (y0 : Int32) (y1 : Int32) (y2 : Int32) (y3 : Int32) (h0 : Heap) (n0 : Nat) (Z0 : n0 ≤ h0.size) (V_a1 : Arv Z h0 a1 k .byte (4 : Int32) [(.int y0), (.int y1), (.int y2), (.int y3)] (.int (0 : Int32))) (g_a1 : n0 ≤ a1) (O0 : Old Z n0 h0) (S__assertionsDisabled : Sta Z Z.heap "java/lang/StringUTF16" "$assertionsDisabled" "Z" (.int (1 : Int32))) (S_HI_BYTE_SHIFT : Sta Z Z.heap "java/lang/StringUTF16" "HI_BYTE_SHIFT" "I" (.int (0 : Int32))) (S_LO_BYTE_SHIFT : Sta Z Z.heap "java/lang/StringUTF16" "LO_BYTE_SHIFT" "I" (.int (8 : Int32))) :
    MetFree l (⟨"java/lang/StringUTF16", "putChar", "([BII)V"⟩ : MethodName) (head1 (Jvm.Cond.code (⟨"java/lang/StringUTF16", "putChar", "([BII)V"⟩ : MethodName) jdk_52_method_4_code 3 none :: ws) ({ frames := 0, cells := 0, slots := 0, locals := 0 } : Room)) (fun a U => a = #[(.ref a1), (.int (0 : Int32)), (.int x)] ∧ Z.Warmed39 U.vm ∧ U.heap = h0) (fun _ _ _ _ _ => True) (fun _ U o U' => ∃ v L, o = .returned v ∧ Qpc_2_0 Z a1 k x y0 y1 y2 y3 h0 n0 v U'.heap L ∧ FrameEnd U o U' L ({ frames := 0, cells := 0, slots := 0, locals := 0 } : Room).cells ({ frames := 0, cells := 0, slots := 0, locals := 0 } : Room).slots) := by
  refine MetFree.of_bodySF (plainFor_of_name pn_java_lang_StringUTF16) hisR ?_
  intro p e s m args below meth c s₁ Bd hml0 hP hK
  obtain ⟨rfl, hZ, hh⟩ := hP
  have hx := Bd.exec
  have hby := Bd.bytes
  have hml : c.maxLocals = 3 := hml0
  have hown : s.vm.findClass "java/lang/StringUTF16" = some m.cls := findClass_of_methodNamed Bd.named
  have hnm := (name_of_methodNamed Bd.named Bd.method).1
  have X0 : Stand p l e ({ frames := 0, cells := 0, slots := 0, locals := 0 } : Room) s m #[(.ref a1), (.int (0 : Int32)), (.int x)] below meth c s₁ [] 0 0 := Stand.of_body Bd
  have e0 : s₁.heap = h0 := by rw [← hh, Bd.state]; rfl
  have es0 : s.heap = h0 := hh
  have N0 := Fr.nil n0
  show own_Fin p e below (Gpc_2_0 Z a1 k x y0 y1 y2 y3 h0 n0 s) (s₁.setTop (entryFrame m #[(.ref a1), (.int (0 : Int32)), (.int x)] 3))
  rw [ef_pc_2_0 m a1 (0 : Int32) x]
  have Kz := Keep.refl h0 [a1]
  obtain ⟨T52, X52, e52, st52⟩ := getS2 X0 hx hZ hown (host := "") (Or.inl (hw _ (List.mem_of_getElem? (i := 92) rfl))) Via.refl e0 (S__assertionsDisabled.ext O0.2) (g := (mkF m 0 #[rv a1, iv (0 : Int32), iv x] [])) rfl (hb hby d21_0)
  refine own_by st52 ?_
  show own_Fin _ _ _ _ (T52.setTop (mkF m 3 #[rv a1, iv (0 : Int32), iv x] [(.int (1 : Int32))]))
  refine own_go (XS.ifYes X52.here hx rfl (pc0 := 3) (pc' := 28) rfl (hb hby d21_3) rfl ((if0 _ _).trans (feq (by decide : ¬ ((1 : Int32) = (0 : Int32)))).2) (by decide) (by decide) (Steps.refl _)) ?_
  show own_Fin _ _ _ _ (T52.setTop (mkF m 28 #[rv a1, iv (0 : Int32), iv x] []))
  refine own_go (XS.iloadN X52.here hx rfl (hb hby d21_28) rfl (Steps.refl _)) ?_
  show own_Fin _ _ _ _ (T52.setTop (mkF m 29 #[rv a1, iv (0 : Int32), iv x] [(.int (0 : Int32))]))
  refine own_go (XS.iconst X52.here hx rfl (hb hby d21_29) (Steps.refl _)) ?_
  show own_Fin _ _ _ _ (T52.setTop (mkF m 30 #[rv a1, iv (0 : Int32), iv x] [(.int (1 : Int32)), (.int (0 : Int32))]))
  refine own_go (XS.ishl X52.here hx rfl (hb hby d21_30) rfl (Steps.refl _)) ?_
  show own_Fin _ _ _ _ (T52.setTop (mkF m 31 #[rv a1, iv (0 : Int32), iv x] [(.int (0 : Int32))]))
  refine own_go (XS.istoreN X52.here hx rfl (hb hby d21_31) rfl rfl (Steps.refl _)) ?_
  show own_Fin _ _ _ _ (T52.setTop (mkF m 32 #[rv a1, iv (0 : Int32), iv x] []))
  refine own_go (XS.aloadN X52.here hx rfl (hb hby d21_32) rfl rfl (Steps.refl _)) ?_
  show own_Fin _ _ _ _ (T52.setTop (mkF m 33 #[rv a1, iv (0 : Int32), iv x] [(.ref a1)]))
  refine own_go (XS.iloadN X52.here hx rfl (hb hby d21_33) rfl (Steps.refl _)) ?_
  show own_Fin _ _ _ _ (T52.setTop (mkF m 34 #[rv a1, iv (0 : Int32), iv x] [(.int (0 : Int32)), (.ref a1)]))
  refine own_go (XS.iinc X52.here hx rfl (hb hby d21_34) rfl rfl (Steps.refl _)) ?_
  show own_Fin _ _ _ _ (T52.setTop (mkF m 37 #[rv a1, iv (1 : Int32), iv x] [(.int (0 : Int32)), (.ref a1)]))
  refine own_go (XS.iloadN X52.here hx rfl (hb hby d21_37) rfl (Steps.refl _)) ?_
  show own_Fin _ _ _ _ (T52.setTop (mkF m 38 #[rv a1, iv (1 : Int32), iv x] [(.int x), (.int (0 : Int32)), (.ref a1)]))
  obtain ⟨T53, X53, e53, st53⟩ := getS2 X52 hx hZ hown (host := "") (Or.inl (hw _ (List.mem_of_getElem? (i := 93) rfl))) Via.refl e52 (S_HI_BYTE_SHIFT.ext O0.2) (g := (mkF m 38 #[rv a1, iv (1 : Int32), iv x] [(.int x), (.int (0 : Int32)), (.ref a1)])) rfl (hb hby d21_38)
  refine own_by st53 ?_
  show own_Fin _ _ _ _ (T53.setTop (mkF m 41 #[rv a1, iv (1 : Int32), iv x] [(.int (0 : Int32)), (.int x), (.int (0 : Int32)), (.ref a1)]))
  refine own_go (XS.ishr X53.here hx rfl (hb hby d21_41) rfl (Steps.refl _)) ?_
  show own_Fin _ _ _ _ (T53.setTop (mkF m 42 #[rv a1, iv (1 : Int32), iv x] [(.int (x >>> ((0 : Int32) &&& 31))), (.int (0 : Int32)), (.ref a1)]))
  refine own_go (XS.i2b X53.here hx rfl (hb hby d21_42) rfl (Steps.refl _)) ?_
  show own_Fin _ _ _ _ (T53.setTop (mkF m 43 #[rv a1, iv (1 : Int32), iv x] [(.int ((x >>> ((0 : Int32) &&& 31)).toInt8.toInt32)), (.int (0 : Int32)), (.ref a1)]))
  obtain ⟨cl54, Ar54, qa54, Sa54, Na54, Ha54, Ga54⟩ := id V_a1
  have hin54 : ¬ ((0 : Int32) < 0 ∨ cl54.slots.size ≤ ((0 : Int32)).toNatClampNeg) := inb_of Sa54 ⟨by decide, by decide⟩
  obtain ⟨T55, h55, X55, e55, W55, st55⟩ := stB X53 hx hZ e53 Ar54 (j := (0 : Int32)) hin54 (g := (mkF m 43 #[rv a1, iv (1 : Int32), iv x] [(.int ((x >>> ((0 : Int32) &&& 31)).toInt8.toInt32)), (.int (0 : Int32)), (.ref a1)])) rfl rfl (hb hby d21_43)
  refine own_by st55 ?_
  have hnr55 : nar .byte ((x >>> ((0 : Int32) &&& 31)).toInt8.toInt32) = (own_lb x) := rfl
  rw [hnr55] at W55
  have V_a1_55 : Arv Z h55 a1 k .byte (4 : Int32) [(.int (own_lb x)), (.int y1), (.int y2), (.int y3)] (.int (0 : Int32)) := Arv.set Ar54 qa54 Sa54 Na54 Ha54 Ga54 (hnr55 ▸ fits_nar_byte ((x >>> ((0 : Int32) &&& 31)).toInt8.toInt32)) W55 0 rfl (Nat.le_of_ble_eq_true rfl)
  have Od55 := O0.wr W55 g_a1
  have N55 := Fr.snoc X55 N0 g_a1
  have Z55 : n0 ≤ h55.size := Nat.le_trans Z0 (Keep.of_wr W55).1
  have K55 := Kz.wr W55 (Or.inl (List.mem_of_getElem? (i := 0) rfl))
  show own_Fin _ _ _ _ (T55.setTop (mkF m 44 #[rv a1, iv (1 : Int32), iv x] []))
  refine own_go (XS.aloadN X55.here hx rfl (hb hby d21_44) rfl rfl (Steps.refl _)) ?_
  show own_Fin _ _ _ _ (T55.setTop (mkF m 45 #[rv a1, iv (1 : Int32), iv x] [(.ref a1)]))
  refine own_go (XS.iloadN X55.here hx rfl (hb hby d21_45) rfl (Steps.refl _)) ?_
  show own_Fin _ _ _ _ (T55.setTop (mkF m 46 #[rv a1, iv (1 : Int32), iv x] [(.int (1 : Int32)), (.ref a1)]))
  refine own_go (XS.iloadN X55.here hx rfl (hb hby d21_46) rfl (Steps.refl _)) ?_
  show own_Fin _ _ _ _ (T55.setTop (mkF m 47 #[rv a1, iv (1 : Int32), iv x] [(.int x), (.int (1 : Int32)), (.ref a1)]))
  obtain ⟨T56, X56, e56, st56⟩ := getS2 X55 hx hZ hown (host := "") (Or.inl (hw _ (List.mem_of_getElem? (i := 94) rfl))) Via.refl e55 (S_LO_BYTE_SHIFT.ext Od55.2) (g := (mkF m 47 #[rv a1, iv (1 : Int32), iv x] [(.int x), (.int (1 : Int32)), (.ref a1)])) rfl (hb hby d21_47)
  refine own_by st56 ?_
  show own_Fin _ _ _ _ (T56.setTop (mkF m 50 #[rv a1, iv (1 : Int32), iv x] [(.int (8 : Int32)), (.int x), (.int (1 : Int32)), (.ref a1)]))
  refine own_go (XS.ishr X56.here hx rfl (hb hby d21_50) rfl (Steps.refl _)) ?_
  show own_Fin _ _ _ _ (T56.setTop (mkF m 51 #[rv a1, iv (1 : Int32), iv x] [(.int (x >>> ((8 : Int32) &&& 31))), (.int (1 : Int32)), (.ref a1)]))
  refine own_go (XS.i2b X56.here hx rfl (hb hby d21_51) rfl (Steps.refl _)) ?_
  show own_Fin _ _ _ _ (T56.setTop (mkF m 52 #[rv a1, iv (1 : Int32), iv x] [(.int ((x >>> ((8 : Int32) &&& 31)).toInt8.toInt32)), (.int (1 : Int32)), (.ref a1)]))
  obtain ⟨cl57, Ar57, qa57, Sa57, Na57, Ha57, Ga57⟩ := id V_a1_55
  have hin57 : ¬ ((1 : Int32) < 0 ∨ cl57.slots.size ≤ ((1 : Int32)).toNatClampNeg) := inb_of Sa57 ⟨by decide, by decide⟩
  obtain ⟨T58, h58, X58, e58, W58, st58⟩ := stB X56 hx hZ e56 Ar57 (j := (1 : Int32)) hin57 (g := (mkF m 52 #[rv a1, iv (1 : Int32), iv x] [(.int ((x >>> ((8 : Int32) &&& 31)).toInt8.toInt32)), (.int (1 : Int32)), (.ref a1)])) rfl rfl (hb hby d21_52)
  refine own_by st58 ?_
  have hnr58 : nar .byte ((x >>> ((8 : Int32) &&& 31)).toInt8.toInt32) = (own_hb x) := rfl
  rw [hnr58] at W58
  have V_a1_58 : Arv Z h58 a1 k .byte (4 : Int32) [(.int (own_lb x)), (.int (own_hb x)), (.int y2), (.int y3)] (.int (0 : Int32)) := Arv.set Ar57 qa57 Sa57 Na57 Ha57 Ga57 (hnr58 ▸ fits_nar_byte ((x >>> ((8 : Int32) &&& 31)).toInt8.toInt32)) W58 1 rfl (Nat.le_of_ble_eq_true rfl)
  have Od58 := Od55.wr W58 g_a1
  have N58 := Fr.snoc X58 N55 g_a1
  have Z58 : n0 ≤ h58.size := Nat.le_trans Z55 (Keep.of_wr W58).1
  have K58 := K55.wr W58 (Or.inl (List.mem_of_getElem? (i := 0) rfl))
  show own_Fin _ _ _ _ (T58.setTop (mkF m 53 #[rv a1, iv (1 : Int32), iv x] []))
  obtain ⟨fs59, hr59, hrun59, hended59, hW59, hsame59⟩ := X58.leave (v := none) (fun _ => rfl)
  refine own_done (X58.returnOut hx Bd.returns (hb hby d21_53) hr59) hrun59 hended59 ⟨_, _, rfl, ?_, ⟨_, rfl⟩, hW59, hsame59.mono (by decide) (by decide)⟩
  show Qpc_2_0 Z a1 k x y0 y1 y2 y3 h0 n0 _ T58.heap _
  rw [e58]
  exact ⟨rfl, N58, K58, V_a1_58⟩
theorem ef_pc_2_1 (m : MethodId) (x0 : Addr) (x1 : Int32) (x2 : Int32) : entryFrame m #[(.ref x0), (.int x1), (.int x2)] 3 = mkF m 0 #[.val (.ref x0), .val (.int x1), .val (.int x2)] [] := by first | (simp [entryFrame, mkF, argsToLocals, Value.category]; done) | rfl
def Qpc_2_1 (Z : State) (a1 : Addr) (k : ClassId) (x : Int32) (y0 : Int32) (y1 : Int32) (y2 : Int32) (y3 : Int32) (h0 : Heap) (n0 : Nat) (v : Option Value) (h : Heap) (L : List Loc) : Prop := v = none ∧ Fr n0 L ∧ Keep h0 h [a1] ∧ Arv Z h a1 k .byte (4 : Int32) [(.int y0), (.int y1), (.int (own_lb x)), (.int (own_hb x))] (.int (0 : Int32))
abbrev Gpc_2_1 (Z : State) (a1 : Addr) (k : ClassId) (x : Int32) (y0 : Int32) (y1 : Int32) (y2 : Int32) (y3 : Int32) (h0 : Heap) (n0 : Nat) (s : State) : Outcome → State → Prop := fun o U' => ∃ v L, o = .returned v ∧ Qpc_2_1 Z a1 k x y0 y1 y2 y3 h0 n0 v U'.heap L ∧ FrameEnd s o U' L ({ frames := 0, cells := 0, slots := 0, locals := 0 } : Room).cells ({ frames := 0, cells := 0, slots := 0, locals := 0 } : Room).slots
set_option maxRecDepth 65536 in
set_option maxHeartbeats 40000000 in
theorem rmpc_2_1 (l : Launch) (Z : State) (a0 : Array Value) (hw : ∀ d ∈ tables_1, d.before a0 Z = true) (ws : List Jvm.Cond) (a1 : Addr) (k : ClassId) (x : Int32) (y0 : Int32) (y1 : Int32) (y2 : Int32) (y3 : Int32) (h0 : Heap) (n0 : Nat) (Z0 : n0 ≤ h0.size) (V_a1 : Arv Z h0 a1 k .byte (4 : Int32) [(.int y0), (.int y1), (.int y2), (.int y3)] (.int (0 : Int32))) (g_a1 : n0 ≤ a1) (O0 : Old Z n0 h0) (S__assertionsDisabled : Sta Z Z.heap "java/lang/StringUTF16" "$assertionsDisabled" "Z" (.int (1 : Int32))) (S_HI_BYTE_SHIFT : Sta Z Z.heap "java/lang/StringUTF16" "HI_BYTE_SHIFT" "I" (.int (0 : Int32))) (S_LO_BYTE_SHIFT : Sta Z Z.heap "java/lang/StringUTF16" "LO_BYTE_SHIFT" "I" (.int (8 : Int32))) :
    MetFree l (⟨"java/lang/StringUTF16", "putChar", "([BII)V"⟩ : MethodName) (head1 (Jvm.Cond.code (⟨"java/lang/StringUTF16", "putChar", "([BII)V"⟩ : MethodName) jdk_52_method_4_code 3 none :: ws) ({ frames := 0, cells := 0, slots := 0, locals := 0 } : Room)) (fun a U => a = #[(.ref a1), (.int (1 : Int32)), (.int x)] ∧ Z.Warmed39 U.vm ∧ U.heap = h0) (fun _ _ _ _ _ => True) (fun _ U o U' => ∃ v L, o = .returned v ∧ Qpc_2_1 Z a1 k x y0 y1 y2 y3 h0 n0 v U'.heap L ∧ FrameEnd U o U' L ({ frames := 0, cells := 0, slots := 0, locals := 0 } : Room).cells ({ frames := 0, cells := 0, slots := 0, locals := 0 } : Room).slots) := by
  refine MetFree.of_bodySF (plainFor_of_name pn_java_lang_StringUTF16) hisR ?_
  intro p e s m args below meth c s₁ Bd hml0 hP hK
  obtain ⟨rfl, hZ, hh⟩ := hP
  have hx := Bd.exec
  have hby := Bd.bytes
  have hml : c.maxLocals = 3 := hml0
  have hown : s.vm.findClass "java/lang/StringUTF16" = some m.cls := findClass_of_methodNamed Bd.named
  have hnm := (name_of_methodNamed Bd.named Bd.method).1
  have X0 : Stand p l e ({ frames := 0, cells := 0, slots := 0, locals := 0 } : Room) s m #[(.ref a1), (.int (1 : Int32)), (.int x)] below meth c s₁ [] 0 0 := Stand.of_body Bd
  have e0 : s₁.heap = h0 := by rw [← hh, Bd.state]; rfl
  have es0 : s.heap = h0 := hh
  have N0 := Fr.nil n0
  show own_Fin p e below (Gpc_2_1 Z a1 k x y0 y1 y2 y3 h0 n0 s) (s₁.setTop (entryFrame m #[(.ref a1), (.int (1 : Int32)), (.int x)] 3))
  rw [ef_pc_2_1 m a1 (1 : Int32) x]
  have Kz := Keep.refl h0 [a1]
  obtain ⟨T60, X60, e60, st60⟩ := getS2 X0 hx hZ hown (host := "") (Or.inl (hw _ (List.mem_of_getElem? (i := 92) rfl))) Via.refl e0 (S__assertionsDisabled.ext O0.2) (g := (mkF m 0 #[rv a1, iv (1 : Int32), iv x] [])) rfl (hb hby d21_0)
  refine own_by st60 ?_
  show own_Fin _ _ _ _ (T60.setTop (mkF m 3 #[rv a1, iv (1 : Int32), iv x] [(.int (1 : Int32))]))
  refine own_go (XS.ifYes X60.here hx rfl (pc0 := 3) (pc' := 28) rfl (hb hby d21_3) rfl ((if0 _ _).trans (feq (by decide : ¬ ((1 : Int32) = (0 : Int32)))).2) (by decide) (by decide) (Steps.refl _)) ?_
  show own_Fin _ _ _ _ (T60.setTop (mkF m 28 #[rv a1, iv (1 : Int32), iv x] []))
  refine own_go (XS.iloadN X60.here hx rfl (hb hby d21_28) rfl (Steps.refl _)) ?_
  show own_Fin _ _ _ _ (T60.setTop (mkF m 29 #[rv a1, iv (1 : Int32), iv x] [(.int (1 : Int32))]))
  refine own_go (XS.iconst X60.here hx rfl (hb hby d21_29) (Steps.refl _)) ?_
  show own_Fin _ _ _ _ (T60.setTop (mkF m 30 #[rv a1, iv (1 : Int32), iv x] [(.int (1 : Int32)), (.int (1 : Int32))]))
  refine own_go (XS.ishl X60.here hx rfl (hb hby d21_30) rfl (Steps.refl _)) ?_
  show own_Fin _ _ _ _ (T60.setTop (mkF m 31 #[rv a1, iv (1 : Int32), iv x] [(.int (2 : Int32))]))
  refine own_go (XS.istoreN X60.here hx rfl (hb hby d21_31) rfl rfl (Steps.refl _)) ?_
  show own_Fin _ _ _ _ (T60.setTop (mkF m 32 #[rv a1, iv (2 : Int32), iv x] []))
  refine own_go (XS.aloadN X60.here hx rfl (hb hby d21_32) rfl rfl (Steps.refl _)) ?_
  show own_Fin _ _ _ _ (T60.setTop (mkF m 33 #[rv a1, iv (2 : Int32), iv x] [(.ref a1)]))
  refine own_go (XS.iloadN X60.here hx rfl (hb hby d21_33) rfl (Steps.refl _)) ?_
  show own_Fin _ _ _ _ (T60.setTop (mkF m 34 #[rv a1, iv (2 : Int32), iv x] [(.int (2 : Int32)), (.ref a1)]))
  refine own_go (XS.iinc X60.here hx rfl (hb hby d21_34) rfl rfl (Steps.refl _)) ?_
  show own_Fin _ _ _ _ (T60.setTop (mkF m 37 #[rv a1, iv (3 : Int32), iv x] [(.int (2 : Int32)), (.ref a1)]))
  refine own_go (XS.iloadN X60.here hx rfl (hb hby d21_37) rfl (Steps.refl _)) ?_
  show own_Fin _ _ _ _ (T60.setTop (mkF m 38 #[rv a1, iv (3 : Int32), iv x] [(.int x), (.int (2 : Int32)), (.ref a1)]))
  obtain ⟨T61, X61, e61, st61⟩ := getS2 X60 hx hZ hown (host := "") (Or.inl (hw _ (List.mem_of_getElem? (i := 93) rfl))) Via.refl e60 (S_HI_BYTE_SHIFT.ext O0.2) (g := (mkF m 38 #[rv a1, iv (3 : Int32), iv x] [(.int x), (.int (2 : Int32)), (.ref a1)])) rfl (hb hby d21_38)
  refine own_by st61 ?_
  show own_Fin _ _ _ _ (T61.setTop (mkF m 41 #[rv a1, iv (3 : Int32), iv x] [(.int (0 : Int32)), (.int x), (.int (2 : Int32)), (.ref a1)]))
  refine own_go (XS.ishr X61.here hx rfl (hb hby d21_41) rfl (Steps.refl _)) ?_
  show own_Fin _ _ _ _ (T61.setTop (mkF m 42 #[rv a1, iv (3 : Int32), iv x] [(.int (x >>> ((0 : Int32) &&& 31))), (.int (2 : Int32)), (.ref a1)]))
  refine own_go (XS.i2b X61.here hx rfl (hb hby d21_42) rfl (Steps.refl _)) ?_
  show own_Fin _ _ _ _ (T61.setTop (mkF m 43 #[rv a1, iv (3 : Int32), iv x] [(.int ((x >>> ((0 : Int32) &&& 31)).toInt8.toInt32)), (.int (2 : Int32)), (.ref a1)]))
  obtain ⟨cl62, Ar62, qa62, Sa62, Na62, Ha62, Ga62⟩ := id V_a1
  have hin62 : ¬ ((2 : Int32) < 0 ∨ cl62.slots.size ≤ ((2 : Int32)).toNatClampNeg) := inb_of Sa62 ⟨by decide, by decide⟩
  obtain ⟨T63, h63, X63, e63, W63, st63⟩ := stB X61 hx hZ e61 Ar62 (j := (2 : Int32)) hin62 (g := (mkF m 43 #[rv a1, iv (3 : Int32), iv x] [(.int ((x >>> ((0 : Int32) &&& 31)).toInt8.toInt32)), (.int (2 : Int32)), (.ref a1)])) rfl rfl (hb hby d21_43)
  refine own_by st63 ?_
  have hnr63 : nar .byte ((x >>> ((0 : Int32) &&& 31)).toInt8.toInt32) = (own_lb x) := rfl
  rw [hnr63] at W63
  have V_a1_63 : Arv Z h63 a1 k .byte (4 : Int32) [(.int y0), (.int y1), (.int (own_lb x)), (.int y3)] (.int (0 : Int32)) := Arv.set Ar62 qa62 Sa62 Na62 Ha62 Ga62 (hnr63 ▸ fits_nar_byte ((x >>> ((0 : Int32) &&& 31)).toInt8.toInt32)) W63 2 rfl (Nat.le_of_ble_eq_true rfl)
  have Od63 := O0.wr W63 g_a1
  have N63 := Fr.snoc X63 N0 g_a1
  have Z63 : n0 ≤ h63.size := Nat.le_trans Z0 (Keep.of_wr W63).1
  have K63 := Kz.wr W63 (Or.inl (List.mem_of_getElem? (i := 0) rfl))
  show own_Fin _ _ _ _ (T63.setTop (mkF m 44 #[rv a1, iv (3 : Int32), iv x] []))
  refine own_go (XS.aloadN X63.here hx rfl (hb hby d21_44) rfl rfl (Steps.refl _)) ?_
  show own_Fin _ _ _ _ (T63.setTop (mkF m 45 #[rv a1, iv (3 : Int32), iv x] [(.ref a1)]))
  refine own_go (XS.iloadN X63.here hx rfl (hb hby d21_45) rfl (Steps.refl _)) ?_
  show own_Fin _ _ _ _ (T63.setTop (mkF m 46 #[rv a1, iv (3 : Int32), iv x] [(.int (3 : Int32)), (.ref a1)]))
  refine own_go (XS.iloadN X63.here hx rfl (hb hby d21_46) rfl (Steps.refl _)) ?_
  show own_Fin _ _ _ _ (T63.setTop (mkF m 47 #[rv a1, iv (3 : Int32), iv x] [(.int x), (.int (3 : Int32)), (.ref a1)]))
  obtain ⟨T64, X64, e64, st64⟩ := getS2 X63 hx hZ hown (host := "") (Or.inl (hw _ (List.mem_of_getElem? (i := 94) rfl))) Via.refl e63 (S_LO_BYTE_SHIFT.ext Od63.2) (g := (mkF m 47 #[rv a1, iv (3 : Int32), iv x] [(.int x), (.int (3 : Int32)), (.ref a1)])) rfl (hb hby d21_47)
  refine own_by st64 ?_
  show own_Fin _ _ _ _ (T64.setTop (mkF m 50 #[rv a1, iv (3 : Int32), iv x] [(.int (8 : Int32)), (.int x), (.int (3 : Int32)), (.ref a1)]))
  refine own_go (XS.ishr X64.here hx rfl (hb hby d21_50) rfl (Steps.refl _)) ?_
  show own_Fin _ _ _ _ (T64.setTop (mkF m 51 #[rv a1, iv (3 : Int32), iv x] [(.int (x >>> ((8 : Int32) &&& 31))), (.int (3 : Int32)), (.ref a1)]))
  refine own_go (XS.i2b X64.here hx rfl (hb hby d21_51) rfl (Steps.refl _)) ?_
  show own_Fin _ _ _ _ (T64.setTop (mkF m 52 #[rv a1, iv (3 : Int32), iv x] [(.int ((x >>> ((8 : Int32) &&& 31)).toInt8.toInt32)), (.int (3 : Int32)), (.ref a1)]))
  obtain ⟨cl65, Ar65, qa65, Sa65, Na65, Ha65, Ga65⟩ := id V_a1_63
  have hin65 : ¬ ((3 : Int32) < 0 ∨ cl65.slots.size ≤ ((3 : Int32)).toNatClampNeg) := inb_of Sa65 ⟨by decide, by decide⟩
  obtain ⟨T66, h66, X66, e66, W66, st66⟩ := stB X64 hx hZ e64 Ar65 (j := (3 : Int32)) hin65 (g := (mkF m 52 #[rv a1, iv (3 : Int32), iv x] [(.int ((x >>> ((8 : Int32) &&& 31)).toInt8.toInt32)), (.int (3 : Int32)), (.ref a1)])) rfl rfl (hb hby d21_52)
  refine own_by st66 ?_
  have hnr66 : nar .byte ((x >>> ((8 : Int32) &&& 31)).toInt8.toInt32) = (own_hb x) := rfl
  rw [hnr66] at W66
  have V_a1_66 : Arv Z h66 a1 k .byte (4 : Int32) [(.int y0), (.int y1), (.int (own_lb x)), (.int (own_hb x))] (.int (0 : Int32)) := Arv.set Ar65 qa65 Sa65 Na65 Ha65 Ga65 (hnr66 ▸ fits_nar_byte ((x >>> ((8 : Int32) &&& 31)).toInt8.toInt32)) W66 3 rfl (Nat.le_of_ble_eq_true rfl)
  have Od66 := Od63.wr W66 g_a1
  have N66 := Fr.snoc X66 N63 g_a1
  have Z66 : n0 ≤ h66.size := Nat.le_trans Z63 (Keep.of_wr W66).1
  have K66 := K63.wr W66 (Or.inl (List.mem_of_getElem? (i := 0) rfl))
  show own_Fin _ _ _ _ (T66.setTop (mkF m 53 #[rv a1, iv (3 : Int32), iv x] []))
  obtain ⟨fs67, hr67, hrun67, hended67, hW67, hsame67⟩ := X66.leave (v := none) (fun _ => rfl)
  refine own_done (X66.returnOut hx Bd.returns (hb hby d21_53) hr67) hrun67 hended67 ⟨_, _, rfl, ?_, ⟨_, rfl⟩, hW67, hsame67.mono (by decide) (by decide)⟩
  show Qpc_2_1 Z a1 k x y0 y1 y2 y3 h0 n0 _ T66.heap _
  rw [e66]
  exact ⟨rfl, N66, K66, V_a1_66⟩
theorem ef_tb_2 (m : MethodId) (x0 : Addr) (x1 : Int32) (x2 : Int32) : entryFrame m #[(.ref x0), (.int x1), (.int x2)] 5 = mkF m 0 #[.val (.ref x0), .val (.int x1), .val (.int x2), .unset, .unset] [] := by first | (simp [entryFrame, mkF, argsToLocals, Value.category]; done) | rfl
def Qtb_2 (Z : State) (a1 : Addr) (k : ClassId) (c0 : Int32) (c1 : Int32) (h0 : Heap) (n0 : Nat) (v : Option Value) (h : Heap) (L : List Loc) : Prop := ∃ (b : Addr) (kb : ClassId), v = some (.ref b) ∧ Fr n0 L ∧ Keep h0 h [] ∧ n0 ≤ b ∧ h0.size ≤ b ∧ Arv Z h b kb .byte (4 : Int32) [(.int (own_lb c0)), (.int (own_hb c0)), (.int (own_lb c1)), (.int (own_hb c1))] (.int (0 : Int32))
abbrev Gtb_2 (Z : State) (a1 : Addr) (k : ClassId) (c0 : Int32) (c1 : Int32) (h0 : Heap) (n0 : Nat) (s : State) : Outcome → State → Prop := fun o U' => ∃ v L, o = .returned v ∧ Qtb_2 Z a1 k c0 c1 h0 n0 v U'.heap L ∧ FrameEnd s o U' L ({ frames := 2, cells := 1, slots := 4, locals := 40 } : Room).cells ({ frames := 2, cells := 1, slots := 4, locals := 40 } : Room).slots
set_option maxRecDepth 65536 in
set_option maxHeartbeats 40000000 in
theorem rmtb_2 (l : Launch) (Z : State) (a0 : Array Value) (hw : ∀ d ∈ tables_1, d.before a0 Z = true) (ws : List Jvm.Cond) (a1 : Addr) (k : ClassId) (c0 : Int32) (c1 : Int32) (h0 : Heap) (n0 : Nat) (Z0 : n0 ≤ h0.size) (V_a1 : Arv Z h0 a1 k .char (2 : Int32) [(.int c0), (.int c1)] (.int (0 : Int32))) (O0 : Old Z n0 h0) (S__assertionsDisabled : Sta Z Z.heap "java/lang/StringUTF16" "$assertionsDisabled" "Z" (.int (1 : Int32))) (S_HI_BYTE_SHIFT : Sta Z Z.heap "java/lang/StringUTF16" "HI_BYTE_SHIFT" "I" (.int (0 : Int32))) (S_LO_BYTE_SHIFT : Sta Z Z.heap "java/lang/StringUTF16" "LO_BYTE_SHIFT" "I" (.int (8 : Int32))) :
    MetFree l (⟨"java/lang/StringUTF16", "toBytes", "([CII)[B"⟩ : MethodName) (head1 (Jvm.Cond.code (⟨"java/lang/StringUTF16", "toBytes", "([CII)[B"⟩ : MethodName) jdk_52_method_14_code 5 (some (.array .byte)) :: ws) ({ frames := 2, cells := 1, slots := 4, locals := 40 } : Room)) (fun a U => a = #[(.ref a1), (.int (0 : Int32)), (.int (2 : Int32))] ∧ Z.Warmed39 U.vm ∧ U.heap = h0) (fun _ _ _ _ _ => True) (fun _ U o U' => ∃ v L, o = .returned v ∧ Qtb_2 Z a1 k c0 c1 h0 n0 v U'.heap L ∧ FrameEnd U o U' L ({ frames := 2, cells := 1, slots := 4, locals := 40 } : Room).cells ({ frames := 2, cells := 1, slots := 4, locals := 40 } : Room).slots) := by
  refine MetFree.of_bodySF (plainFor_of_name pn_java_lang_StringUTF16) hisR ?_
  intro p e s m args below meth c s₁ Bd hml0 hP hK
  obtain ⟨rfl, hZ, hh⟩ := hP
  have hx := Bd.exec
  have hby := Bd.bytes
  have hml : c.maxLocals = 5 := hml0
  have hown : s.vm.findClass "java/lang/StringUTF16" = some m.cls := findClass_of_methodNamed Bd.named
  have hnm := (name_of_methodNamed Bd.named Bd.method).1
  have X0 : Stand p l e ({ frames := 2, cells := 1, slots := 4, locals := 40 } : Room) s m #[(.ref a1), (.int (0 : Int32)), (.int (2 : Int32))] below meth c s₁ [] 0 0 := Stand.of_body Bd
  have e0 : s₁.heap = h0 := by rw [← hh, Bd.state]; rfl
  have es0 : s.heap = h0 := hh
  have N0 := Fr.nil n0
  show own_Fin p e below (Gtb_2 Z a1 k c0 c1 h0 n0 s) (s₁.setTop (entryFrame m #[(.ref a1), (.int (0 : Int32)), (.int (2 : Int32))] 5))
  rw [ef_tb_2 m a1 (0 : Int32) (2 : Int32)]
  have Kz := Keep.refl h0 []
  refine own_go (XS.iloadN X0.here hx rfl (hb hby d18_0) rfl (Steps.refl _)) ?_
  show own_Fin _ _ _ _ (s₁.setTop (mkF m 1 #[rv a1, iv (0 : Int32), iv (2 : Int32), .unset, .unset] [(.int (2 : Int32))]))
  obtain ⟨_, _, ⟨T68, L68, k68, n68⟩, -, X68, ⟨Lc68, hQ68, l68, y68, z68⟩, st68⟩ := Jvm.LawKit.callS X0 hx (y := (⟨"java/lang/StringUTF16", "newBytesFor", "(I)[B"⟩ : MethodName)) hown (mvT hZ (hw _ (List.mem_of_getElem? (i := 82) rfl))) (mvT hZ (hw _ (List.mem_of_getElem? (i := 83) rfl))) (mvT hZ (hw _ (List.mem_of_getElem? (i := 21) rfl))) (mvT hZ (hw _ (List.mem_of_getElem? (i := 84) rfl))) (by decide) (backOf (W := 0) (rmnf_2 l Z a0 hw []  h0 n0 Z0) hZ (hw _ (List.mem_of_getElem? (i := 84) rfl)) (hw _ (List.mem_of_getElem? (i := 21) rfl)) (by decide) (by decide)) (g := (mkF m 1 #[rv a1, iv (0 : Int32), iv (2 : Int32), .unset, .unset] [(.int (2 : Int32))])) rfl (by rw [hml]; rfl) (argsL := [(.int (2 : Int32))]) (rest := []) (lenOf pd__28_I_29__5b_B rfl) rfl (by show 2 * 0 + _ ≤ _; exact Nat.le_of_eq rfl) (hb hby d18_1) (fun _ hv => ⟨rfl, e0, (by decide : 0 + 1 ≤ _), (by decide : 0 + 4 ≤ _)⟩)
  dsimp only [Pt.U, Pt.locs, Pt.cells, Pt.slots] at X68 l68 y68 z68 st68 hQ68
  subst l68 y68 z68
  refine own_by st68 ?_
  obtain ⟨b_68, kb_68, rfl, Nq68, K68, g_b_68, sb_b_68, r68_0⟩ := hQ68
  have ne_a1_b_68 : a1 ≠ b_68 := Nat.ne_of_lt (Nat.lt_of_lt_of_le V_a1.lt sb_b_68)
  have sz_b_68 : h0.size ≤ b_68 := Nat.le_trans Kz.1 sb_b_68
  have Od68 := O0.keep K68 all0
  have V_a1_68 := V_a1.keep K68 nin0
  have Z68 : n0 ≤ T68.heap.size := Nat.le_trans Z0 K68.1
  have Kt68 := Kz.trans K68 all0
  have N68 := Fr.app N0 Nq68
  show own_Fin _ _ _ _ (T68.setTop (mkF m 4 #[rv a1, iv (0 : Int32), iv (2 : Int32), .unset, .unset] [(.ref b_68)]))
  refine own_go (XS.astoreN X68.here hx rfl (hb hby d18_4) rfl rfl rfl (Steps.refl _)) ?_
  show own_Fin _ _ _ _ (T68.setTop (mkF m 5 #[rv a1, iv (0 : Int32), iv (2 : Int32), rv b_68, .unset] []))
  refine own_go (XS.iconst X68.here hx rfl (hb hby d18_5) (Steps.refl _)) ?_
  show own_Fin _ _ _ _ (T68.setTop (mkF m 6 #[rv a1, iv (0 : Int32), iv (2 : Int32), rv b_68, .unset] [(.int (0 : Int32))]))
  refine own_go (XS.istore X68.here hx rfl (hb hby d18_6) rfl rfl (Steps.refl _)) ?_
  show own_Fin _ _ _ _ (T68.setTop (mkF m 8 #[rv a1, iv (0 : Int32), iv (2 : Int32), rv b_68, iv (0 : Int32)] []))
  refine own_go (XS.iload X68.here hx rfl (hb hby d18_8) rfl (Steps.refl _)) ?_
  show own_Fin _ _ _ _ (T68.setTop (mkF m 10 #[rv a1, iv (0 : Int32), iv (2 : Int32), rv b_68, iv (0 : Int32)] [(.int (0 : Int32))]))
  refine own_go (XS.iloadN X68.here hx rfl (hb hby d18_10) rfl (Steps.refl _)) ?_
  show own_Fin _ _ _ _ (T68.setTop (mkF m 11 #[rv a1, iv (0 : Int32), iv (2 : Int32), rv b_68, iv (0 : Int32)] [(.int (2 : Int32)), (.int (0 : Int32))]))
  refine own_go (XS.icmpNo X68.here hx rfl (hb hby d18_11) rfl (tlt (by decide : (0 : Int32) < (2 : Int32))).2.1 (Steps.refl _)) ?_
  show own_Fin _ _ _ _ (T68.setTop (mkF m 14 #[rv a1, iv (0 : Int32), iv (2 : Int32), rv b_68, iv (0 : Int32)] []))
  refine own_go (XS.aloadN X68.here hx rfl (hb hby d18_14) rfl rfl (Steps.refl _)) ?_
  show own_Fin _ _ _ _ (T68.setTop (mkF m 15 #[rv a1, iv (0 : Int32), iv (2 : Int32), rv b_68, iv (0 : Int32)] [(.ref b_68)]))
  refine own_go (XS.iload X68.here hx rfl (hb hby d18_15) rfl (Steps.refl _)) ?_
  show own_Fin _ _ _ _ (T68.setTop (mkF m 17 #[rv a1, iv (0 : Int32), iv (2 : Int32), rv b_68, iv (0 : Int32)] [(.int (0 : Int32)), (.ref b_68)]))
  refine own_go (XS.aloadN X68.here hx rfl (hb hby d18_17) rfl rfl (Steps.refl _)) ?_
  show own_Fin _ _ _ _ (T68.setTop (mkF m 18 #[rv a1, iv (0 : Int32), iv (2 : Int32), rv b_68, iv (0 : Int32)] [(.ref a1), (.int (0 : Int32)), (.ref b_68)]))
  refine own_go (XS.iloadN X68.here hx rfl (hb hby d18_18) rfl (Steps.refl _)) ?_
  show own_Fin _ _ _ _ (T68.setTop (mkF m 19 #[rv a1, iv (0 : Int32), iv (2 : Int32), rv b_68, iv (0 : Int32)] [(.int (0 : Int32)), (.ref a1), (.int (0 : Int32)), (.ref b_68)]))
  obtain ⟨cl69, Ar69, qa69, Sa69, Na69, Ha69, Ga69⟩ := id V_a1_68
  have hin69 : ¬ ((0 : Int32) < 0 ∨ cl69.slots.size ≤ ((0 : Int32)).toNatClampNeg) := inb_of Sa69 ⟨by decide, by decide⟩
  have hat69 : cl69.slots[((0 : Int32)).toNatClampNeg]? = some (.int c0) := Has.at Ha69 hin69 rfl
  refine own_by (X68.caload hx (j := (0 : Int32)) (v := (.int c0)) Ar69.1 (State.isArrayOf_alike hZ.alike Ar69.2.1) Ar69.2.2 hin69 hat69 (g := (mkF m 19 #[rv a1, iv (0 : Int32), iv (2 : Int32), rv b_68, iv (0 : Int32)] [(.int (0 : Int32)), (.ref a1), (.int (0 : Int32)), (.ref b_68)])) rfl rfl (hb hby d18_19)) ?_
  show own_Fin _ _ _ _ (T68.setTop (mkF m 20 #[rv a1, iv (0 : Int32), iv (2 : Int32), rv b_68, iv (0 : Int32)] [(.int c0), (.int (0 : Int32)), (.ref b_68)]))
  obtain ⟨_, _, ⟨T70, L70, k70, n70⟩, -, X70, ⟨Lc70, hQ70, l70, y70, z70⟩, st70⟩ := Jvm.LawKit.callS X68 hx (y := (⟨"java/lang/StringUTF16", "putChar", "([BII)V"⟩ : MethodName)) hown (mvT hZ (hw _ (List.mem_of_getElem? (i := 89) rfl))) (mvT hZ (hw _ (List.mem_of_getElem? (i := 90) rfl))) (mvT hZ (hw _ (List.mem_of_getElem? (i := 21) rfl))) (mvT hZ (hw _ (List.mem_of_getElem? (i := 91) rfl))) (by decide) (backOf (W := 0) (rmpc_2_0 l Z a0 hw [] b_68 kb_68 c0 (0 : Int32) (0 : Int32) (0 : Int32) (0 : Int32) T68.heap n0 Z68 r68_0 g_b_68 Od68 S__assertionsDisabled S_HI_BYTE_SHIFT S_LO_BYTE_SHIFT) hZ (hw _ (List.mem_of_getElem? (i := 91) rfl)) (hw _ (List.mem_of_getElem? (i := 21) rfl)) (by decide) (by decide)) (g := (mkF m 20 #[rv a1, iv (0 : Int32), iv (2 : Int32), rv b_68, iv (0 : Int32)] [(.int c0), (.int (0 : Int32)), (.ref b_68)])) rfl (by rw [hml]; rfl) (argsL := [(.ref b_68), (.int (0 : Int32)), (.int c0)]) (rest := []) (lenOf pd__28__5b_BII_29_V rfl) rfl (by show 2 * 0 + _ ≤ _; exact Nat.le_of_eq rfl) (hb hby d18_20) (fun _ hv => ⟨rfl, rfl, (by decide : 1 + 0 ≤ _), (by decide : 4 + 0 ≤ _)⟩)
  dsimp only [Pt.U, Pt.locs, Pt.cells, Pt.slots] at X70 l70 y70 z70 st70 hQ70
  subst l70 y70 z70
  refine own_by st70 ?_
  obtain ⟨rfl, Nq70, K70, r70_0⟩ := hQ70
  have Od70 := Od68.keep K70 (allS g_b_68 all0)
  have V_a1_70 := V_a1_68.keep K70 (ninS ne_a1_b_68 nin0)
  have Z70 : n0 ≤ T70.heap.size := Nat.le_trans Z68 K70.1
  have Kt70 := Kt68.trans K70 (allS (P := fun x => x ∈ _ ∨ _ ≤ x) (Or.inr sz_b_68) all0)
  have N70 := Fr.app N68 Nq70
  show own_Fin _ _ _ _ (T70.setTop (mkF m 23 #[rv a1, iv (0 : Int32), iv (2 : Int32), rv b_68, iv (0 : Int32)] []))
  refine own_go (XS.iinc X70.here hx rfl (hb hby d18_23) rfl rfl (Steps.refl _)) ?_
  show own_Fin _ _ _ _ (T70.setTop (mkF m 26 #[rv a1, iv (1 : Int32), iv (2 : Int32), rv b_68, iv (0 : Int32)] []))
  refine own_go (XS.iinc X70.here hx rfl (hb hby d18_26) rfl rfl (Steps.refl _)) ?_
  show own_Fin _ _ _ _ (T70.setTop (mkF m 29 #[rv a1, iv (1 : Int32), iv (2 : Int32), rv b_68, iv (1 : Int32)] []))
  refine own_go (XS.goto X70.here hx rfl (pc0 := 29) (pc' := 8) rfl (hb hby d18_29) (by decide) (by decide) (Steps.refl _)) ?_
  show own_Fin _ _ _ _ (T70.setTop (mkF m 8 #[rv a1, iv (1 : Int32), iv (2 : Int32), rv b_68, iv (1 : Int32)] []))
  refine own_go (XS.iload X70.here hx rfl (hb hby d18_8) rfl (Steps.refl _)) ?_
  show own_Fin _ _ _ _ (T70.setTop (mkF m 10 #[rv a1, iv (1 : Int32), iv (2 : Int32), rv b_68, iv (1 : Int32)] [(.int (1 : Int32))]))
  refine own_go (XS.iloadN X70.here hx rfl (hb hby d18_10) rfl (Steps.refl _)) ?_
  show own_Fin _ _ _ _ (T70.setTop (mkF m 11 #[rv a1, iv (1 : Int32), iv (2 : Int32), rv b_68, iv (1 : Int32)] [(.int (2 : Int32)), (.int (1 : Int32))]))
  refine own_go (XS.icmpNo X70.here hx rfl (hb hby d18_11) rfl (tlt (by decide : (1 : Int32) < (2 : Int32))).2.1 (Steps.refl _)) ?_
  show own_Fin _ _ _ _ (T70.setTop (mkF m 14 #[rv a1, iv (1 : Int32), iv (2 : Int32), rv b_68, iv (1 : Int32)] []))
  refine own_go (XS.aloadN X70.here hx rfl (hb hby d18_14) rfl rfl (Steps.refl _)) ?_
  show own_Fin _ _ _ _ (T70.setTop (mkF m 15 #[rv a1, iv (1 : Int32), iv (2 : Int32), rv b_68, iv (1 : Int32)] [(.ref b_68)]))
  refine own_go (XS.iload X70.here hx rfl (hb hby d18_15) rfl (Steps.refl _)) ?_
  show own_Fin _ _ _ _ (T70.setTop (mkF m 17 #[rv a1, iv (1 : Int32), iv (2 : Int32), rv b_68, iv (1 : Int32)] [(.int (1 : Int32)), (.ref b_68)]))
  refine own_go (XS.aloadN X70.here hx rfl (hb hby d18_17) rfl rfl (Steps.refl _)) ?_
  show own_Fin _ _ _ _ (T70.setTop (mkF m 18 #[rv a1, iv (1 : Int32), iv (2 : Int32), rv b_68, iv (1 : Int32)] [(.ref a1), (.int (1 : Int32)), (.ref b_68)]))
  refine own_go (XS.iloadN X70.here hx rfl (hb hby d18_18) rfl (Steps.refl _)) ?_
  show own_Fin _ _ _ _ (T70.setTop (mkF m 19 #[rv a1, iv (1 : Int32), iv (2 : Int32), rv b_68, iv (1 : Int32)] [(.int (1 : Int32)), (.ref a1), (.int (1 : Int32)), (.ref b_68)]))
  obtain ⟨cl71, Ar71, qa71, Sa71, Na71, Ha71, Ga71⟩ := id V_a1_70
  have hin71 : ¬ ((1 : Int32) < 0 ∨ cl71.slots.size ≤ ((1 : Int32)).toNatClampNeg) := inb_of Sa71 ⟨by decide, by decide⟩
  have hat71 : cl71.slots[((1 : Int32)).toNatClampNeg]? = some (.int c1) := Has.at Ha71 hin71 rfl
  refine own_by (X70.caload hx (j := (1 : Int32)) (v := (.int c1)) Ar71.1 (State.isArrayOf_alike hZ.alike Ar71.2.1) Ar71.2.2 hin71 hat71 (g := (mkF m 19 #[rv a1, iv (1 : Int32), iv (2 : Int32), rv b_68, iv (1 : Int32)] [(.int (1 : Int32)), (.ref a1), (.int (1 : Int32)), (.ref b_68)])) rfl rfl (hb hby d18_19)) ?_
  show own_Fin _ _ _ _ (T70.setTop (mkF m 20 #[rv a1, iv (1 : Int32), iv (2 : Int32), rv b_68, iv (1 : Int32)] [(.int c1), (.int (1 : Int32)), (.ref b_68)]))
  obtain ⟨_, _, ⟨T72, L72, k72, n72⟩, -, X72, ⟨Lc72, hQ72, l72, y72, z72⟩, st72⟩ := Jvm.LawKit.callS X70 hx (y := (⟨"java/lang/StringUTF16", "putChar", "([BII)V"⟩ : MethodName)) hown (mvT hZ (hw _ (List.mem_of_getElem? (i := 89) rfl))) (mvT hZ (hw _ (List.mem_of_getElem? (i := 90) rfl))) (mvT hZ (hw _ (List.mem_of_getElem? (i := 21) rfl))) (mvT hZ (hw _ (List.mem_of_getElem? (i := 91) rfl))) (by decide) (backOf (W := 0) (rmpc_2_1 l Z a0 hw [] b_68 kb_68 c1 (own_lb c0) (own_hb c0) (0 : Int32) (0 : Int32) T70.heap n0 Z70 r70_0 g_b_68 Od70 S__assertionsDisabled S_HI_BYTE_SHIFT S_LO_BYTE_SHIFT) hZ (hw _ (List.mem_of_getElem? (i := 91) rfl)) (hw _ (List.mem_of_getElem? (i := 21) rfl)) (by decide) (by decide)) (g := (mkF m 20 #[rv a1, iv (1 : Int32), iv (2 : Int32), rv b_68, iv (1 : Int32)] [(.int c1), (.int (1 : Int32)), (.ref b_68)])) rfl (by rw [hml]; rfl) (argsL := [(.ref b_68), (.int (1 : Int32)), (.int c1)]) (rest := []) (lenOf pd__28__5b_BII_29_V rfl) rfl (by show 2 * 0 + _ ≤ _; exact Nat.le_of_eq rfl) (hb hby d18_20) (fun _ hv => ⟨rfl, rfl, (by decide : 1 + 0 ≤ _), (by decide : 4 + 0 ≤ _)⟩)
  dsimp only [Pt.U, Pt.locs, Pt.cells, Pt.slots] at X72 l72 y72 z72 st72 hQ72
  subst l72 y72 z72
  refine own_by st72 ?_
  obtain ⟨rfl, Nq72, K72, r72_0⟩ := hQ72
  have Od72 := Od70.keep K72 (allS g_b_68 all0)
  have V_a1_72 := V_a1_70.keep K72 (ninS ne_a1_b_68 nin0)
  have Z72 : n0 ≤ T72.heap.size := Nat.le_trans Z70 K72.1
  have Kt72 := Kt70.trans K72 (allS (P := fun x => x ∈ _ ∨ _ ≤ x) (Or.inr sz_b_68) all0)
  have N72 := Fr.app N70 Nq72
  show own_Fin _ _ _ _ (T72.setTop (mkF m 23 #[rv a1, iv (1 : Int32), iv (2 : Int32), rv b_68, iv (1 : Int32)] []))
  refine own_go (XS.iinc X72.here hx rfl (hb hby d18_23) rfl rfl (Steps.refl _)) ?_
  show own_Fin _ _ _ _ (T72.setTop (mkF m 26 #[rv a1, iv (2 : Int32), iv (2 : Int32), rv b_68, iv (1 : Int32)] []))
  refine own_go (XS.iinc X72.here hx rfl (hb hby d18_26) rfl rfl (Steps.refl _)) ?_
  show own_Fin _ _ _ _ (T72.setTop (mkF m 29 #[rv a1, iv (2 : Int32), iv (2 : Int32), rv b_68, iv (2 : Int32)] []))
  refine own_go (XS.goto X72.here hx rfl (pc0 := 29) (pc' := 8) rfl (hb hby d18_29) (by decide) (by decide) (Steps.refl _)) ?_
  show own_Fin _ _ _ _ (T72.setTop (mkF m 8 #[rv a1, iv (2 : Int32), iv (2 : Int32), rv b_68, iv (2 : Int32)] []))
  refine own_go (XS.iload X72.here hx rfl (hb hby d18_8) rfl (Steps.refl _)) ?_
  show own_Fin _ _ _ _ (T72.setTop (mkF m 10 #[rv a1, iv (2 : Int32), iv (2 : Int32), rv b_68, iv (2 : Int32)] [(.int (2 : Int32))]))
  refine own_go (XS.iloadN X72.here hx rfl (hb hby d18_10) rfl (Steps.refl _)) ?_
  show own_Fin _ _ _ _ (T72.setTop (mkF m 11 #[rv a1, iv (2 : Int32), iv (2 : Int32), rv b_68, iv (2 : Int32)] [(.int (2 : Int32)), (.int (2 : Int32))]))
  refine own_go (XS.icmpYes X72.here hx rfl (pc0 := 11) (pc' := 32) rfl (hb hby d18_11) rfl (flt (by decide : ¬ ((2 : Int32) < (2 : Int32)))).2.1 (by decide) (by decide) (Steps.refl _)) ?_
  show own_Fin _ _ _ _ (T72.setTop (mkF m 32 #[rv a1, iv (2 : Int32), iv (2 : Int32), rv b_68, iv (2 : Int32)] []))
  refine own_go (XS.aloadN X72.here hx rfl (hb hby d18_32) rfl rfl (Steps.refl _)) ?_
  show own_Fin _ _ _ _ (T72.setTop (mkF m 33 #[rv a1, iv (2 : Int32), iv (2 : Int32), rv b_68, iv (2 : Int32)] [(.ref b_68)]))
  obtain ⟨fs73, hr73, hrun73, hended73, hW73, hsame73⟩ := X72.leave (v := some (.ref b_68)) (fun h => by rw [Bd.returns] at h; cases h)
  refine own_done (retOut X72 hx Bd.returns rfl (Or.inr (Or.inr (Or.inr (Or.inr ⟨rfl, rfl, rfl⟩)))) (hb hby d18_33) hr73) hrun73 hended73 ⟨_, _, rfl, ?_, ⟨_, rfl⟩, hW73, hsame73.mono (by decide) (by decide)⟩
  show Qtb_2 Z a1 k c0 c1 h0 n0 _ T72.heap _
  exact ⟨b_68, kb_68, rfl, N72, Kt72, g_b_68, sz_b_68, r72_0⟩
theorem ef_gc_2_0 (m : MethodId) (x0 : Addr) (x1 : Int32) : entryFrame m #[(.ref x0), (.int x1)] 2 = mkF m 0 #[.val (.ref x0), .val (.int x1)] [] := by first | (simp [entryFrame, mkF, argsToLocals, Value.category]; done) | rfl
def Qgc_2_0 (Z : State) (a1 : Addr) (k : ClassId) (c0 : Int32) (c1 : Int32) (h0 : Heap) (n0 : Nat) (v : Option Value) (h : Heap) (L : List Loc) : Prop := v = some (.int c0) ∧ Fr n0 L ∧ h = h0
abbrev Ggc_2_0 (Z : State) (a1 : Addr) (k : ClassId) (c0 : Int32) (c1 : Int32) (h0 : Heap) (n0 : Nat) (s : State) : Outcome → State → Prop := fun o U' => ∃ v L, o = .returned v ∧ Qgc_2_0 Z a1 k c0 c1 h0 n0 v U'.heap L ∧ FrameEnd s o U' L ({ frames := 0, cells := 0, slots := 0, locals := 0 } : Room).cells ({ frames := 0, cells := 0, slots := 0, locals := 0 } : Room).slots
set_option maxRecDepth 65536 in
set_option maxHeartbeats 40000000 in
theorem rmgc_2_0 (l : Launch) (Z : State) (a0 : Array Value) (hw : ∀ d ∈ tables_1, d.before a0 Z = true) (ws : List Jvm.Cond) (a1 : Addr) (k : ClassId) (c0 : Int32) (c1 : Int32) (h0 : Heap) (n0 : Nat) (Z0 : n0 ≤ h0.size) (V_a1 : Arv Z h0 a1 k .byte (4 : Int32) [(.int (own_lb c0)), (.int (own_hb c0)), (.int (own_lb c1)), (.int (own_hb c1))] (.int (0 : Int32))) (hr : own_ch c0) (O0 : Old Z n0 h0) (S__assertionsDisabled : Sta Z Z.heap "java/lang/StringUTF16" "$assertionsDisabled" "Z" (.int (1 : Int32))) (S_HI_BYTE_SHIFT : Sta Z Z.heap "java/lang/StringUTF16" "HI_BYTE_SHIFT" "I" (.int (0 : Int32))) (S_LO_BYTE_SHIFT : Sta Z Z.heap "java/lang/StringUTF16" "LO_BYTE_SHIFT" "I" (.int (8 : Int32))) :
    MetFree l (⟨"java/lang/StringUTF16", "getChar", "([BI)C"⟩ : MethodName) (head1 (Jvm.Cond.code (⟨"java/lang/StringUTF16", "getChar", "([BI)C"⟩ : MethodName) jdk_52_method_5_code 2 (some .char) :: ws) ({ frames := 0, cells := 0, slots := 0, locals := 0 } : Room)) (fun a U => a = #[(.ref a1), (.int (0 : Int32))] ∧ Z.Warmed39 U.vm ∧ U.heap = h0) (fun _ _ _ _ _ => True) (fun _ U o U' => ∃ v L, o = .returned v ∧ Qgc_2_0 Z a1 k c0 c1 h0 n0 v U'.heap L ∧ FrameEnd U o U' L ({ frames := 0, cells := 0, slots := 0, locals := 0 } : Room).cells ({ frames := 0, cells := 0, slots := 0, locals := 0 } : Room).slots) := by
  refine MetFree.of_bodySF (plainFor_of_name pn_java_lang_StringUTF16) hisR ?_
  intro p e s m args below meth c s₁ Bd hml0 hP hK
  obtain ⟨rfl, hZ, hh⟩ := hP
  have hx := Bd.exec
  have hby := Bd.bytes
  have hml : c.maxLocals = 2 := hml0
  have hown : s.vm.findClass "java/lang/StringUTF16" = some m.cls := findClass_of_methodNamed Bd.named
  have hnm := (name_of_methodNamed Bd.named Bd.method).1
  have X0 : Stand p l e ({ frames := 0, cells := 0, slots := 0, locals := 0 } : Room) s m #[(.ref a1), (.int (0 : Int32))] below meth c s₁ [] 0 0 := Stand.of_body Bd
  have e0 : s₁.heap = h0 := by rw [← hh, Bd.state]; rfl
  have es0 : s.heap = h0 := hh
  have N0 := Fr.nil n0
  show own_Fin p e below (Ggc_2_0 Z a1 k c0 c1 h0 n0 s) (s₁.setTop (entryFrame m #[(.ref a1), (.int (0 : Int32))] 2))
  rw [ef_gc_2_0 m a1 (0 : Int32)]
  obtain ⟨T74, X74, e74, st74⟩ := getS2 X0 hx hZ hown (host := "") (Or.inl (hw _ (List.mem_of_getElem? (i := 92) rfl))) Via.refl e0 (S__assertionsDisabled.ext O0.2) (g := (mkF m 0 #[rv a1, iv (0 : Int32)] [])) rfl (hb hby d22_0)
  refine own_by st74 ?_
  show own_Fin _ _ _ _ (T74.setTop (mkF m 3 #[rv a1, iv (0 : Int32)] [(.int (1 : Int32))]))
  refine own_go (XS.ifYes X74.here hx rfl (pc0 := 3) (pc' := 28) rfl (hb hby d22_3) rfl ((if0 _ _).trans (feq (by decide : ¬ ((1 : Int32) = (0 : Int32)))).2) (by decide) (by decide) (Steps.refl _)) ?_
  show own_Fin _ _ _ _ (T74.setTop (mkF m 28 #[rv a1, iv (0 : Int32)] []))
  refine own_go (XS.iloadN X74.here hx rfl (hb hby d22_28) rfl (Steps.refl _)) ?_
  show own_Fin _ _ _ _ (T74.setTop (mkF m 29 #[rv a1, iv (0 : Int32)] [(.int (0 : Int32))]))
  refine own_go (XS.iconst X74.here hx rfl (hb hby d22_29) (Steps.refl _)) ?_
  show own_Fin _ _ _ _ (T74.setTop (mkF m 30 #[rv a1, iv (0 : Int32)] [(.int (1 : Int32)), (.int (0 : Int32))]))
  refine own_go (XS.ishl X74.here hx rfl (hb hby d22_30) rfl (Steps.refl _)) ?_
  show own_Fin _ _ _ _ (T74.setTop (mkF m 31 #[rv a1, iv (0 : Int32)] [(.int (0 : Int32))]))
  refine own_go (XS.istoreN X74.here hx rfl (hb hby d22_31) rfl rfl (Steps.refl _)) ?_
  show own_Fin _ _ _ _ (T74.setTop (mkF m 32 #[rv a1, iv (0 : Int32)] []))
  refine own_go (XS.aloadN X74.here hx rfl (hb hby d22_32) rfl rfl (Steps.refl _)) ?_
  show own_Fin _ _ _ _ (T74.setTop (mkF m 33 #[rv a1, iv (0 : Int32)] [(.ref a1)]))
  refine own_go (XS.iloadN X74.here hx rfl (hb hby d22_33) rfl (Steps.refl _)) ?_
  show own_Fin _ _ _ _ (T74.setTop (mkF m 34 #[rv a1, iv (0 : Int32)] [(.int (0 : Int32)), (.ref a1)]))
  refine own_go (XS.iinc X74.here hx rfl (hb hby d22_34) rfl rfl (Steps.refl _)) ?_
  show own_Fin _ _ _ _ (T74.setTop (mkF m 37 #[rv a1, iv (1 : Int32)] [(.int (0 : Int32)), (.ref a1)]))
  obtain ⟨cl75, Ar75, qa75, Sa75, Na75, Ha75, Ga75⟩ := id V_a1
  have hin75 : ¬ ((0 : Int32) < 0 ∨ cl75.slots.size ≤ ((0 : Int32)).toNatClampNeg) := inb_of Sa75 ⟨by decide, by decide⟩
  have hat75 : cl75.slots[((0 : Int32)).toNatClampNeg]? = some (.int (own_lb c0)) := Has.at Ha75 hin75 rfl
  refine own_by (X74.baloadBytes hx (j := (0 : Int32)) (v := (.int (own_lb c0))) (by rw [e74]; exact Ar75.1) (State.isArrayOf_alike hZ.alike Ar75.2.1) Ar75.2.2 hin75 hat75 (g := (mkF m 37 #[rv a1, iv (1 : Int32)] [(.int (0 : Int32)), (.ref a1)])) rfl rfl (hb hby d22_37)) ?_
  show own_Fin _ _ _ _ (T74.setTop (mkF m 38 #[rv a1, iv (1 : Int32)] [(.int (own_lb c0))]))
  refine own_go (XS.sipush X74.here hx rfl (hb hby d22_38) (Steps.refl _)) ?_
  show own_Fin _ _ _ _ (T74.setTop (mkF m 41 #[rv a1, iv (1 : Int32)] [(.int (255 : Int32)), (.int (own_lb c0))]))
  refine own_go (XS.iand X74.here hx rfl (hb hby d22_41) rfl (Steps.refl _)) ?_
  show own_Fin _ _ _ _ (T74.setTop (mkF m 42 #[rv a1, iv (1 : Int32)] [(.int ((own_lb c0) &&& (255 : Int32)))]))
  obtain ⟨T76, X76, e76, st76⟩ := getS2 X74 hx hZ hown (host := "") (Or.inl (hw _ (List.mem_of_getElem? (i := 93) rfl))) Via.refl e74 (S_HI_BYTE_SHIFT.ext O0.2) (g := (mkF m 42 #[rv a1, iv (1 : Int32)] [(.int ((own_lb c0) &&& (255 : Int32)))])) rfl (hb hby d22_42)
  refine own_by st76 ?_
  show own_Fin _ _ _ _ (T76.setTop (mkF m 45 #[rv a1, iv (1 : Int32)] [(.int (0 : Int32)), (.int ((own_lb c0) &&& (255 : Int32)))]))
  refine own_go (XS.ishl X76.here hx rfl (hb hby d22_45) rfl (Steps.refl _)) ?_
  show own_Fin _ _ _ _ (T76.setTop (mkF m 46 #[rv a1, iv (1 : Int32)] [(.int (((own_lb c0) &&& (255 : Int32)) <<< ((0 : Int32) &&& 31)))]))
  refine own_go (XS.aloadN X76.here hx rfl (hb hby d22_46) rfl rfl (Steps.refl _)) ?_
  show own_Fin _ _ _ _ (T76.setTop (mkF m 47 #[rv a1, iv (1 : Int32)] [(.ref a1), (.int (((own_lb c0) &&& (255 : Int32)) <<< ((0 : Int32) &&& 31)))]))
  refine own_go (XS.iloadN X76.here hx rfl (hb hby d22_47) rfl (Steps.refl _)) ?_
  show own_Fin _ _ _ _ (T76.setTop (mkF m 48 #[rv a1, iv (1 : Int32)] [(.int (1 : Int32)), (.ref a1), (.int (((own_lb c0) &&& (255 : Int32)) <<< ((0 : Int32) &&& 31)))]))
  obtain ⟨cl77, Ar77, qa77, Sa77, Na77, Ha77, Ga77⟩ := id V_a1
  have hin77 : ¬ ((1 : Int32) < 0 ∨ cl77.slots.size ≤ ((1 : Int32)).toNatClampNeg) := inb_of Sa77 ⟨by decide, by decide⟩
  have hat77 : cl77.slots[((1 : Int32)).toNatClampNeg]? = some (.int (own_hb c0)) := Has.at Ha77 hin77 rfl
  refine own_by (X76.baloadBytes hx (j := (1 : Int32)) (v := (.int (own_hb c0))) (by rw [e76]; exact Ar77.1) (State.isArrayOf_alike hZ.alike Ar77.2.1) Ar77.2.2 hin77 hat77 (g := (mkF m 48 #[rv a1, iv (1 : Int32)] [(.int (1 : Int32)), (.ref a1), (.int (((own_lb c0) &&& (255 : Int32)) <<< ((0 : Int32) &&& 31)))])) rfl rfl (hb hby d22_48)) ?_
  show own_Fin _ _ _ _ (T76.setTop (mkF m 49 #[rv a1, iv (1 : Int32)] [(.int (own_hb c0)), (.int (((own_lb c0) &&& (255 : Int32)) <<< ((0 : Int32) &&& 31)))]))
  refine own_go (XS.sipush X76.here hx rfl (hb hby d22_49) (Steps.refl _)) ?_
  show own_Fin _ _ _ _ (T76.setTop (mkF m 52 #[rv a1, iv (1 : Int32)] [(.int (255 : Int32)), (.int (own_hb c0)), (.int (((own_lb c0) &&& (255 : Int32)) <<< ((0 : Int32) &&& 31)))]))
  refine own_go (XS.iand X76.here hx rfl (hb hby d22_52) rfl (Steps.refl _)) ?_
  show own_Fin _ _ _ _ (T76.setTop (mkF m 53 #[rv a1, iv (1 : Int32)] [(.int ((own_hb c0) &&& (255 : Int32))), (.int (((own_lb c0) &&& (255 : Int32)) <<< ((0 : Int32) &&& 31)))]))
  obtain ⟨T78, X78, e78, st78⟩ := getS2 X76 hx hZ hown (host := "") (Or.inl (hw _ (List.mem_of_getElem? (i := 94) rfl))) Via.refl e76 (S_LO_BYTE_SHIFT.ext O0.2) (g := (mkF m 53 #[rv a1, iv (1 : Int32)] [(.int ((own_hb c0) &&& (255 : Int32))), (.int (((own_lb c0) &&& (255 : Int32)) <<< ((0 : Int32) &&& 31)))])) rfl (hb hby d22_53)
  refine own_by st78 ?_
  show own_Fin _ _ _ _ (T78.setTop (mkF m 56 #[rv a1, iv (1 : Int32)] [(.int (8 : Int32)), (.int ((own_hb c0) &&& (255 : Int32))), (.int (((own_lb c0) &&& (255 : Int32)) <<< ((0 : Int32) &&& 31)))]))
  refine own_go (XS.ishl X78.here hx rfl (hb hby d22_56) rfl (Steps.refl _)) ?_
  show own_Fin _ _ _ _ (T78.setTop (mkF m 57 #[rv a1, iv (1 : Int32)] [(.int (((own_hb c0) &&& (255 : Int32)) <<< ((8 : Int32) &&& 31))), (.int (((own_lb c0) &&& (255 : Int32)) <<< ((0 : Int32) &&& 31)))]))
  refine own_go (XS.ior X78.here hx rfl (hb hby d22_57) rfl (Steps.refl _)) ?_
  show own_Fin _ _ _ _ (T78.setTop (mkF m 58 #[rv a1, iv (1 : Int32)] [(.int ((((own_lb c0) &&& (255 : Int32)) <<< ((0 : Int32) &&& 31)) ||| (((own_hb c0) &&& (255 : Int32)) <<< ((8 : Int32) &&& 31))))]))
  refine own_go (XS.i2c X78.here hx rfl (hb hby d22_58) rfl (Steps.refl _)) ?_
  show own_Fin _ _ _ _ (T78.setTop (mkF m 59 #[rv a1, iv (1 : Int32)] [(.int (((((own_lb c0) &&& (255 : Int32)) <<< ((0 : Int32) &&& 31)) ||| (((own_hb c0) &&& (255 : Int32)) <<< ((8 : Int32) &&& 31))).toUInt32.toUInt16.toUInt32.toInt32))]))
  obtain ⟨fs79, hr79, hrun79, hended79, hW79, hsame79⟩ := X78.leave (v := some (.int (nar .char (((((own_lb c0) &&& (255 : Int32)) <<< ((0 : Int32) &&& 31)) ||| (((own_hb c0) &&& (255 : Int32)) <<< ((8 : Int32) &&& 31))).toUInt32.toUInt16.toUInt32.toInt32)))) (fun h => by rw [Bd.returns] at h; cases h)
  refine own_done (retN X78 hx (t := .char) Bd.returns (by simp) (hb hby d22_59) hr79) hrun79 hended79 ⟨_, _, rfl, ?_, ⟨_, rfl⟩, hW79, hsame79.mono (by decide) (by decide)⟩
  show Qgc_2_0 Z a1 k c0 c1 h0 n0 _ T78.heap _
  rw [e78]
  exact ⟨(by rw [own_gc hr]), N0, rfl⟩
theorem ef_gc_2_1 (m : MethodId) (x0 : Addr) (x1 : Int32) : entryFrame m #[(.ref x0), (.int x1)] 2 = mkF m 0 #[.val (.ref x0), .val (.int x1)] [] := by first | (simp [entryFrame, mkF, argsToLocals, Value.category]; done) | rfl
def Qgc_2_1 (Z : State) (a1 : Addr) (k : ClassId) (c0 : Int32) (c1 : Int32) (h0 : Heap) (n0 : Nat) (v : Option Value) (h : Heap) (L : List Loc) : Prop := v = some (.int c1) ∧ Fr n0 L ∧ h = h0
abbrev Ggc_2_1 (Z : State) (a1 : Addr) (k : ClassId) (c0 : Int32) (c1 : Int32) (h0 : Heap) (n0 : Nat) (s : State) : Outcome → State → Prop := fun o U' => ∃ v L, o = .returned v ∧ Qgc_2_1 Z a1 k c0 c1 h0 n0 v U'.heap L ∧ FrameEnd s o U' L ({ frames := 0, cells := 0, slots := 0, locals := 0 } : Room).cells ({ frames := 0, cells := 0, slots := 0, locals := 0 } : Room).slots
set_option maxRecDepth 65536 in
set_option maxHeartbeats 40000000 in
theorem rmgc_2_1 (l : Launch) (Z : State) (a0 : Array Value) (hw : ∀ d ∈ tables_1, d.before a0 Z = true) (ws : List Jvm.Cond) (a1 : Addr) (k : ClassId) (c0 : Int32) (c1 : Int32) (h0 : Heap) (n0 : Nat) (Z0 : n0 ≤ h0.size) (V_a1 : Arv Z h0 a1 k .byte (4 : Int32) [(.int (own_lb c0)), (.int (own_hb c0)), (.int (own_lb c1)), (.int (own_hb c1))] (.int (0 : Int32))) (hr : own_ch c1) (O0 : Old Z n0 h0) (S__assertionsDisabled : Sta Z Z.heap "java/lang/StringUTF16" "$assertionsDisabled" "Z" (.int (1 : Int32))) (S_HI_BYTE_SHIFT : Sta Z Z.heap "java/lang/StringUTF16" "HI_BYTE_SHIFT" "I" (.int (0 : Int32))) (S_LO_BYTE_SHIFT : Sta Z Z.heap "java/lang/StringUTF16" "LO_BYTE_SHIFT" "I" (.int (8 : Int32))) :
    MetFree l (⟨"java/lang/StringUTF16", "getChar", "([BI)C"⟩ : MethodName) (head1 (Jvm.Cond.code (⟨"java/lang/StringUTF16", "getChar", "([BI)C"⟩ : MethodName) jdk_52_method_5_code 2 (some .char) :: ws) ({ frames := 0, cells := 0, slots := 0, locals := 0 } : Room)) (fun a U => a = #[(.ref a1), (.int (1 : Int32))] ∧ Z.Warmed39 U.vm ∧ U.heap = h0) (fun _ _ _ _ _ => True) (fun _ U o U' => ∃ v L, o = .returned v ∧ Qgc_2_1 Z a1 k c0 c1 h0 n0 v U'.heap L ∧ FrameEnd U o U' L ({ frames := 0, cells := 0, slots := 0, locals := 0 } : Room).cells ({ frames := 0, cells := 0, slots := 0, locals := 0 } : Room).slots) := by
  refine MetFree.of_bodySF (plainFor_of_name pn_java_lang_StringUTF16) hisR ?_
  intro p e s m args below meth c s₁ Bd hml0 hP hK
  obtain ⟨rfl, hZ, hh⟩ := hP
  have hx := Bd.exec
  have hby := Bd.bytes
  have hml : c.maxLocals = 2 := hml0
  have hown : s.vm.findClass "java/lang/StringUTF16" = some m.cls := findClass_of_methodNamed Bd.named
  have hnm := (name_of_methodNamed Bd.named Bd.method).1
  have X0 : Stand p l e ({ frames := 0, cells := 0, slots := 0, locals := 0 } : Room) s m #[(.ref a1), (.int (1 : Int32))] below meth c s₁ [] 0 0 := Stand.of_body Bd
  have e0 : s₁.heap = h0 := by rw [← hh, Bd.state]; rfl
  have es0 : s.heap = h0 := hh
  have N0 := Fr.nil n0
  show own_Fin p e below (Ggc_2_1 Z a1 k c0 c1 h0 n0 s) (s₁.setTop (entryFrame m #[(.ref a1), (.int (1 : Int32))] 2))
  rw [ef_gc_2_1 m a1 (1 : Int32)]
  obtain ⟨T80, X80, e80, st80⟩ := getS2 X0 hx hZ hown (host := "") (Or.inl (hw _ (List.mem_of_getElem? (i := 92) rfl))) Via.refl e0 (S__assertionsDisabled.ext O0.2) (g := (mkF m 0 #[rv a1, iv (1 : Int32)] [])) rfl (hb hby d22_0)
  refine own_by st80 ?_
  show own_Fin _ _ _ _ (T80.setTop (mkF m 3 #[rv a1, iv (1 : Int32)] [(.int (1 : Int32))]))
  refine own_go (XS.ifYes X80.here hx rfl (pc0 := 3) (pc' := 28) rfl (hb hby d22_3) rfl ((if0 _ _).trans (feq (by decide : ¬ ((1 : Int32) = (0 : Int32)))).2) (by decide) (by decide) (Steps.refl _)) ?_
  show own_Fin _ _ _ _ (T80.setTop (mkF m 28 #[rv a1, iv (1 : Int32)] []))
  refine own_go (XS.iloadN X80.here hx rfl (hb hby d22_28) rfl (Steps.refl _)) ?_
  show own_Fin _ _ _ _ (T80.setTop (mkF m 29 #[rv a1, iv (1 : Int32)] [(.int (1 : Int32))]))
  refine own_go (XS.iconst X80.here hx rfl (hb hby d22_29) (Steps.refl _)) ?_
  show own_Fin _ _ _ _ (T80.setTop (mkF m 30 #[rv a1, iv (1 : Int32)] [(.int (1 : Int32)), (.int (1 : Int32))]))
  refine own_go (XS.ishl X80.here hx rfl (hb hby d22_30) rfl (Steps.refl _)) ?_
  show own_Fin _ _ _ _ (T80.setTop (mkF m 31 #[rv a1, iv (1 : Int32)] [(.int (2 : Int32))]))
  refine own_go (XS.istoreN X80.here hx rfl (hb hby d22_31) rfl rfl (Steps.refl _)) ?_
  show own_Fin _ _ _ _ (T80.setTop (mkF m 32 #[rv a1, iv (2 : Int32)] []))
  refine own_go (XS.aloadN X80.here hx rfl (hb hby d22_32) rfl rfl (Steps.refl _)) ?_
  show own_Fin _ _ _ _ (T80.setTop (mkF m 33 #[rv a1, iv (2 : Int32)] [(.ref a1)]))
  refine own_go (XS.iloadN X80.here hx rfl (hb hby d22_33) rfl (Steps.refl _)) ?_
  show own_Fin _ _ _ _ (T80.setTop (mkF m 34 #[rv a1, iv (2 : Int32)] [(.int (2 : Int32)), (.ref a1)]))
  refine own_go (XS.iinc X80.here hx rfl (hb hby d22_34) rfl rfl (Steps.refl _)) ?_
  show own_Fin _ _ _ _ (T80.setTop (mkF m 37 #[rv a1, iv (3 : Int32)] [(.int (2 : Int32)), (.ref a1)]))
  obtain ⟨cl81, Ar81, qa81, Sa81, Na81, Ha81, Ga81⟩ := id V_a1
  have hin81 : ¬ ((2 : Int32) < 0 ∨ cl81.slots.size ≤ ((2 : Int32)).toNatClampNeg) := inb_of Sa81 ⟨by decide, by decide⟩
  have hat81 : cl81.slots[((2 : Int32)).toNatClampNeg]? = some (.int (own_lb c1)) := Has.at Ha81 hin81 rfl
  refine own_by (X80.baloadBytes hx (j := (2 : Int32)) (v := (.int (own_lb c1))) (by rw [e80]; exact Ar81.1) (State.isArrayOf_alike hZ.alike Ar81.2.1) Ar81.2.2 hin81 hat81 (g := (mkF m 37 #[rv a1, iv (3 : Int32)] [(.int (2 : Int32)), (.ref a1)])) rfl rfl (hb hby d22_37)) ?_
  show own_Fin _ _ _ _ (T80.setTop (mkF m 38 #[rv a1, iv (3 : Int32)] [(.int (own_lb c1))]))
  refine own_go (XS.sipush X80.here hx rfl (hb hby d22_38) (Steps.refl _)) ?_
  show own_Fin _ _ _ _ (T80.setTop (mkF m 41 #[rv a1, iv (3 : Int32)] [(.int (255 : Int32)), (.int (own_lb c1))]))
  refine own_go (XS.iand X80.here hx rfl (hb hby d22_41) rfl (Steps.refl _)) ?_
  show own_Fin _ _ _ _ (T80.setTop (mkF m 42 #[rv a1, iv (3 : Int32)] [(.int ((own_lb c1) &&& (255 : Int32)))]))
  obtain ⟨T82, X82, e82, st82⟩ := getS2 X80 hx hZ hown (host := "") (Or.inl (hw _ (List.mem_of_getElem? (i := 93) rfl))) Via.refl e80 (S_HI_BYTE_SHIFT.ext O0.2) (g := (mkF m 42 #[rv a1, iv (3 : Int32)] [(.int ((own_lb c1) &&& (255 : Int32)))])) rfl (hb hby d22_42)
  refine own_by st82 ?_
  show own_Fin _ _ _ _ (T82.setTop (mkF m 45 #[rv a1, iv (3 : Int32)] [(.int (0 : Int32)), (.int ((own_lb c1) &&& (255 : Int32)))]))
  refine own_go (XS.ishl X82.here hx rfl (hb hby d22_45) rfl (Steps.refl _)) ?_
  show own_Fin _ _ _ _ (T82.setTop (mkF m 46 #[rv a1, iv (3 : Int32)] [(.int (((own_lb c1) &&& (255 : Int32)) <<< ((0 : Int32) &&& 31)))]))
  refine own_go (XS.aloadN X82.here hx rfl (hb hby d22_46) rfl rfl (Steps.refl _)) ?_
  show own_Fin _ _ _ _ (T82.setTop (mkF m 47 #[rv a1, iv (3 : Int32)] [(.ref a1), (.int (((own_lb c1) &&& (255 : Int32)) <<< ((0 : Int32) &&& 31)))]))
  refine own_go (XS.iloadN X82.here hx rfl (hb hby d22_47) rfl (Steps.refl _)) ?_
  show own_Fin _ _ _ _ (T82.setTop (mkF m 48 #[rv a1, iv (3 : Int32)] [(.int (3 : Int32)), (.ref a1), (.int (((own_lb c1) &&& (255 : Int32)) <<< ((0 : Int32) &&& 31)))]))
  obtain ⟨cl83, Ar83, qa83, Sa83, Na83, Ha83, Ga83⟩ := id V_a1
  have hin83 : ¬ ((3 : Int32) < 0 ∨ cl83.slots.size ≤ ((3 : Int32)).toNatClampNeg) := inb_of Sa83 ⟨by decide, by decide⟩
  have hat83 : cl83.slots[((3 : Int32)).toNatClampNeg]? = some (.int (own_hb c1)) := Has.at Ha83 hin83 rfl
  refine own_by (X82.baloadBytes hx (j := (3 : Int32)) (v := (.int (own_hb c1))) (by rw [e82]; exact Ar83.1) (State.isArrayOf_alike hZ.alike Ar83.2.1) Ar83.2.2 hin83 hat83 (g := (mkF m 48 #[rv a1, iv (3 : Int32)] [(.int (3 : Int32)), (.ref a1), (.int (((own_lb c1) &&& (255 : Int32)) <<< ((0 : Int32) &&& 31)))])) rfl rfl (hb hby d22_48)) ?_
  show own_Fin _ _ _ _ (T82.setTop (mkF m 49 #[rv a1, iv (3 : Int32)] [(.int (own_hb c1)), (.int (((own_lb c1) &&& (255 : Int32)) <<< ((0 : Int32) &&& 31)))]))
  refine own_go (XS.sipush X82.here hx rfl (hb hby d22_49) (Steps.refl _)) ?_
  show own_Fin _ _ _ _ (T82.setTop (mkF m 52 #[rv a1, iv (3 : Int32)] [(.int (255 : Int32)), (.int (own_hb c1)), (.int (((own_lb c1) &&& (255 : Int32)) <<< ((0 : Int32) &&& 31)))]))
  refine own_go (XS.iand X82.here hx rfl (hb hby d22_52) rfl (Steps.refl _)) ?_
  show own_Fin _ _ _ _ (T82.setTop (mkF m 53 #[rv a1, iv (3 : Int32)] [(.int ((own_hb c1) &&& (255 : Int32))), (.int (((own_lb c1) &&& (255 : Int32)) <<< ((0 : Int32) &&& 31)))]))
  obtain ⟨T84, X84, e84, st84⟩ := getS2 X82 hx hZ hown (host := "") (Or.inl (hw _ (List.mem_of_getElem? (i := 94) rfl))) Via.refl e82 (S_LO_BYTE_SHIFT.ext O0.2) (g := (mkF m 53 #[rv a1, iv (3 : Int32)] [(.int ((own_hb c1) &&& (255 : Int32))), (.int (((own_lb c1) &&& (255 : Int32)) <<< ((0 : Int32) &&& 31)))])) rfl (hb hby d22_53)
  refine own_by st84 ?_
  show own_Fin _ _ _ _ (T84.setTop (mkF m 56 #[rv a1, iv (3 : Int32)] [(.int (8 : Int32)), (.int ((own_hb c1) &&& (255 : Int32))), (.int (((own_lb c1) &&& (255 : Int32)) <<< ((0 : Int32) &&& 31)))]))
  refine own_go (XS.ishl X84.here hx rfl (hb hby d22_56) rfl (Steps.refl _)) ?_
  show own_Fin _ _ _ _ (T84.setTop (mkF m 57 #[rv a1, iv (3 : Int32)] [(.int (((own_hb c1) &&& (255 : Int32)) <<< ((8 : Int32) &&& 31))), (.int (((own_lb c1) &&& (255 : Int32)) <<< ((0 : Int32) &&& 31)))]))
  refine own_go (XS.ior X84.here hx rfl (hb hby d22_57) rfl (Steps.refl _)) ?_
  show own_Fin _ _ _ _ (T84.setTop (mkF m 58 #[rv a1, iv (3 : Int32)] [(.int ((((own_lb c1) &&& (255 : Int32)) <<< ((0 : Int32) &&& 31)) ||| (((own_hb c1) &&& (255 : Int32)) <<< ((8 : Int32) &&& 31))))]))
  refine own_go (XS.i2c X84.here hx rfl (hb hby d22_58) rfl (Steps.refl _)) ?_
  show own_Fin _ _ _ _ (T84.setTop (mkF m 59 #[rv a1, iv (3 : Int32)] [(.int (((((own_lb c1) &&& (255 : Int32)) <<< ((0 : Int32) &&& 31)) ||| (((own_hb c1) &&& (255 : Int32)) <<< ((8 : Int32) &&& 31))).toUInt32.toUInt16.toUInt32.toInt32))]))
  obtain ⟨fs85, hr85, hrun85, hended85, hW85, hsame85⟩ := X84.leave (v := some (.int (nar .char (((((own_lb c1) &&& (255 : Int32)) <<< ((0 : Int32) &&& 31)) ||| (((own_hb c1) &&& (255 : Int32)) <<< ((8 : Int32) &&& 31))).toUInt32.toUInt16.toUInt32.toInt32)))) (fun h => by rw [Bd.returns] at h; cases h)
  refine own_done (retN X84 hx (t := .char) Bd.returns (by simp) (hb hby d22_59) hr85) hrun85 hended85 ⟨_, _, rfl, ?_, ⟨_, rfl⟩, hW85, hsame85.mono (by decide) (by decide)⟩
  show Qgc_2_1 Z a1 k c0 c1 h0 n0 _ T84.heap _
  rw [e84]
  exact ⟨(by rw [own_gc hr]), N0, rfl⟩
theorem ef_cfu_2 (m : MethodId) (x0 : Addr) (x1 : Int32) : entryFrame m #[(.ref x0), (.int x1)] 2 = mkF m 0 #[.val (.ref x0), .val (.int x1)] [] := by first | (simp [entryFrame, mkF, argsToLocals, Value.category]; done) | rfl
def Qcfu_2 (Z : State) (a1 : Addr) (k : ClassId) (c0 : Int32) (c1 : Int32) (h0 : Heap) (n0 : Nat) (v : Option Value) (h : Heap) (L : List Loc) : Prop := v = some (.int (1 : Int32)) ∧ Fr n0 L ∧ h = h0
abbrev Gcfu_2 (Z : State) (a1 : Addr) (k : ClassId) (c0 : Int32) (c1 : Int32) (h0 : Heap) (n0 : Nat) (s : State) : Outcome → State → Prop := fun o U' => ∃ v L, o = .returned v ∧ Qcfu_2 Z a1 k c0 c1 h0 n0 v U'.heap L ∧ FrameEnd s o U' L ({ frames := 0, cells := 0, slots := 0, locals := 0 } : Room).cells ({ frames := 0, cells := 0, slots := 0, locals := 0 } : Room).slots
set_option maxRecDepth 65536 in
set_option maxHeartbeats 40000000 in
theorem rmcfu_2 (l : Launch) (Z : State) (a0 : Array Value) (hw : ∀ d ∈ tables_1, d.before a0 Z = true) (ws : List Jvm.Cond) (a1 : Addr) (k : ClassId) (c0 : Int32) (c1 : Int32) (h0 : Heap) (n0 : Nat) (Z0 : n0 ≤ h0.size) (V_a1 : Arv Z h0 a1 k .byte (4 : Int32) [(.int (own_lb c0)), (.int (own_hb c0)), (.int (own_lb c1)), (.int (own_hb c1))] (.int (0 : Int32))) :
    MetFree l (⟨"java/lang/StringUTF16", "coderFromArrayLen", "([BI)B"⟩ : MethodName) (head1 (Jvm.Cond.code (⟨"java/lang/StringUTF16", "coderFromArrayLen", "([BI)B"⟩ : MethodName) jdk_52_method_15_code 2 (some .byte) :: ws) ({ frames := 0, cells := 0, slots := 0, locals := 0 } : Room)) (fun a U => a = #[(.ref a1), (.int (2 : Int32))] ∧ Z.Warmed39 U.vm ∧ U.heap = h0) (fun _ _ _ _ _ => True) (fun _ U o U' => ∃ v L, o = .returned v ∧ Qcfu_2 Z a1 k c0 c1 h0 n0 v U'.heap L ∧ FrameEnd U o U' L ({ frames := 0, cells := 0, slots := 0, locals := 0 } : Room).cells ({ frames := 0, cells := 0, slots := 0, locals := 0 } : Room).slots) := by
  refine MetFree.of_bodySF (plainFor_of_name pn_java_lang_StringUTF16) hisR ?_
  intro p e s m args below meth c s₁ Bd hml0 hP hK
  obtain ⟨rfl, hZ, hh⟩ := hP
  have hx := Bd.exec
  have hby := Bd.bytes
  have hml : c.maxLocals = 2 := hml0
  have hown : s.vm.findClass "java/lang/StringUTF16" = some m.cls := findClass_of_methodNamed Bd.named
  have hnm := (name_of_methodNamed Bd.named Bd.method).1
  have X0 : Stand p l e ({ frames := 0, cells := 0, slots := 0, locals := 0 } : Room) s m #[(.ref a1), (.int (2 : Int32))] below meth c s₁ [] 0 0 := Stand.of_body Bd
  have e0 : s₁.heap = h0 := by rw [← hh, Bd.state]; rfl
  have es0 : s.heap = h0 := hh
  have N0 := Fr.nil n0
  show own_Fin p e below (Gcfu_2 Z a1 k c0 c1 h0 n0 s) (s₁.setTop (entryFrame m #[(.ref a1), (.int (2 : Int32))] 2))
  rw [ef_cfu_2 m a1 (2 : Int32)]
  refine own_go (XS.iloadN X0.here hx rfl (hb hby d7_0) rfl (Steps.refl _)) ?_
  show own_Fin _ _ _ _ (s₁.setTop (mkF m 1 #[rv a1, iv (2 : Int32)] [(.int (2 : Int32))]))
  refine own_go (XS.aloadN X0.here hx rfl (hb hby d7_1) rfl rfl (Steps.refl _)) ?_
  show own_Fin _ _ _ _ (s₁.setTop (mkF m 2 #[rv a1, iv (2 : Int32)] [(.ref a1), (.int (2 : Int32))]))
  obtain ⟨cl86, Ar86, qa86, Sa86, Na86, Ha86, Ga86⟩ := id V_a1
  refine own_by (X0.arraylength hx (by rw [e0]; exact Ar86.1) (State.isArrayOf_alike hZ.alike Ar86.2.1) (g := (mkF m 2 #[rv a1, iv (2 : Int32)] [(.ref a1), (.int (2 : Int32))])) rfl rfl (hb hby d7_2)) ?_
  rw [len_of Sa86 Na86]
  show own_Fin _ _ _ _ (s₁.setTop (mkF m 3 #[rv a1, iv (2 : Int32)] [(.int (4 : Int32)), (.int (2 : Int32))]))
  refine own_go (XS.isub X0.here hx rfl (hb hby d7_3) rfl (Steps.refl _)) ?_
  show own_Fin _ _ _ _ (s₁.setTop (mkF m 4 #[rv a1, iv (2 : Int32)] [(.int (-2 : Int32))]))
  refine own_go (XS.bipush X0.here hx rfl (hb hby d7_4) (Steps.refl _)) ?_
  show own_Fin _ _ _ _ (s₁.setTop (mkF m 6 #[rv a1, iv (2 : Int32)] [(.int (31 : Int32)), (.int (-2 : Int32))]))
  refine own_go (XS.iushr X0.here hx rfl (hb hby d7_6) rfl (Steps.refl _)) ?_
  show own_Fin _ _ _ _ (s₁.setTop (mkF m 7 #[rv a1, iv (2 : Int32)] [(.int (1 : Int32))]))
  refine own_go (XS.i2b X0.here hx rfl (hb hby d7_7) rfl (Steps.refl _)) ?_
  show own_Fin _ _ _ _ (s₁.setTop (mkF m 8 #[rv a1, iv (2 : Int32)] [(.int ((1 : Int32).toInt8.toInt32))]))
  obtain ⟨fs87, hr87, hrun87, hended87, hW87, hsame87⟩ := X0.leave (v := some (.int (nar .byte ((1 : Int32).toInt8.toInt32)))) (fun h => by rw [Bd.returns] at h; cases h)
  refine own_done (retN X0 hx (t := .byte) Bd.returns (by simp) (hb hby d7_8) hr87) hrun87 hended87 ⟨_, _, rfl, ?_, ⟨_, rfl⟩, hW87, hsame87.mono (by decide) (by decide)⟩
  show Qcfu_2 Z a1 k c0 c1 h0 n0 _ s₁.heap _
  rw [e0]
  exact ⟨(by decide), N0, rfl⟩
theorem ef_cmu_2_0 (m : MethodId) (x0 : Addr) (x1 : Int32) (x2 : Addr) (x3 : Int32) (x4 : Int32) : entryFrame m #[(.ref x0), (.int x1), (.ref x2), (.int x3), (.int x4)] 7 = mkF m 0 #[.val (.ref x0), .val (.int x1), .val (.ref x2), .val (.int x3), .val (.int x4), .unset, .unset] [] := by first | (simp [entryFrame, mkF, argsToLocals, Value.category]; done) | rfl
def Qcmu_2_0 (Z : State) (a1 : Addr) (k : ClassId) (a3 : Addr) (kb : ClassId) (c0 : Int32) (c1 : Int32) (h0 : Heap) (n0 : Nat) (v : Option Value) (h : Heap) (L : List Loc) : Prop := v = some (.int (0 : Int32)) ∧ Fr n0 L ∧ Keep h0 h [a3]
abbrev Gcmu_2_0 (Z : State) (a1 : Addr) (k : ClassId) (a3 : Addr) (kb : ClassId) (c0 : Int32) (c1 : Int32) (h0 : Heap) (n0 : Nat) (s : State) : Outcome → State → Prop := fun o U' => ∃ v L, o = .returned v ∧ Qcmu_2_0 Z a1 k a3 kb c0 c1 h0 n0 v U'.heap L ∧ FrameEnd s o U' L ({ frames := 0, cells := 0, slots := 0, locals := 0 } : Room).cells ({ frames := 0, cells := 0, slots := 0, locals := 0 } : Room).slots
set_option maxRecDepth 65536 in
set_option maxHeartbeats 40000000 in
theorem rmcmu_2_0 (l : Launch) (Z : State) (a0 : Array Value) (hw : ∀ d ∈ tables_1, d.before a0 Z = true) (ws : List Jvm.Cond) (a1 : Addr) (k : ClassId) (a3 : Addr) (kb : ClassId) (c0 : Int32) (c1 : Int32) (h0 : Heap) (n0 : Nat) (Z0 : n0 ≤ h0.size) (V_a1 : Arv Z h0 a1 k .char (2 : Int32) [(.int c0), (.int c1)] (.int (0 : Int32))) (V_a3 : Arv Z h0 a3 kb .byte (2 : Int32) [(.int (0 : Int32)), (.int (0 : Int32))] (.int (0 : Int32))) (g_a3 : n0 ≤ a3) (ne13 : a1 ≠ a3) (hg0 : (255 : Int32) < c0) :
    MetFree l (⟨"java/lang/StringUTF16", "compress", "([CI[BII)I"⟩ : MethodName) (head1 (Jvm.Cond.code (⟨"java/lang/StringUTF16", "compress", "([CI[BII)I"⟩ : MethodName) jdk_52_method_21_code 7 (some .int) :: ws) ({ frames := 0, cells := 0, slots := 0, locals := 0 } : Room)) (fun a U => a = #[(.ref a1), (.int (0 : Int32)), (.ref a3), (.int (0 : Int32)), (.int (2 : Int32))] ∧ Z.Warmed39 U.vm ∧ U.heap = h0) (fun _ _ _ _ _ => True) (fun _ U o U' => ∃ v L, o = .returned v ∧ Qcmu_2_0 Z a1 k a3 kb c0 c1 h0 n0 v U'.heap L ∧ FrameEnd U o U' L ({ frames := 0, cells := 0, slots := 0, locals := 0 } : Room).cells ({ frames := 0, cells := 0, slots := 0, locals := 0 } : Room).slots) := by
  refine MetFree.of_bodySF (plainFor_of_name pn_java_lang_StringUTF16) hisR ?_
  intro p e s m args below meth c s₁ Bd hml0 hP hK
  obtain ⟨rfl, hZ, hh⟩ := hP
  have hx := Bd.exec
  have hby := Bd.bytes
  have hml : c.maxLocals = 7 := hml0
  have hown : s.vm.findClass "java/lang/StringUTF16" = some m.cls := findClass_of_methodNamed Bd.named
  have hnm := (name_of_methodNamed Bd.named Bd.method).1
  have X0 : Stand p l e ({ frames := 0, cells := 0, slots := 0, locals := 0 } : Room) s m #[(.ref a1), (.int (0 : Int32)), (.ref a3), (.int (0 : Int32)), (.int (2 : Int32))] below meth c s₁ [] 0 0 := Stand.of_body Bd
  have e0 : s₁.heap = h0 := by rw [← hh, Bd.state]; rfl
  have es0 : s.heap = h0 := hh
  have N0 := Fr.nil n0
  show own_Fin p e below (Gcmu_2_0 Z a1 k a3 kb c0 c1 h0 n0 s) (s₁.setTop (entryFrame m #[(.ref a1), (.int (0 : Int32)), (.ref a3), (.int (0 : Int32)), (.int (2 : Int32))] 7))
  rw [ef_cmu_2_0 m a1 (0 : Int32) a3 (0 : Int32) (2 : Int32)]
  have Kz := Keep.refl h0 [a3]
  refine own_go (XS.iconst X0.here hx rfl (hb hby d6_0) (Steps.refl _)) ?_
  show own_Fin _ _ _ _ (s₁.setTop (mkF m 1 #[rv a1, iv (0 : Int32), rv a3, iv (0 : Int32), iv (2 : Int32), .unset, .unset] [(.int (0 : Int32))]))
  refine own_go (XS.istore X0.here hx rfl (hb hby d6_1) rfl rfl (Steps.refl _)) ?_
  show own_Fin _ _ _ _ (s₁.setTop (mkF m 3 #[rv a1, iv (0 : Int32), rv a3, iv (0 : Int32), iv (2 : Int32), iv (0 : Int32), .unset] []))
  refine own_go (XS.iload X0.here hx rfl (hb hby d6_3) rfl (Steps.refl _)) ?_
  show own_Fin _ _ _ _ (s₁.setTop (mkF m 5 #[rv a1, iv (0 : Int32), rv a3, iv (0 : Int32), iv (2 : Int32), iv (0 : Int32), .unset] [(.int (0 : Int32))]))
  refine own_go (XS.iload X0.here hx rfl (hb hby d6_5) rfl (Steps.refl _)) ?_
  show own_Fin _ _ _ _ (s₁.setTop (mkF m 7 #[rv a1, iv (0 : Int32), rv a3, iv (0 : Int32), iv (2 : Int32), iv (0 : Int32), .unset] [(.int (2 : Int32)), (.int (0 : Int32))]))
  refine own_go (XS.icmpNo X0.here hx rfl (hb hby d6_7) rfl (tlt (by decide : (0 : Int32) < (2 : Int32))).2.1 (Steps.refl _)) ?_
  show own_Fin _ _ _ _ (s₁.setTop (mkF m 10 #[rv a1, iv (0 : Int32), rv a3, iv (0 : Int32), iv (2 : Int32), iv (0 : Int32), .unset] []))
  refine own_go (XS.aloadN X0.here hx rfl (hb hby d6_10) rfl rfl (Steps.refl _)) ?_
  show own_Fin _ _ _ _ (s₁.setTop (mkF m 11 #[rv a1, iv (0 : Int32), rv a3, iv (0 : Int32), iv (2 : Int32), iv (0 : Int32), .unset] [(.ref a1)]))
  refine own_go (XS.iloadN X0.here hx rfl (hb hby d6_11) rfl (Steps.refl _)) ?_
  show own_Fin _ _ _ _ (s₁.setTop (mkF m 12 #[rv a1, iv (0 : Int32), rv a3, iv (0 : Int32), iv (2 : Int32), iv (0 : Int32), .unset] [(.int (0 : Int32)), (.ref a1)]))
  obtain ⟨cl88, Ar88, qa88, Sa88, Na88, Ha88, Ga88⟩ := id V_a1
  have hin88 : ¬ ((0 : Int32) < 0 ∨ cl88.slots.size ≤ ((0 : Int32)).toNatClampNeg) := inb_of Sa88 ⟨by decide, by decide⟩
  have hat88 : cl88.slots[((0 : Int32)).toNatClampNeg]? = some (.int c0) := Has.at Ha88 hin88 rfl
  refine own_by (X0.caload hx (j := (0 : Int32)) (v := (.int c0)) (by rw [e0]; exact Ar88.1) (State.isArrayOf_alike hZ.alike Ar88.2.1) Ar88.2.2 hin88 hat88 (g := (mkF m 12 #[rv a1, iv (0 : Int32), rv a3, iv (0 : Int32), iv (2 : Int32), iv (0 : Int32), .unset] [(.int (0 : Int32)), (.ref a1)])) rfl rfl (hb hby d6_12)) ?_
  show own_Fin _ _ _ _ (s₁.setTop (mkF m 13 #[rv a1, iv (0 : Int32), rv a3, iv (0 : Int32), iv (2 : Int32), iv (0 : Int32), .unset] [(.int c0)]))
  refine own_go (XS.istore X0.here hx rfl (hb hby d6_13) rfl rfl (Steps.refl _)) ?_
  show own_Fin _ _ _ _ (s₁.setTop (mkF m 15 #[rv a1, iv (0 : Int32), rv a3, iv (0 : Int32), iv (2 : Int32), iv (0 : Int32), iv c0] []))
  refine own_go (XS.iload X0.here hx rfl (hb hby d6_15) rfl (Steps.refl _)) ?_
  show own_Fin _ _ _ _ (s₁.setTop (mkF m 17 #[rv a1, iv (0 : Int32), rv a3, iv (0 : Int32), iv (2 : Int32), iv (0 : Int32), iv c0] [(.int c0)]))
  refine own_go (XS.sipush X0.here hx rfl (hb hby d6_17) (Steps.refl _)) ?_
  show own_Fin _ _ _ _ (s₁.setTop (mkF m 20 #[rv a1, iv (0 : Int32), rv a3, iv (0 : Int32), iv (2 : Int32), iv (0 : Int32), iv c0] [(.int (255 : Int32)), (.int c0)]))
  refine own_go (XS.icmpNo X0.here hx rfl (hb hby d6_20) rfl (tlt (show (255 : Int32) < c0 from hg0)).2.2.2 (Steps.refl _)) ?_
  show own_Fin _ _ _ _ (s₁.setTop (mkF m 23 #[rv a1, iv (0 : Int32), rv a3, iv (0 : Int32), iv (2 : Int32), iv (0 : Int32), iv c0] []))
  refine own_go (XS.iload X0.here hx rfl (hb hby d6_23) rfl (Steps.refl _)) ?_
  show own_Fin _ _ _ _ (s₁.setTop (mkF m 25 #[rv a1, iv (0 : Int32), rv a3, iv (0 : Int32), iv (2 : Int32), iv (0 : Int32), iv c0] [(.int (0 : Int32))]))
  obtain ⟨fs89, hr89, hrun89, hended89, hW89, hsame89⟩ := X0.leave (v := some (.int (0 : Int32))) (fun h => by rw [Bd.returns] at h; cases h)
  refine own_done (own_retI X0 hx Bd.returns (hb hby d6_25) hr89) hrun89 hended89 ⟨_, _, rfl, ?_, ⟨_, rfl⟩, hW89, hsame89.mono (by decide) (by decide)⟩
  show Qcmu_2_0 Z a1 k a3 kb c0 c1 h0 n0 _ s₁.heap _
  rw [e0]
  exact ⟨rfl, N0, Kz⟩
theorem ef_cmu_2_1 (m : MethodId) (x0 : Addr) (x1 : Int32) (x2 : Addr) (x3 : Int32) (x4 : Int32) : entryFrame m #[(.ref x0), (.int x1), (.ref x2), (.int x3), (.int x4)] 7 = mkF m 0 #[.val (.ref x0), .val (.int x1), .val (.ref x2), .val (.int x3), .val (.int x4), .unset, .unset] [] := by first | (simp [entryFrame, mkF, argsToLocals, Value.category]; done) | rfl
def Qcmu_2_1 (Z : State) (a1 : Addr) (k : ClassId) (a3 : Addr) (kb : ClassId) (c0 : Int32) (c1 : Int32) (h0 : Heap) (n0 : Nat) (v : Option Value) (h : Heap) (L : List Loc) : Prop := v = some (.int (1 : Int32)) ∧ Fr n0 L ∧ Keep h0 h [a3]
abbrev Gcmu_2_1 (Z : State) (a1 : Addr) (k : ClassId) (a3 : Addr) (kb : ClassId) (c0 : Int32) (c1 : Int32) (h0 : Heap) (n0 : Nat) (s : State) : Outcome → State → Prop := fun o U' => ∃ v L, o = .returned v ∧ Qcmu_2_1 Z a1 k a3 kb c0 c1 h0 n0 v U'.heap L ∧ FrameEnd s o U' L ({ frames := 0, cells := 0, slots := 0, locals := 0 } : Room).cells ({ frames := 0, cells := 0, slots := 0, locals := 0 } : Room).slots
set_option maxRecDepth 65536 in
set_option maxHeartbeats 40000000 in
theorem rmcmu_2_1 (l : Launch) (Z : State) (a0 : Array Value) (hw : ∀ d ∈ tables_1, d.before a0 Z = true) (ws : List Jvm.Cond) (a1 : Addr) (k : ClassId) (a3 : Addr) (kb : ClassId) (c0 : Int32) (c1 : Int32) (h0 : Heap) (n0 : Nat) (Z0 : n0 ≤ h0.size) (V_a1 : Arv Z h0 a1 k .char (2 : Int32) [(.int c0), (.int c1)] (.int (0 : Int32))) (V_a3 : Arv Z h0 a3 kb .byte (2 : Int32) [(.int (0 : Int32)), (.int (0 : Int32))] (.int (0 : Int32))) (g_a3 : n0 ≤ a3) (ne13 : a1 ≠ a3) (hg0 : ¬ (255 : Int32) < c0) (hg1 : (255 : Int32) < c1) :
    MetFree l (⟨"java/lang/StringUTF16", "compress", "([CI[BII)I"⟩ : MethodName) (head1 (Jvm.Cond.code (⟨"java/lang/StringUTF16", "compress", "([CI[BII)I"⟩ : MethodName) jdk_52_method_21_code 7 (some .int) :: ws) ({ frames := 0, cells := 0, slots := 0, locals := 0 } : Room)) (fun a U => a = #[(.ref a1), (.int (0 : Int32)), (.ref a3), (.int (0 : Int32)), (.int (2 : Int32))] ∧ Z.Warmed39 U.vm ∧ U.heap = h0) (fun _ _ _ _ _ => True) (fun _ U o U' => ∃ v L, o = .returned v ∧ Qcmu_2_1 Z a1 k a3 kb c0 c1 h0 n0 v U'.heap L ∧ FrameEnd U o U' L ({ frames := 0, cells := 0, slots := 0, locals := 0 } : Room).cells ({ frames := 0, cells := 0, slots := 0, locals := 0 } : Room).slots) := by
  refine MetFree.of_bodySF (plainFor_of_name pn_java_lang_StringUTF16) hisR ?_
  intro p e s m args below meth c s₁ Bd hml0 hP hK
  obtain ⟨rfl, hZ, hh⟩ := hP
  have hx := Bd.exec
  have hby := Bd.bytes
  have hml : c.maxLocals = 7 := hml0
  have hown : s.vm.findClass "java/lang/StringUTF16" = some m.cls := findClass_of_methodNamed Bd.named
  have hnm := (name_of_methodNamed Bd.named Bd.method).1
  have X0 : Stand p l e ({ frames := 0, cells := 0, slots := 0, locals := 0 } : Room) s m #[(.ref a1), (.int (0 : Int32)), (.ref a3), (.int (0 : Int32)), (.int (2 : Int32))] below meth c s₁ [] 0 0 := Stand.of_body Bd
  have e0 : s₁.heap = h0 := by rw [← hh, Bd.state]; rfl
  have es0 : s.heap = h0 := hh
  have N0 := Fr.nil n0
  show own_Fin p e below (Gcmu_2_1 Z a1 k a3 kb c0 c1 h0 n0 s) (s₁.setTop (entryFrame m #[(.ref a1), (.int (0 : Int32)), (.ref a3), (.int (0 : Int32)), (.int (2 : Int32))] 7))
  rw [ef_cmu_2_1 m a1 (0 : Int32) a3 (0 : Int32) (2 : Int32)]
  have Kz := Keep.refl h0 [a3]
  refine own_go (XS.iconst X0.here hx rfl (hb hby d6_0) (Steps.refl _)) ?_
  show own_Fin _ _ _ _ (s₁.setTop (mkF m 1 #[rv a1, iv (0 : Int32), rv a3, iv (0 : Int32), iv (2 : Int32), .unset, .unset] [(.int (0 : Int32))]))
  refine own_go (XS.istore X0.here hx rfl (hb hby d6_1) rfl rfl (Steps.refl _)) ?_
  show own_Fin _ _ _ _ (s₁.setTop (mkF m 3 #[rv a1, iv (0 : Int32), rv a3, iv (0 : Int32), iv (2 : Int32), iv (0 : Int32), .unset] []))
  refine own_go (XS.iload X0.here hx rfl (hb hby d6_3) rfl (Steps.refl _)) ?_
  show own_Fin _ _ _ _ (s₁.setTop (mkF m 5 #[rv a1, iv (0 : Int32), rv a3, iv (0 : Int32), iv (2 : Int32), iv (0 : Int32), .unset] [(.int (0 : Int32))]))
  refine own_go (XS.iload X0.here hx rfl (hb hby d6_5) rfl (Steps.refl _)) ?_
  show own_Fin _ _ _ _ (s₁.setTop (mkF m 7 #[rv a1, iv (0 : Int32), rv a3, iv (0 : Int32), iv (2 : Int32), iv (0 : Int32), .unset] [(.int (2 : Int32)), (.int (0 : Int32))]))
  refine own_go (XS.icmpNo X0.here hx rfl (hb hby d6_7) rfl (tlt (by decide : (0 : Int32) < (2 : Int32))).2.1 (Steps.refl _)) ?_
  show own_Fin _ _ _ _ (s₁.setTop (mkF m 10 #[rv a1, iv (0 : Int32), rv a3, iv (0 : Int32), iv (2 : Int32), iv (0 : Int32), .unset] []))
  refine own_go (XS.aloadN X0.here hx rfl (hb hby d6_10) rfl rfl (Steps.refl _)) ?_
  show own_Fin _ _ _ _ (s₁.setTop (mkF m 11 #[rv a1, iv (0 : Int32), rv a3, iv (0 : Int32), iv (2 : Int32), iv (0 : Int32), .unset] [(.ref a1)]))
  refine own_go (XS.iloadN X0.here hx rfl (hb hby d6_11) rfl (Steps.refl _)) ?_
  show own_Fin _ _ _ _ (s₁.setTop (mkF m 12 #[rv a1, iv (0 : Int32), rv a3, iv (0 : Int32), iv (2 : Int32), iv (0 : Int32), .unset] [(.int (0 : Int32)), (.ref a1)]))
  obtain ⟨cl90, Ar90, qa90, Sa90, Na90, Ha90, Ga90⟩ := id V_a1
  have hin90 : ¬ ((0 : Int32) < 0 ∨ cl90.slots.size ≤ ((0 : Int32)).toNatClampNeg) := inb_of Sa90 ⟨by decide, by decide⟩
  have hat90 : cl90.slots[((0 : Int32)).toNatClampNeg]? = some (.int c0) := Has.at Ha90 hin90 rfl
  refine own_by (X0.caload hx (j := (0 : Int32)) (v := (.int c0)) (by rw [e0]; exact Ar90.1) (State.isArrayOf_alike hZ.alike Ar90.2.1) Ar90.2.2 hin90 hat90 (g := (mkF m 12 #[rv a1, iv (0 : Int32), rv a3, iv (0 : Int32), iv (2 : Int32), iv (0 : Int32), .unset] [(.int (0 : Int32)), (.ref a1)])) rfl rfl (hb hby d6_12)) ?_
  show own_Fin _ _ _ _ (s₁.setTop (mkF m 13 #[rv a1, iv (0 : Int32), rv a3, iv (0 : Int32), iv (2 : Int32), iv (0 : Int32), .unset] [(.int c0)]))
  refine own_go (XS.istore X0.here hx rfl (hb hby d6_13) rfl rfl (Steps.refl _)) ?_
  show own_Fin _ _ _ _ (s₁.setTop (mkF m 15 #[rv a1, iv (0 : Int32), rv a3, iv (0 : Int32), iv (2 : Int32), iv (0 : Int32), iv c0] []))
  refine own_go (XS.iload X0.here hx rfl (hb hby d6_15) rfl (Steps.refl _)) ?_
  show own_Fin _ _ _ _ (s₁.setTop (mkF m 17 #[rv a1, iv (0 : Int32), rv a3, iv (0 : Int32), iv (2 : Int32), iv (0 : Int32), iv c0] [(.int c0)]))
  refine own_go (XS.sipush X0.here hx rfl (hb hby d6_17) (Steps.refl _)) ?_
  show own_Fin _ _ _ _ (s₁.setTop (mkF m 20 #[rv a1, iv (0 : Int32), rv a3, iv (0 : Int32), iv (2 : Int32), iv (0 : Int32), iv c0] [(.int (255 : Int32)), (.int c0)]))
  refine own_go (XS.icmpYes X0.here hx rfl (pc0 := 20) (pc' := 26) rfl (hb hby d6_20) rfl (flt (show ¬ ((255 : Int32) < c0) from hg0)).2.2.2 (by decide) (by decide) (Steps.refl _)) ?_
  show own_Fin _ _ _ _ (s₁.setTop (mkF m 26 #[rv a1, iv (0 : Int32), rv a3, iv (0 : Int32), iv (2 : Int32), iv (0 : Int32), iv c0] []))
  refine own_go (XS.aloadN X0.here hx rfl (hb hby d6_26) rfl rfl (Steps.refl _)) ?_
  show own_Fin _ _ _ _ (s₁.setTop (mkF m 27 #[rv a1, iv (0 : Int32), rv a3, iv (0 : Int32), iv (2 : Int32), iv (0 : Int32), iv c0] [(.ref a3)]))
  refine own_go (XS.iloadN X0.here hx rfl (hb hby d6_27) rfl (Steps.refl _)) ?_
  show own_Fin _ _ _ _ (s₁.setTop (mkF m 28 #[rv a1, iv (0 : Int32), rv a3, iv (0 : Int32), iv (2 : Int32), iv (0 : Int32), iv c0] [(.int (0 : Int32)), (.ref a3)]))
  refine own_go (XS.iload X0.here hx rfl (hb hby d6_28) rfl (Steps.refl _)) ?_
  show own_Fin _ _ _ _ (s₁.setTop (mkF m 30 #[rv a1, iv (0 : Int32), rv a3, iv (0 : Int32), iv (2 : Int32), iv (0 : Int32), iv c0] [(.int c0), (.int (0 : Int32)), (.ref a3)]))
  refine own_go (XS.i2b X0.here hx rfl (hb hby d6_30) rfl (Steps.refl _)) ?_
  show own_Fin _ _ _ _ (s₁.setTop (mkF m 31 #[rv a1, iv (0 : Int32), rv a3, iv (0 : Int32), iv (2 : Int32), iv (0 : Int32), iv c0] [(.int (c0.toInt8.toInt32)), (.int (0 : Int32)), (.ref a3)]))
  obtain ⟨cl91, Ar91, qa91, Sa91, Na91, Ha91, Ga91⟩ := id V_a3
  have hin91 : ¬ ((0 : Int32) < 0 ∨ cl91.slots.size ≤ ((0 : Int32)).toNatClampNeg) := inb_of Sa91 ⟨by decide, by decide⟩
  obtain ⟨T92, h92, X92, e92, W92, st92⟩ := stB X0 hx hZ e0 Ar91 (j := (0 : Int32)) hin91 (g := (mkF m 31 #[rv a1, iv (0 : Int32), rv a3, iv (0 : Int32), iv (2 : Int32), iv (0 : Int32), iv c0] [(.int (c0.toInt8.toInt32)), (.int (0 : Int32)), (.ref a3)])) rfl rfl (hb hby d6_31)
  refine own_by st92 ?_
  have V_a3_92 : Arv Z h92 a3 kb .byte (2 : Int32) [(.int (nar .byte (c0.toInt8.toInt32))), (.int (0 : Int32))] (.int (0 : Int32)) := Arv.set Ar91 qa91 Sa91 Na91 Ha91 Ga91 (fits_nar_byte (c0.toInt8.toInt32)) W92 0 rfl (Nat.le_of_ble_eq_true rfl)
  have V_a1_92 := V_a1.other W92 ne13
  have N92 := Fr.snoc X92 N0 g_a3
  have Z92 : n0 ≤ h92.size := Nat.le_trans Z0 (Keep.of_wr W92).1
  have K92 := Kz.wr W92 (Or.inl (List.mem_of_getElem? (i := 0) rfl))
  show own_Fin _ _ _ _ (T92.setTop (mkF m 32 #[rv a1, iv (0 : Int32), rv a3, iv (0 : Int32), iv (2 : Int32), iv (0 : Int32), iv c0] []))
  refine own_go (XS.iinc X92.here hx rfl (hb hby d6_32) rfl rfl (Steps.refl _)) ?_
  show own_Fin _ _ _ _ (T92.setTop (mkF m 35 #[rv a1, iv (1 : Int32), rv a3, iv (0 : Int32), iv (2 : Int32), iv (0 : Int32), iv c0] []))
  refine own_go (XS.iinc X92.here hx rfl (hb hby d6_35) rfl rfl (Steps.refl _)) ?_
  show own_Fin _ _ _ _ (T92.setTop (mkF m 38 #[rv a1, iv (1 : Int32), rv a3, iv (1 : Int32), iv (2 : Int32), iv (0 : Int32), iv c0] []))
  refine own_go (XS.iinc X92.here hx rfl (hb hby d6_38) rfl rfl (Steps.refl _)) ?_
  show own_Fin _ _ _ _ (T92.setTop (mkF m 41 #[rv a1, iv (1 : Int32), rv a3, iv (1 : Int32), iv (2 : Int32), iv (1 : Int32), iv c0] []))
  refine own_go (XS.goto X92.here hx rfl (pc0 := 41) (pc' := 3) rfl (hb hby d6_41) (by decide) (by decide) (Steps.refl _)) ?_
  show own_Fin _ _ _ _ (T92.setTop (mkF m 3 #[rv a1, iv (1 : Int32), rv a3, iv (1 : Int32), iv (2 : Int32), iv (1 : Int32), iv c0] []))
  refine own_go (XS.iload X92.here hx rfl (hb hby d6_3) rfl (Steps.refl _)) ?_
  show own_Fin _ _ _ _ (T92.setTop (mkF m 5 #[rv a1, iv (1 : Int32), rv a3, iv (1 : Int32), iv (2 : Int32), iv (1 : Int32), iv c0] [(.int (1 : Int32))]))
  refine own_go (XS.iload X92.here hx rfl (hb hby d6_5) rfl (Steps.refl _)) ?_
  show own_Fin _ _ _ _ (T92.setTop (mkF m 7 #[rv a1, iv (1 : Int32), rv a3, iv (1 : Int32), iv (2 : Int32), iv (1 : Int32), iv c0] [(.int (2 : Int32)), (.int (1 : Int32))]))
  refine own_go (XS.icmpNo X92.here hx rfl (hb hby d6_7) rfl (tlt (by decide : (1 : Int32) < (2 : Int32))).2.1 (Steps.refl _)) ?_
  show own_Fin _ _ _ _ (T92.setTop (mkF m 10 #[rv a1, iv (1 : Int32), rv a3, iv (1 : Int32), iv (2 : Int32), iv (1 : Int32), iv c0] []))
  refine own_go (XS.aloadN X92.here hx rfl (hb hby d6_10) rfl rfl (Steps.refl _)) ?_
  show own_Fin _ _ _ _ (T92.setTop (mkF m 11 #[rv a1, iv (1 : Int32), rv a3, iv (1 : Int32), iv (2 : Int32), iv (1 : Int32), iv c0] [(.ref a1)]))
  refine own_go (XS.iloadN X92.here hx rfl (hb hby d6_11) rfl (Steps.refl _)) ?_
  show own_Fin _ _ _ _ (T92.setTop (mkF m 12 #[rv a1, iv (1 : Int32), rv a3, iv (1 : Int32), iv (2 : Int32), iv (1 : Int32), iv c0] [(.int (1 : Int32)), (.ref a1)]))
  obtain ⟨cl93, Ar93, qa93, Sa93, Na93, Ha93, Ga93⟩ := id V_a1_92
  have hin93 : ¬ ((1 : Int32) < 0 ∨ cl93.slots.size ≤ ((1 : Int32)).toNatClampNeg) := inb_of Sa93 ⟨by decide, by decide⟩
  have hat93 : cl93.slots[((1 : Int32)).toNatClampNeg]? = some (.int c1) := Has.at Ha93 hin93 rfl
  refine own_by (X92.caload hx (j := (1 : Int32)) (v := (.int c1)) (by rw [e92]; exact Ar93.1) (State.isArrayOf_alike hZ.alike Ar93.2.1) Ar93.2.2 hin93 hat93 (g := (mkF m 12 #[rv a1, iv (1 : Int32), rv a3, iv (1 : Int32), iv (2 : Int32), iv (1 : Int32), iv c0] [(.int (1 : Int32)), (.ref a1)])) rfl rfl (hb hby d6_12)) ?_
  show own_Fin _ _ _ _ (T92.setTop (mkF m 13 #[rv a1, iv (1 : Int32), rv a3, iv (1 : Int32), iv (2 : Int32), iv (1 : Int32), iv c0] [(.int c1)]))
  refine own_go (XS.istore X92.here hx rfl (hb hby d6_13) rfl rfl (Steps.refl _)) ?_
  show own_Fin _ _ _ _ (T92.setTop (mkF m 15 #[rv a1, iv (1 : Int32), rv a3, iv (1 : Int32), iv (2 : Int32), iv (1 : Int32), iv c1] []))
  refine own_go (XS.iload X92.here hx rfl (hb hby d6_15) rfl (Steps.refl _)) ?_
  show own_Fin _ _ _ _ (T92.setTop (mkF m 17 #[rv a1, iv (1 : Int32), rv a3, iv (1 : Int32), iv (2 : Int32), iv (1 : Int32), iv c1] [(.int c1)]))
  refine own_go (XS.sipush X92.here hx rfl (hb hby d6_17) (Steps.refl _)) ?_
  show own_Fin _ _ _ _ (T92.setTop (mkF m 20 #[rv a1, iv (1 : Int32), rv a3, iv (1 : Int32), iv (2 : Int32), iv (1 : Int32), iv c1] [(.int (255 : Int32)), (.int c1)]))
  refine own_go (XS.icmpNo X92.here hx rfl (hb hby d6_20) rfl (tlt (show (255 : Int32) < c1 from hg1)).2.2.2 (Steps.refl _)) ?_
  show own_Fin _ _ _ _ (T92.setTop (mkF m 23 #[rv a1, iv (1 : Int32), rv a3, iv (1 : Int32), iv (2 : Int32), iv (1 : Int32), iv c1] []))
  refine own_go (XS.iload X92.here hx rfl (hb hby d6_23) rfl (Steps.refl _)) ?_
  show own_Fin _ _ _ _ (T92.setTop (mkF m 25 #[rv a1, iv (1 : Int32), rv a3, iv (1 : Int32), iv (2 : Int32), iv (1 : Int32), iv c1] [(.int (1 : Int32))]))
  obtain ⟨fs94, hr94, hrun94, hended94, hW94, hsame94⟩ := X92.leave (v := some (.int (1 : Int32))) (fun h => by rw [Bd.returns] at h; cases h)
  refine own_done (own_retI X92 hx Bd.returns (hb hby d6_25) hr94) hrun94 hended94 ⟨_, _, rfl, ?_, ⟨_, rfl⟩, hW94, hsame94.mono (by decide) (by decide)⟩
  show Qcmu_2_1 Z a1 k a3 kb c0 c1 h0 n0 _ T92.heap _
  rw [e92]
  exact ⟨rfl, N92, K92⟩
theorem ef_nl_3 (m : MethodId) (x0 : Int32) : entryFrame m #[(.int x0)] 1 = mkF m 0 #[.val (.int x0)] [] := by first | (simp [entryFrame, mkF, argsToLocals, Value.category]; done) | rfl
def Qnl_3 (Z : State)  (h0 : Heap) (n0 : Nat) (v : Option Value) (h : Heap) (L : List Loc) : Prop := v = some (.int (6 : Int32)) ∧ Fr n0 L ∧ h = h0
abbrev Gnl_3 (Z : State)  (h0 : Heap) (n0 : Nat) (s : State) : Outcome → State → Prop := fun o U' => ∃ v L, o = .returned v ∧ Qnl_3 Z  h0 n0 v U'.heap L ∧ FrameEnd s o U' L ({ frames := 0, cells := 0, slots := 0, locals := 0 } : Room).cells ({ frames := 0, cells := 0, slots := 0, locals := 0 } : Room).slots
set_option maxRecDepth 65536 in
set_option maxHeartbeats 40000000 in
theorem rmnl_3 (l : Launch) (Z : State) (a0 : Array Value) (hw : ∀ d ∈ tables_1, d.before a0 Z = true) (ws : List Jvm.Cond)  (h0 : Heap) (n0 : Nat) (Z0 : n0 ≤ h0.size)  :
    MetFree l (⟨"java/lang/StringUTF16", "newBytesLength", "(I)I"⟩ : MethodName) (head1 (Jvm.Cond.code (⟨"java/lang/StringUTF16", "newBytesLength", "(I)I"⟩ : MethodName) jdk_52_method_3_code 1 (some .int) :: ws) ({ frames := 0, cells := 0, slots := 0, locals := 0 } : Room)) (fun a U => a = #[(.int (3 : Int32))] ∧ Z.Warmed39 U.vm ∧ U.heap = h0) (fun _ _ _ _ _ => True) (fun _ U o U' => ∃ v L, o = .returned v ∧ Qnl_3 Z  h0 n0 v U'.heap L ∧ FrameEnd U o U' L ({ frames := 0, cells := 0, slots := 0, locals := 0 } : Room).cells ({ frames := 0, cells := 0, slots := 0, locals := 0 } : Room).slots) := by
  refine MetFree.of_bodySF (plainFor_of_name pn_java_lang_StringUTF16) hisR ?_
  intro p e s m args below meth c s₁ Bd hml0 hP hK
  obtain ⟨rfl, hZ, hh⟩ := hP
  have hx := Bd.exec
  have hby := Bd.bytes
  have hml : c.maxLocals = 1 := hml0
  have hown : s.vm.findClass "java/lang/StringUTF16" = some m.cls := findClass_of_methodNamed Bd.named
  have hnm := (name_of_methodNamed Bd.named Bd.method).1
  have X0 : Stand p l e ({ frames := 0, cells := 0, slots := 0, locals := 0 } : Room) s m #[(.int (3 : Int32))] below meth c s₁ [] 0 0 := Stand.of_body Bd
  have e0 : s₁.heap = h0 := by rw [← hh, Bd.state]; rfl
  have es0 : s.heap = h0 := hh
  have N0 := Fr.nil n0
  show own_Fin p e below (Gnl_3 Z  h0 n0 s) (s₁.setTop (entryFrame m #[(.int (3 : Int32))] 1))
  rw [ef_nl_3 m (3 : Int32)]
  refine own_go (XS.iloadN X0.here hx rfl (hb hby d20_0) rfl (Steps.refl _)) ?_
  show own_Fin _ _ _ _ (s₁.setTop (mkF m 1 #[iv (3 : Int32)] [(.int (3 : Int32))]))
  refine own_go (XS.ifYes X0.here hx rfl (pc0 := 1) (pc' := 12) rfl (hb hby d20_1) rfl ((if0 _ _).trans (flt (by decide : ¬ ((3 : Int32) < (0 : Int32)))).2.1) (by decide) (by decide) (Steps.refl _)) ?_
  show own_Fin _ _ _ _ (s₁.setTop (mkF m 12 #[iv (3 : Int32)] []))
  refine own_go (XS.iloadN X0.here hx rfl (hb hby d20_12) rfl (Steps.refl _)) ?_
  show own_Fin _ _ _ _ (s₁.setTop (mkF m 13 #[iv (3 : Int32)] [(.int (3 : Int32))]))
  refine own_by (X0.ldcInt hx hown (mvT hZ (hw _ (List.mem_of_getElem? (i := 88) rfl))) (g := (mkF m 13 #[iv (3 : Int32)] [(.int (3 : Int32))])) rfl (hb hby d20_13)) ?_
  show own_Fin _ _ _ _ (s₁.setTop (mkF m 15 #[iv (3 : Int32)] [(.int (1073741823 : Int32)), (.int (3 : Int32))]))
  refine own_go (XS.icmpYes X0.here hx rfl (pc0 := 15) (pc' := 55) rfl (hb hby d20_15) rfl (tlt (by decide : (3 : Int32) < (1073741823 : Int32))).1 (by decide) (by decide) (Steps.refl _)) ?_
  show own_Fin _ _ _ _ (s₁.setTop (mkF m 55 #[iv (3 : Int32)] []))
  refine own_go (XS.iloadN X0.here hx rfl (hb hby d20_55) rfl (Steps.refl _)) ?_
  show own_Fin _ _ _ _ (s₁.setTop (mkF m 56 #[iv (3 : Int32)] [(.int (3 : Int32))]))
  refine own_go (XS.iconst X0.here hx rfl (hb hby d20_56) (Steps.refl _)) ?_
  show own_Fin _ _ _ _ (s₁.setTop (mkF m 57 #[iv (3 : Int32)] [(.int (1 : Int32)), (.int (3 : Int32))]))
  refine own_go (XS.ishl X0.here hx rfl (hb hby d20_57) rfl (Steps.refl _)) ?_
  show own_Fin _ _ _ _ (s₁.setTop (mkF m 58 #[iv (3 : Int32)] [(.int (6 : Int32))]))
  obtain ⟨fs95, hr95, hrun95, hended95, hW95, hsame95⟩ := X0.leave (v := some (.int (6 : Int32))) (fun h => by rw [Bd.returns] at h; cases h)
  refine own_done (own_retI X0 hx Bd.returns (hb hby d20_58) hr95) hrun95 hended95 ⟨_, _, rfl, ?_, ⟨_, rfl⟩, hW95, hsame95.mono (by decide) (by decide)⟩
  show Qnl_3 Z  h0 n0 _ s₁.heap _
  rw [e0]
  exact ⟨rfl, N0, rfl⟩
theorem ef_nf_3 (m : MethodId) (x0 : Int32) : entryFrame m #[(.int x0)] 1 = mkF m 0 #[.val (.int x0)] [] := by first | (simp [entryFrame, mkF, argsToLocals, Value.category]; done) | rfl
def Qnf_3 (Z : State)  (h0 : Heap) (n0 : Nat) (v : Option Value) (h : Heap) (L : List Loc) : Prop := ∃ (b : Addr) (kb : ClassId), v = some (.ref b) ∧ Fr n0 L ∧ Keep h0 h [] ∧ n0 ≤ b ∧ h0.size ≤ b ∧ Arv Z h b kb .byte (6 : Int32) [(.int (0 : Int32)), (.int (0 : Int32)), (.int (0 : Int32)), (.int (0 : Int32)), (.int (0 : Int32)), (.int (0 : Int32))] (.int (0 : Int32))
abbrev Gnf_3 (Z : State)  (h0 : Heap) (n0 : Nat) (s : State) : Outcome → State → Prop := fun o U' => ∃ v L, o = .returned v ∧ Qnf_3 Z  h0 n0 v U'.heap L ∧ FrameEnd s o U' L ({ frames := 1, cells := 1, slots := 6, locals := 16 } : Room).cells ({ frames := 1, cells := 1, slots := 6, locals := 16 } : Room).slots
set_option maxRecDepth 65536 in
set_option maxHeartbeats 40000000 in
theorem rmnf_3 (l : Launch) (Z : State) (a0 : Array Value) (hw : ∀ d ∈ tables_1, d.before a0 Z = true) (ws : List Jvm.Cond)  (h0 : Heap) (n0 : Nat) (Z0 : n0 ≤ h0.size)  :
    MetFree l (⟨"java/lang/StringUTF16", "newBytesFor", "(I)[B"⟩ : MethodName) (head1 (Jvm.Cond.code (⟨"java/lang/StringUTF16", "newBytesFor", "(I)[B"⟩ : MethodName) jdk_52_method_2_code 1 (some (.array .byte)) :: ws) ({ frames := 1, cells := 1, slots := 6, locals := 16 } : Room)) (fun a U => a = #[(.int (3 : Int32))] ∧ Z.Warmed39 U.vm ∧ U.heap = h0) (fun _ _ _ _ _ => True) (fun _ U o U' => ∃ v L, o = .returned v ∧ Qnf_3 Z  h0 n0 v U'.heap L ∧ FrameEnd U o U' L ({ frames := 1, cells := 1, slots := 6, locals := 16 } : Room).cells ({ frames := 1, cells := 1, slots := 6, locals := 16 } : Room).slots) := by
  refine MetFree.of_bodySF (plainFor_of_name pn_java_lang_StringUTF16) hisR ?_
  intro p e s m args below meth c s₁ Bd hml0 hP hK
  obtain ⟨rfl, hZ, hh⟩ := hP
  have hx := Bd.exec
  have hby := Bd.bytes
  have hml : c.maxLocals = 1 := hml0
  have hown : s.vm.findClass "java/lang/StringUTF16" = some m.cls := findClass_of_methodNamed Bd.named
  have hnm := (name_of_methodNamed Bd.named Bd.method).1
  have X0 : Stand p l e ({ frames := 1, cells := 1, slots := 6, locals := 16 } : Room) s m #[(.int (3 : Int32))] below meth c s₁ [] 0 0 := Stand.of_body Bd
  have e0 : s₁.heap = h0 := by rw [← hh, Bd.state]; rfl
  have es0 : s.heap = h0 := hh
  have N0 := Fr.nil n0
  show own_Fin p e below (Gnf_3 Z  h0 n0 s) (s₁.setTop (entryFrame m #[(.int (3 : Int32))] 1))
  rw [ef_nf_3 m (3 : Int32)]
  have Kz := Keep.refl h0 []
  refine own_go (XS.iloadN X0.here hx rfl (hb hby d19_0) rfl (Steps.refl _)) ?_
  show own_Fin _ _ _ _ (s₁.setTop (mkF m 1 #[iv (3 : Int32)] [(.int (3 : Int32))]))
  obtain ⟨_, _, ⟨T96, L96, k96, n96⟩, -, X96, ⟨Lc96, hQ96, l96, y96, z96⟩, st96⟩ := Jvm.LawKit.callS X0 hx (y := (⟨"java/lang/StringUTF16", "newBytesLength", "(I)I"⟩ : MethodName)) hown (mvT hZ (hw _ (List.mem_of_getElem? (i := 85) rfl))) (mvT hZ (hw _ (List.mem_of_getElem? (i := 86) rfl))) (mvT hZ (hw _ (List.mem_of_getElem? (i := 21) rfl))) (mvT hZ (hw _ (List.mem_of_getElem? (i := 87) rfl))) (by decide) (backOf (W := 0) (rmnl_3 l Z a0 hw []  h0 n0 Z0) hZ (hw _ (List.mem_of_getElem? (i := 87) rfl)) (hw _ (List.mem_of_getElem? (i := 21) rfl)) (by decide) (by decide)) (g := (mkF m 1 #[iv (3 : Int32)] [(.int (3 : Int32))])) rfl (by rw [hml]; rfl) (argsL := [(.int (3 : Int32))]) (rest := []) (lenOf pd__28_I_29_I rfl) rfl (by show 2 * 0 + _ ≤ _; exact Nat.le_of_eq rfl) (hb hby d19_1) (fun _ hv => ⟨rfl, e0, (by decide : 0 + 0 ≤ _), (by decide : 0 + 0 ≤ _)⟩)
  dsimp only [Pt.U, Pt.locs, Pt.cells, Pt.slots] at X96 l96 y96 z96 st96 hQ96
  subst l96 y96 z96
  obtain ⟨rfl, Nq96, e96⟩ := hQ96
  refine own_by st96 ?_
  have N96 := Fr.app N0 Nq96
  show own_Fin _ _ _ _ (T96.setTop (mkF m 4 #[iv (3 : Int32)] [(.int (6 : Int32))]))
  obtain ⟨T97, h97, k97, X97, e97, E97, A97, st97⟩ := newP X96 hx hZ (hw _ (List.mem_of_getElem? (i := 23) rfl)) e96 (g := (mkF m 4 #[iv (3 : Int32)] [(.int (6 : Int32))])) rfl (hb hby d19_4) rfl (by decide) (cap := 6) (by decide) (by decide) (by decide) (by decide)
  obtain ⟨b97, g97⟩ : ∃ z, z = h0.size := ⟨_, rfl⟩
  rw [← g97] at A97 st97
  refine own_by st97 ?_
  have g_b97 : n0 ≤ b97 := Nat.le_trans Z0 (Nat.le_of_eq g97.symm)
  have sz_b97 : h0.size ≤ b97 := Nat.le_trans Kz.1 (Nat.le_of_eq g97.symm)
  have K97 := Kz.ext E97
  have Z97 : n0 ≤ h97.size := Nat.le_trans Z0 E97.1
  have V_b97 : Arv Z h97 b97 k97 .byte (6 : Int32) [(.int (0 : Int32)), (.int (0 : Int32)), (.int (0 : Int32)), (.int (0 : Int32)), (.int (0 : Int32)), (.int (0 : Int32))] (.int (0 : Int32)) := (Arv.new A97 (by decide)).pad (pad_rep [] (.int (0 : Int32)) 6)
  show own_Fin _ _ _ _ (T97.setTop (mkF m 6 #[iv (3 : Int32)] [(.ref b97)]))
  obtain ⟨fs98, hr98, hrun98, hended98, hW98, hsame98⟩ := X97.leave (v := some (.ref b97)) (fun h => by rw [Bd.returns] at h; cases h)
  refine own_done (retOut X97 hx Bd.returns rfl (Or.inr (Or.inr (Or.inr (Or.inr ⟨rfl, rfl, rfl⟩)))) (hb hby d19_6) hr98) hrun98 hended98 ⟨_, _, rfl, ?_, ⟨_, rfl⟩, hW98, hsame98.mono (by decide) (by decide)⟩
  show Qnf_3 Z  h0 n0 _ T97.heap _
  rw [e97]
  exact ⟨b97, k97, rfl, N96, K97, g_b97, sz_b97, V_b97⟩
theorem ef_pc_3_0 (m : MethodId) (x0 : Addr) (x1 : Int32) (x2 : Int32) : entryFrame m #[(.ref x0), (.int x1), (.int x2)] 3 = mkF m 0 #[.val (.ref x0), .val (.int x1), .val (.int x2)] [] := by first | (simp [entryFrame, mkF, argsToLocals, Value.category]; done) | rfl
def Qpc_3_0 (Z : State) (a1 : Addr) (k : ClassId) (x : Int32) (y0 : Int32) (y1 : Int32) (y2 : Int32) (y3 : Int32) (y4 : Int32) (y5 : Int32) (h0 : Heap) (n0 : Nat) (v : Option Value) (h : Heap) (L : List Loc) : Prop := v = none ∧ Fr n0 L ∧ Keep h0 h [a1] ∧ Arv Z h a1 k .byte (6 : Int32) [(.int (own_lb x)), (.int (own_hb x)), (.int y2), (.int y3), (.int y4), (.int y5)] (.int (0 : Int32))
abbrev Gpc_3_0 (Z : State) (a1 : Addr) (k : ClassId) (x : Int32) (y0 : Int32) (y1 : Int32) (y2 : Int32) (y3 : Int32) (y4 : Int32) (y5 : Int32) (h0 : Heap) (n0 : Nat) (s : State) : Outcome → State → Prop := fun o U' => ∃ v L, o = .returned v ∧ Qpc_3_0 Z a1 k x y0 y1 y2 y3 y4 y5 h0 n0 v U'.heap L ∧ FrameEnd s o U' L ({ frames := 0, cells := 0, slots := 0, locals := 0 } : Room).cells ({ frames := 0, cells := 0, slots := 0, locals := 0 } : Room).slots
set_option maxRecDepth 65536 in
set_option maxHeartbeats 40000000 in
theorem rmpc_3_0 (l : Launch) (Z : State) (a0 : Array Value) (hw : ∀ d ∈ tables_1, d.before a0 Z = true) (ws : List Jvm.Cond) (a1 : Addr) (k : ClassId) (x : Int32) (y0 : Int32) (y1 : Int32) (y2 : Int32) (y3 : Int32) (y4 : Int32) (y5 : Int32) (h0 : Heap) (n0 : Nat) (Z0 : n0 ≤ h0.size) (V_a1 : Arv Z h0 a1 k .byte (6 : Int32) [(.int y0), (.int y1), (.int y2), (.int y3), (.int y4), (.int y5)] (.int (0 : Int32))) (g_a1 : n0 ≤ a1) (O0 : Old Z n0 h0) (S__assertionsDisabled : Sta Z Z.heap "java/lang/StringUTF16" "$assertionsDisabled" "Z" (.int (1 : Int32))) (S_HI_BYTE_SHIFT : Sta Z Z.heap "java/lang/StringUTF16" "HI_BYTE_SHIFT" "I" (.int (0 : Int32))) (S_LO_BYTE_SHIFT : Sta Z Z.heap "java/lang/StringUTF16" "LO_BYTE_SHIFT" "I" (.int (8 : Int32))) :
    MetFree l (⟨"java/lang/StringUTF16", "putChar", "([BII)V"⟩ : MethodName) (head1 (Jvm.Cond.code (⟨"java/lang/StringUTF16", "putChar", "([BII)V"⟩ : MethodName) jdk_52_method_4_code 3 none :: ws) ({ frames := 0, cells := 0, slots := 0, locals := 0 } : Room)) (fun a U => a = #[(.ref a1), (.int (0 : Int32)), (.int x)] ∧ Z.Warmed39 U.vm ∧ U.heap = h0) (fun _ _ _ _ _ => True) (fun _ U o U' => ∃ v L, o = .returned v ∧ Qpc_3_0 Z a1 k x y0 y1 y2 y3 y4 y5 h0 n0 v U'.heap L ∧ FrameEnd U o U' L ({ frames := 0, cells := 0, slots := 0, locals := 0 } : Room).cells ({ frames := 0, cells := 0, slots := 0, locals := 0 } : Room).slots) := by
  refine MetFree.of_bodySF (plainFor_of_name pn_java_lang_StringUTF16) hisR ?_
  intro p e s m args below meth c s₁ Bd hml0 hP hK
  obtain ⟨rfl, hZ, hh⟩ := hP
  have hx := Bd.exec
  have hby := Bd.bytes
  have hml : c.maxLocals = 3 := hml0
  have hown : s.vm.findClass "java/lang/StringUTF16" = some m.cls := findClass_of_methodNamed Bd.named
  have hnm := (name_of_methodNamed Bd.named Bd.method).1
  have X0 : Stand p l e ({ frames := 0, cells := 0, slots := 0, locals := 0 } : Room) s m #[(.ref a1), (.int (0 : Int32)), (.int x)] below meth c s₁ [] 0 0 := Stand.of_body Bd
  have e0 : s₁.heap = h0 := by rw [← hh, Bd.state]; rfl
  have es0 : s.heap = h0 := hh
  have N0 := Fr.nil n0
  show own_Fin p e below (Gpc_3_0 Z a1 k x y0 y1 y2 y3 y4 y5 h0 n0 s) (s₁.setTop (entryFrame m #[(.ref a1), (.int (0 : Int32)), (.int x)] 3))
  rw [ef_pc_3_0 m a1 (0 : Int32) x]
  have Kz := Keep.refl h0 [a1]
  obtain ⟨T99, X99, e99, st99⟩ := getS2 X0 hx hZ hown (host := "") (Or.inl (hw _ (List.mem_of_getElem? (i := 92) rfl))) Via.refl e0 (S__assertionsDisabled.ext O0.2) (g := (mkF m 0 #[rv a1, iv (0 : Int32), iv x] [])) rfl (hb hby d21_0)
  refine own_by st99 ?_
  show own_Fin _ _ _ _ (T99.setTop (mkF m 3 #[rv a1, iv (0 : Int32), iv x] [(.int (1 : Int32))]))
  refine own_go (XS.ifYes X99.here hx rfl (pc0 := 3) (pc' := 28) rfl (hb hby d21_3) rfl ((if0 _ _).trans (feq (by decide : ¬ ((1 : Int32) = (0 : Int32)))).2) (by decide) (by decide) (Steps.refl _)) ?_
  show own_Fin _ _ _ _ (T99.setTop (mkF m 28 #[rv a1, iv (0 : Int32), iv x] []))
  refine own_go (XS.iloadN X99.here hx rfl (hb hby d21_28) rfl (Steps.refl _)) ?_
  show own_Fin _ _ _ _ (T99.setTop (mkF m 29 #[rv a1, iv (0 : Int32), iv x] [(.int (0 : Int32))]))
  refine own_go (XS.iconst X99.here hx rfl (hb hby d21_29) (Steps.refl _)) ?_
  show own_Fin _ _ _ _ (T99.setTop (mkF m 30 #[rv a1, iv (0 : Int32), iv x] [(.int (1 : Int32)), (.int (0 : Int32))]))
  refine own_go (XS.ishl X99.here hx rfl (hb hby d21_30) rfl (Steps.refl _)) ?_
  show own_Fin _ _ _ _ (T99.setTop (mkF m 31 #[rv a1, iv (0 : Int32), iv x] [(.int (0 : Int32))]))
  refine own_go (XS.istoreN X99.here hx rfl (hb hby d21_31) rfl rfl (Steps.refl _)) ?_
  show own_Fin _ _ _ _ (T99.setTop (mkF m 32 #[rv a1, iv (0 : Int32), iv x] []))
  refine own_go (XS.aloadN X99.here hx rfl (hb hby d21_32) rfl rfl (Steps.refl _)) ?_
  show own_Fin _ _ _ _ (T99.setTop (mkF m 33 #[rv a1, iv (0 : Int32), iv x] [(.ref a1)]))
  refine own_go (XS.iloadN X99.here hx rfl (hb hby d21_33) rfl (Steps.refl _)) ?_
  show own_Fin _ _ _ _ (T99.setTop (mkF m 34 #[rv a1, iv (0 : Int32), iv x] [(.int (0 : Int32)), (.ref a1)]))
  refine own_go (XS.iinc X99.here hx rfl (hb hby d21_34) rfl rfl (Steps.refl _)) ?_
  show own_Fin _ _ _ _ (T99.setTop (mkF m 37 #[rv a1, iv (1 : Int32), iv x] [(.int (0 : Int32)), (.ref a1)]))
  refine own_go (XS.iloadN X99.here hx rfl (hb hby d21_37) rfl (Steps.refl _)) ?_
  show own_Fin _ _ _ _ (T99.setTop (mkF m 38 #[rv a1, iv (1 : Int32), iv x] [(.int x), (.int (0 : Int32)), (.ref a1)]))
  obtain ⟨T100, X100, e100, st100⟩ := getS2 X99 hx hZ hown (host := "") (Or.inl (hw _ (List.mem_of_getElem? (i := 93) rfl))) Via.refl e99 (S_HI_BYTE_SHIFT.ext O0.2) (g := (mkF m 38 #[rv a1, iv (1 : Int32), iv x] [(.int x), (.int (0 : Int32)), (.ref a1)])) rfl (hb hby d21_38)
  refine own_by st100 ?_
  show own_Fin _ _ _ _ (T100.setTop (mkF m 41 #[rv a1, iv (1 : Int32), iv x] [(.int (0 : Int32)), (.int x), (.int (0 : Int32)), (.ref a1)]))
  refine own_go (XS.ishr X100.here hx rfl (hb hby d21_41) rfl (Steps.refl _)) ?_
  show own_Fin _ _ _ _ (T100.setTop (mkF m 42 #[rv a1, iv (1 : Int32), iv x] [(.int (x >>> ((0 : Int32) &&& 31))), (.int (0 : Int32)), (.ref a1)]))
  refine own_go (XS.i2b X100.here hx rfl (hb hby d21_42) rfl (Steps.refl _)) ?_
  show own_Fin _ _ _ _ (T100.setTop (mkF m 43 #[rv a1, iv (1 : Int32), iv x] [(.int ((x >>> ((0 : Int32) &&& 31)).toInt8.toInt32)), (.int (0 : Int32)), (.ref a1)]))
  obtain ⟨cl101, Ar101, qa101, Sa101, Na101, Ha101, Ga101⟩ := id V_a1
  have hin101 : ¬ ((0 : Int32) < 0 ∨ cl101.slots.size ≤ ((0 : Int32)).toNatClampNeg) := inb_of Sa101 ⟨by decide, by decide⟩
  obtain ⟨T102, h102, X102, e102, W102, st102⟩ := stB X100 hx hZ e100 Ar101 (j := (0 : Int32)) hin101 (g := (mkF m 43 #[rv a1, iv (1 : Int32), iv x] [(.int ((x >>> ((0 : Int32) &&& 31)).toInt8.toInt32)), (.int (0 : Int32)), (.ref a1)])) rfl rfl (hb hby d21_43)
  refine own_by st102 ?_
  have hnr102 : nar .byte ((x >>> ((0 : Int32) &&& 31)).toInt8.toInt32) = (own_lb x) := rfl
  rw [hnr102] at W102
  have V_a1_102 : Arv Z h102 a1 k .byte (6 : Int32) [(.int (own_lb x)), (.int y1), (.int y2), (.int y3), (.int y4), (.int y5)] (.int (0 : Int32)) := Arv.set Ar101 qa101 Sa101 Na101 Ha101 Ga101 (hnr102 ▸ fits_nar_byte ((x >>> ((0 : Int32) &&& 31)).toInt8.toInt32)) W102 0 rfl (Nat.le_of_ble_eq_true rfl)
  have Od102 := O0.wr W102 g_a1
  have N102 := Fr.snoc X102 N0 g_a1
  have Z102 : n0 ≤ h102.size := Nat.le_trans Z0 (Keep.of_wr W102).1
  have K102 := Kz.wr W102 (Or.inl (List.mem_of_getElem? (i := 0) rfl))
  show own_Fin _ _ _ _ (T102.setTop (mkF m 44 #[rv a1, iv (1 : Int32), iv x] []))
  refine own_go (XS.aloadN X102.here hx rfl (hb hby d21_44) rfl rfl (Steps.refl _)) ?_
  show own_Fin _ _ _ _ (T102.setTop (mkF m 45 #[rv a1, iv (1 : Int32), iv x] [(.ref a1)]))
  refine own_go (XS.iloadN X102.here hx rfl (hb hby d21_45) rfl (Steps.refl _)) ?_
  show own_Fin _ _ _ _ (T102.setTop (mkF m 46 #[rv a1, iv (1 : Int32), iv x] [(.int (1 : Int32)), (.ref a1)]))
  refine own_go (XS.iloadN X102.here hx rfl (hb hby d21_46) rfl (Steps.refl _)) ?_
  show own_Fin _ _ _ _ (T102.setTop (mkF m 47 #[rv a1, iv (1 : Int32), iv x] [(.int x), (.int (1 : Int32)), (.ref a1)]))
  obtain ⟨T103, X103, e103, st103⟩ := getS2 X102 hx hZ hown (host := "") (Or.inl (hw _ (List.mem_of_getElem? (i := 94) rfl))) Via.refl e102 (S_LO_BYTE_SHIFT.ext Od102.2) (g := (mkF m 47 #[rv a1, iv (1 : Int32), iv x] [(.int x), (.int (1 : Int32)), (.ref a1)])) rfl (hb hby d21_47)
  refine own_by st103 ?_
  show own_Fin _ _ _ _ (T103.setTop (mkF m 50 #[rv a1, iv (1 : Int32), iv x] [(.int (8 : Int32)), (.int x), (.int (1 : Int32)), (.ref a1)]))
  refine own_go (XS.ishr X103.here hx rfl (hb hby d21_50) rfl (Steps.refl _)) ?_
  show own_Fin _ _ _ _ (T103.setTop (mkF m 51 #[rv a1, iv (1 : Int32), iv x] [(.int (x >>> ((8 : Int32) &&& 31))), (.int (1 : Int32)), (.ref a1)]))
  refine own_go (XS.i2b X103.here hx rfl (hb hby d21_51) rfl (Steps.refl _)) ?_
  show own_Fin _ _ _ _ (T103.setTop (mkF m 52 #[rv a1, iv (1 : Int32), iv x] [(.int ((x >>> ((8 : Int32) &&& 31)).toInt8.toInt32)), (.int (1 : Int32)), (.ref a1)]))
  obtain ⟨cl104, Ar104, qa104, Sa104, Na104, Ha104, Ga104⟩ := id V_a1_102
  have hin104 : ¬ ((1 : Int32) < 0 ∨ cl104.slots.size ≤ ((1 : Int32)).toNatClampNeg) := inb_of Sa104 ⟨by decide, by decide⟩
  obtain ⟨T105, h105, X105, e105, W105, st105⟩ := stB X103 hx hZ e103 Ar104 (j := (1 : Int32)) hin104 (g := (mkF m 52 #[rv a1, iv (1 : Int32), iv x] [(.int ((x >>> ((8 : Int32) &&& 31)).toInt8.toInt32)), (.int (1 : Int32)), (.ref a1)])) rfl rfl (hb hby d21_52)
  refine own_by st105 ?_
  have hnr105 : nar .byte ((x >>> ((8 : Int32) &&& 31)).toInt8.toInt32) = (own_hb x) := rfl
  rw [hnr105] at W105
  have V_a1_105 : Arv Z h105 a1 k .byte (6 : Int32) [(.int (own_lb x)), (.int (own_hb x)), (.int y2), (.int y3), (.int y4), (.int y5)] (.int (0 : Int32)) := Arv.set Ar104 qa104 Sa104 Na104 Ha104 Ga104 (hnr105 ▸ fits_nar_byte ((x >>> ((8 : Int32) &&& 31)).toInt8.toInt32)) W105 1 rfl (Nat.le_of_ble_eq_true rfl)
  have Od105 := Od102.wr W105 g_a1
  have N105 := Fr.snoc X105 N102 g_a1
  have Z105 : n0 ≤ h105.size := Nat.le_trans Z102 (Keep.of_wr W105).1
  have K105 := K102.wr W105 (Or.inl (List.mem_of_getElem? (i := 0) rfl))
  show own_Fin _ _ _ _ (T105.setTop (mkF m 53 #[rv a1, iv (1 : Int32), iv x] []))
  obtain ⟨fs106, hr106, hrun106, hended106, hW106, hsame106⟩ := X105.leave (v := none) (fun _ => rfl)
  refine own_done (X105.returnOut hx Bd.returns (hb hby d21_53) hr106) hrun106 hended106 ⟨_, _, rfl, ?_, ⟨_, rfl⟩, hW106, hsame106.mono (by decide) (by decide)⟩
  show Qpc_3_0 Z a1 k x y0 y1 y2 y3 y4 y5 h0 n0 _ T105.heap _
  rw [e105]
  exact ⟨rfl, N105, K105, V_a1_105⟩
theorem ef_pc_3_1 (m : MethodId) (x0 : Addr) (x1 : Int32) (x2 : Int32) : entryFrame m #[(.ref x0), (.int x1), (.int x2)] 3 = mkF m 0 #[.val (.ref x0), .val (.int x1), .val (.int x2)] [] := by first | (simp [entryFrame, mkF, argsToLocals, Value.category]; done) | rfl
def Qpc_3_1 (Z : State) (a1 : Addr) (k : ClassId) (x : Int32) (y0 : Int32) (y1 : Int32) (y2 : Int32) (y3 : Int32) (y4 : Int32) (y5 : Int32) (h0 : Heap) (n0 : Nat) (v : Option Value) (h : Heap) (L : List Loc) : Prop := v = none ∧ Fr n0 L ∧ Keep h0 h [a1] ∧ Arv Z h a1 k .byte (6 : Int32) [(.int y0), (.int y1), (.int (own_lb x)), (.int (own_hb x)), (.int y4), (.int y5)] (.int (0 : Int32))
abbrev Gpc_3_1 (Z : State) (a1 : Addr) (k : ClassId) (x : Int32) (y0 : Int32) (y1 : Int32) (y2 : Int32) (y3 : Int32) (y4 : Int32) (y5 : Int32) (h0 : Heap) (n0 : Nat) (s : State) : Outcome → State → Prop := fun o U' => ∃ v L, o = .returned v ∧ Qpc_3_1 Z a1 k x y0 y1 y2 y3 y4 y5 h0 n0 v U'.heap L ∧ FrameEnd s o U' L ({ frames := 0, cells := 0, slots := 0, locals := 0 } : Room).cells ({ frames := 0, cells := 0, slots := 0, locals := 0 } : Room).slots
set_option maxRecDepth 65536 in
set_option maxHeartbeats 40000000 in
theorem rmpc_3_1 (l : Launch) (Z : State) (a0 : Array Value) (hw : ∀ d ∈ tables_1, d.before a0 Z = true) (ws : List Jvm.Cond) (a1 : Addr) (k : ClassId) (x : Int32) (y0 : Int32) (y1 : Int32) (y2 : Int32) (y3 : Int32) (y4 : Int32) (y5 : Int32) (h0 : Heap) (n0 : Nat) (Z0 : n0 ≤ h0.size) (V_a1 : Arv Z h0 a1 k .byte (6 : Int32) [(.int y0), (.int y1), (.int y2), (.int y3), (.int y4), (.int y5)] (.int (0 : Int32))) (g_a1 : n0 ≤ a1) (O0 : Old Z n0 h0) (S__assertionsDisabled : Sta Z Z.heap "java/lang/StringUTF16" "$assertionsDisabled" "Z" (.int (1 : Int32))) (S_HI_BYTE_SHIFT : Sta Z Z.heap "java/lang/StringUTF16" "HI_BYTE_SHIFT" "I" (.int (0 : Int32))) (S_LO_BYTE_SHIFT : Sta Z Z.heap "java/lang/StringUTF16" "LO_BYTE_SHIFT" "I" (.int (8 : Int32))) :
    MetFree l (⟨"java/lang/StringUTF16", "putChar", "([BII)V"⟩ : MethodName) (head1 (Jvm.Cond.code (⟨"java/lang/StringUTF16", "putChar", "([BII)V"⟩ : MethodName) jdk_52_method_4_code 3 none :: ws) ({ frames := 0, cells := 0, slots := 0, locals := 0 } : Room)) (fun a U => a = #[(.ref a1), (.int (1 : Int32)), (.int x)] ∧ Z.Warmed39 U.vm ∧ U.heap = h0) (fun _ _ _ _ _ => True) (fun _ U o U' => ∃ v L, o = .returned v ∧ Qpc_3_1 Z a1 k x y0 y1 y2 y3 y4 y5 h0 n0 v U'.heap L ∧ FrameEnd U o U' L ({ frames := 0, cells := 0, slots := 0, locals := 0 } : Room).cells ({ frames := 0, cells := 0, slots := 0, locals := 0 } : Room).slots) := by
  refine MetFree.of_bodySF (plainFor_of_name pn_java_lang_StringUTF16) hisR ?_
  intro p e s m args below meth c s₁ Bd hml0 hP hK
  obtain ⟨rfl, hZ, hh⟩ := hP
  have hx := Bd.exec
  have hby := Bd.bytes
  have hml : c.maxLocals = 3 := hml0
  have hown : s.vm.findClass "java/lang/StringUTF16" = some m.cls := findClass_of_methodNamed Bd.named
  have hnm := (name_of_methodNamed Bd.named Bd.method).1
  have X0 : Stand p l e ({ frames := 0, cells := 0, slots := 0, locals := 0 } : Room) s m #[(.ref a1), (.int (1 : Int32)), (.int x)] below meth c s₁ [] 0 0 := Stand.of_body Bd
  have e0 : s₁.heap = h0 := by rw [← hh, Bd.state]; rfl
  have es0 : s.heap = h0 := hh
  have N0 := Fr.nil n0
  show own_Fin p e below (Gpc_3_1 Z a1 k x y0 y1 y2 y3 y4 y5 h0 n0 s) (s₁.setTop (entryFrame m #[(.ref a1), (.int (1 : Int32)), (.int x)] 3))
  rw [ef_pc_3_1 m a1 (1 : Int32) x]
  have Kz := Keep.refl h0 [a1]
  obtain ⟨T107, X107, e107, st107⟩ := getS2 X0 hx hZ hown (host := "") (Or.inl (hw _ (List.mem_of_getElem? (i := 92) rfl))) Via.refl e0 (S__assertionsDisabled.ext O0.2) (g := (mkF m 0 #[rv a1, iv (1 : Int32), iv x] [])) rfl (hb hby d21_0)
  refine own_by st107 ?_
  show own_Fin _ _ _ _ (T107.setTop (mkF m 3 #[rv a1, iv (1 : Int32), iv x] [(.int (1 : Int32))]))
  refine own_go (XS.ifYes X107.here hx rfl (pc0 := 3) (pc' := 28) rfl (hb hby d21_3) rfl ((if0 _ _).trans (feq (by decide : ¬ ((1 : Int32) = (0 : Int32)))).2) (by decide) (by decide) (Steps.refl _)) ?_
  show own_Fin _ _ _ _ (T107.setTop (mkF m 28 #[rv a1, iv (1 : Int32), iv x] []))
  refine own_go (XS.iloadN X107.here hx rfl (hb hby d21_28) rfl (Steps.refl _)) ?_
  show own_Fin _ _ _ _ (T107.setTop (mkF m 29 #[rv a1, iv (1 : Int32), iv x] [(.int (1 : Int32))]))
  refine own_go (XS.iconst X107.here hx rfl (hb hby d21_29) (Steps.refl _)) ?_
  show own_Fin _ _ _ _ (T107.setTop (mkF m 30 #[rv a1, iv (1 : Int32), iv x] [(.int (1 : Int32)), (.int (1 : Int32))]))
  refine own_go (XS.ishl X107.here hx rfl (hb hby d21_30) rfl (Steps.refl _)) ?_
  show own_Fin _ _ _ _ (T107.setTop (mkF m 31 #[rv a1, iv (1 : Int32), iv x] [(.int (2 : Int32))]))
  refine own_go (XS.istoreN X107.here hx rfl (hb hby d21_31) rfl rfl (Steps.refl _)) ?_
  show own_Fin _ _ _ _ (T107.setTop (mkF m 32 #[rv a1, iv (2 : Int32), iv x] []))
  refine own_go (XS.aloadN X107.here hx rfl (hb hby d21_32) rfl rfl (Steps.refl _)) ?_
  show own_Fin _ _ _ _ (T107.setTop (mkF m 33 #[rv a1, iv (2 : Int32), iv x] [(.ref a1)]))
  refine own_go (XS.iloadN X107.here hx rfl (hb hby d21_33) rfl (Steps.refl _)) ?_
  show own_Fin _ _ _ _ (T107.setTop (mkF m 34 #[rv a1, iv (2 : Int32), iv x] [(.int (2 : Int32)), (.ref a1)]))
  refine own_go (XS.iinc X107.here hx rfl (hb hby d21_34) rfl rfl (Steps.refl _)) ?_
  show own_Fin _ _ _ _ (T107.setTop (mkF m 37 #[rv a1, iv (3 : Int32), iv x] [(.int (2 : Int32)), (.ref a1)]))
  refine own_go (XS.iloadN X107.here hx rfl (hb hby d21_37) rfl (Steps.refl _)) ?_
  show own_Fin _ _ _ _ (T107.setTop (mkF m 38 #[rv a1, iv (3 : Int32), iv x] [(.int x), (.int (2 : Int32)), (.ref a1)]))
  obtain ⟨T108, X108, e108, st108⟩ := getS2 X107 hx hZ hown (host := "") (Or.inl (hw _ (List.mem_of_getElem? (i := 93) rfl))) Via.refl e107 (S_HI_BYTE_SHIFT.ext O0.2) (g := (mkF m 38 #[rv a1, iv (3 : Int32), iv x] [(.int x), (.int (2 : Int32)), (.ref a1)])) rfl (hb hby d21_38)
  refine own_by st108 ?_
  show own_Fin _ _ _ _ (T108.setTop (mkF m 41 #[rv a1, iv (3 : Int32), iv x] [(.int (0 : Int32)), (.int x), (.int (2 : Int32)), (.ref a1)]))
  refine own_go (XS.ishr X108.here hx rfl (hb hby d21_41) rfl (Steps.refl _)) ?_
  show own_Fin _ _ _ _ (T108.setTop (mkF m 42 #[rv a1, iv (3 : Int32), iv x] [(.int (x >>> ((0 : Int32) &&& 31))), (.int (2 : Int32)), (.ref a1)]))
  refine own_go (XS.i2b X108.here hx rfl (hb hby d21_42) rfl (Steps.refl _)) ?_
  show own_Fin _ _ _ _ (T108.setTop (mkF m 43 #[rv a1, iv (3 : Int32), iv x] [(.int ((x >>> ((0 : Int32) &&& 31)).toInt8.toInt32)), (.int (2 : Int32)), (.ref a1)]))
  obtain ⟨cl109, Ar109, qa109, Sa109, Na109, Ha109, Ga109⟩ := id V_a1
  have hin109 : ¬ ((2 : Int32) < 0 ∨ cl109.slots.size ≤ ((2 : Int32)).toNatClampNeg) := inb_of Sa109 ⟨by decide, by decide⟩
  obtain ⟨T110, h110, X110, e110, W110, st110⟩ := stB X108 hx hZ e108 Ar109 (j := (2 : Int32)) hin109 (g := (mkF m 43 #[rv a1, iv (3 : Int32), iv x] [(.int ((x >>> ((0 : Int32) &&& 31)).toInt8.toInt32)), (.int (2 : Int32)), (.ref a1)])) rfl rfl (hb hby d21_43)
  refine own_by st110 ?_
  have hnr110 : nar .byte ((x >>> ((0 : Int32) &&& 31)).toInt8.toInt32) = (own_lb x) := rfl
  rw [hnr110] at W110
  have V_a1_110 : Arv Z h110 a1 k .byte (6 : Int32) [(.int y0), (.int y1), (.int (own_lb x)), (.int y3), (.int y4), (.int y5)] (.int (0 : Int32)) := Arv.set Ar109 qa109 Sa109 Na109 Ha109 Ga109 (hnr110 ▸ fits_nar_byte ((x >>> ((0 : Int32) &&& 31)).toInt8.toInt32)) W110 2 rfl (Nat.le_of_ble_eq_true rfl)
  have Od110 := O0.wr W110 g_a1
  have N110 := Fr.snoc X110 N0 g_a1
  have Z110 : n0 ≤ h110.size := Nat.le_trans Z0 (Keep.of_wr W110).1
  have K110 := Kz.wr W110 (Or.inl (List.mem_of_getElem? (i := 0) rfl))
  show own_Fin _ _ _ _ (T110.setTop (mkF m 44 #[rv a1, iv (3 : Int32), iv x] []))
  refine own_go (XS.aloadN X110.here hx rfl (hb hby d21_44) rfl rfl (Steps.refl _)) ?_
  show own_Fin _ _ _ _ (T110.setTop (mkF m 45 #[rv a1, iv (3 : Int32), iv x] [(.ref a1)]))
  refine own_go (XS.iloadN X110.here hx rfl (hb hby d21_45) rfl (Steps.refl _)) ?_
  show own_Fin _ _ _ _ (T110.setTop (mkF m 46 #[rv a1, iv (3 : Int32), iv x] [(.int (3 : Int32)), (.ref a1)]))
  refine own_go (XS.iloadN X110.here hx rfl (hb hby d21_46) rfl (Steps.refl _)) ?_
  show own_Fin _ _ _ _ (T110.setTop (mkF m 47 #[rv a1, iv (3 : Int32), iv x] [(.int x), (.int (3 : Int32)), (.ref a1)]))
  obtain ⟨T111, X111, e111, st111⟩ := getS2 X110 hx hZ hown (host := "") (Or.inl (hw _ (List.mem_of_getElem? (i := 94) rfl))) Via.refl e110 (S_LO_BYTE_SHIFT.ext Od110.2) (g := (mkF m 47 #[rv a1, iv (3 : Int32), iv x] [(.int x), (.int (3 : Int32)), (.ref a1)])) rfl (hb hby d21_47)
  refine own_by st111 ?_
  show own_Fin _ _ _ _ (T111.setTop (mkF m 50 #[rv a1, iv (3 : Int32), iv x] [(.int (8 : Int32)), (.int x), (.int (3 : Int32)), (.ref a1)]))
  refine own_go (XS.ishr X111.here hx rfl (hb hby d21_50) rfl (Steps.refl _)) ?_
  show own_Fin _ _ _ _ (T111.setTop (mkF m 51 #[rv a1, iv (3 : Int32), iv x] [(.int (x >>> ((8 : Int32) &&& 31))), (.int (3 : Int32)), (.ref a1)]))
  refine own_go (XS.i2b X111.here hx rfl (hb hby d21_51) rfl (Steps.refl _)) ?_
  show own_Fin _ _ _ _ (T111.setTop (mkF m 52 #[rv a1, iv (3 : Int32), iv x] [(.int ((x >>> ((8 : Int32) &&& 31)).toInt8.toInt32)), (.int (3 : Int32)), (.ref a1)]))
  obtain ⟨cl112, Ar112, qa112, Sa112, Na112, Ha112, Ga112⟩ := id V_a1_110
  have hin112 : ¬ ((3 : Int32) < 0 ∨ cl112.slots.size ≤ ((3 : Int32)).toNatClampNeg) := inb_of Sa112 ⟨by decide, by decide⟩
  obtain ⟨T113, h113, X113, e113, W113, st113⟩ := stB X111 hx hZ e111 Ar112 (j := (3 : Int32)) hin112 (g := (mkF m 52 #[rv a1, iv (3 : Int32), iv x] [(.int ((x >>> ((8 : Int32) &&& 31)).toInt8.toInt32)), (.int (3 : Int32)), (.ref a1)])) rfl rfl (hb hby d21_52)
  refine own_by st113 ?_
  have hnr113 : nar .byte ((x >>> ((8 : Int32) &&& 31)).toInt8.toInt32) = (own_hb x) := rfl
  rw [hnr113] at W113
  have V_a1_113 : Arv Z h113 a1 k .byte (6 : Int32) [(.int y0), (.int y1), (.int (own_lb x)), (.int (own_hb x)), (.int y4), (.int y5)] (.int (0 : Int32)) := Arv.set Ar112 qa112 Sa112 Na112 Ha112 Ga112 (hnr113 ▸ fits_nar_byte ((x >>> ((8 : Int32) &&& 31)).toInt8.toInt32)) W113 3 rfl (Nat.le_of_ble_eq_true rfl)
  have Od113 := Od110.wr W113 g_a1
  have N113 := Fr.snoc X113 N110 g_a1
  have Z113 : n0 ≤ h113.size := Nat.le_trans Z110 (Keep.of_wr W113).1
  have K113 := K110.wr W113 (Or.inl (List.mem_of_getElem? (i := 0) rfl))
  show own_Fin _ _ _ _ (T113.setTop (mkF m 53 #[rv a1, iv (3 : Int32), iv x] []))
  obtain ⟨fs114, hr114, hrun114, hended114, hW114, hsame114⟩ := X113.leave (v := none) (fun _ => rfl)
  refine own_done (X113.returnOut hx Bd.returns (hb hby d21_53) hr114) hrun114 hended114 ⟨_, _, rfl, ?_, ⟨_, rfl⟩, hW114, hsame114.mono (by decide) (by decide)⟩
  show Qpc_3_1 Z a1 k x y0 y1 y2 y3 y4 y5 h0 n0 _ T113.heap _
  rw [e113]
  exact ⟨rfl, N113, K113, V_a1_113⟩
theorem ef_pc_3_2 (m : MethodId) (x0 : Addr) (x1 : Int32) (x2 : Int32) : entryFrame m #[(.ref x0), (.int x1), (.int x2)] 3 = mkF m 0 #[.val (.ref x0), .val (.int x1), .val (.int x2)] [] := by first | (simp [entryFrame, mkF, argsToLocals, Value.category]; done) | rfl
def Qpc_3_2 (Z : State) (a1 : Addr) (k : ClassId) (x : Int32) (y0 : Int32) (y1 : Int32) (y2 : Int32) (y3 : Int32) (y4 : Int32) (y5 : Int32) (h0 : Heap) (n0 : Nat) (v : Option Value) (h : Heap) (L : List Loc) : Prop := v = none ∧ Fr n0 L ∧ Keep h0 h [a1] ∧ Arv Z h a1 k .byte (6 : Int32) [(.int y0), (.int y1), (.int y2), (.int y3), (.int (own_lb x)), (.int (own_hb x))] (.int (0 : Int32))
abbrev Gpc_3_2 (Z : State) (a1 : Addr) (k : ClassId) (x : Int32) (y0 : Int32) (y1 : Int32) (y2 : Int32) (y3 : Int32) (y4 : Int32) (y5 : Int32) (h0 : Heap) (n0 : Nat) (s : State) : Outcome → State → Prop := fun o U' => ∃ v L, o = .returned v ∧ Qpc_3_2 Z a1 k x y0 y1 y2 y3 y4 y5 h0 n0 v U'.heap L ∧ FrameEnd s o U' L ({ frames := 0, cells := 0, slots := 0, locals := 0 } : Room).cells ({ frames := 0, cells := 0, slots := 0, locals := 0 } : Room).slots
set_option maxRecDepth 65536 in
set_option maxHeartbeats 40000000 in
theorem rmpc_3_2 (l : Launch) (Z : State) (a0 : Array Value) (hw : ∀ d ∈ tables_1, d.before a0 Z = true) (ws : List Jvm.Cond) (a1 : Addr) (k : ClassId) (x : Int32) (y0 : Int32) (y1 : Int32) (y2 : Int32) (y3 : Int32) (y4 : Int32) (y5 : Int32) (h0 : Heap) (n0 : Nat) (Z0 : n0 ≤ h0.size) (V_a1 : Arv Z h0 a1 k .byte (6 : Int32) [(.int y0), (.int y1), (.int y2), (.int y3), (.int y4), (.int y5)] (.int (0 : Int32))) (g_a1 : n0 ≤ a1) (O0 : Old Z n0 h0) (S__assertionsDisabled : Sta Z Z.heap "java/lang/StringUTF16" "$assertionsDisabled" "Z" (.int (1 : Int32))) (S_HI_BYTE_SHIFT : Sta Z Z.heap "java/lang/StringUTF16" "HI_BYTE_SHIFT" "I" (.int (0 : Int32))) (S_LO_BYTE_SHIFT : Sta Z Z.heap "java/lang/StringUTF16" "LO_BYTE_SHIFT" "I" (.int (8 : Int32))) :
    MetFree l (⟨"java/lang/StringUTF16", "putChar", "([BII)V"⟩ : MethodName) (head1 (Jvm.Cond.code (⟨"java/lang/StringUTF16", "putChar", "([BII)V"⟩ : MethodName) jdk_52_method_4_code 3 none :: ws) ({ frames := 0, cells := 0, slots := 0, locals := 0 } : Room)) (fun a U => a = #[(.ref a1), (.int (2 : Int32)), (.int x)] ∧ Z.Warmed39 U.vm ∧ U.heap = h0) (fun _ _ _ _ _ => True) (fun _ U o U' => ∃ v L, o = .returned v ∧ Qpc_3_2 Z a1 k x y0 y1 y2 y3 y4 y5 h0 n0 v U'.heap L ∧ FrameEnd U o U' L ({ frames := 0, cells := 0, slots := 0, locals := 0 } : Room).cells ({ frames := 0, cells := 0, slots := 0, locals := 0 } : Room).slots) := by
  refine MetFree.of_bodySF (plainFor_of_name pn_java_lang_StringUTF16) hisR ?_
  intro p e s m args below meth c s₁ Bd hml0 hP hK
  obtain ⟨rfl, hZ, hh⟩ := hP
  have hx := Bd.exec
  have hby := Bd.bytes
  have hml : c.maxLocals = 3 := hml0
  have hown : s.vm.findClass "java/lang/StringUTF16" = some m.cls := findClass_of_methodNamed Bd.named
  have hnm := (name_of_methodNamed Bd.named Bd.method).1
  have X0 : Stand p l e ({ frames := 0, cells := 0, slots := 0, locals := 0 } : Room) s m #[(.ref a1), (.int (2 : Int32)), (.int x)] below meth c s₁ [] 0 0 := Stand.of_body Bd
  have e0 : s₁.heap = h0 := by rw [← hh, Bd.state]; rfl
  have es0 : s.heap = h0 := hh
  have N0 := Fr.nil n0
  show own_Fin p e below (Gpc_3_2 Z a1 k x y0 y1 y2 y3 y4 y5 h0 n0 s) (s₁.setTop (entryFrame m #[(.ref a1), (.int (2 : Int32)), (.int x)] 3))
  rw [ef_pc_3_2 m a1 (2 : Int32) x]
  have Kz := Keep.refl h0 [a1]
  obtain ⟨T115, X115, e115, st115⟩ := getS2 X0 hx hZ hown (host := "") (Or.inl (hw _ (List.mem_of_getElem? (i := 92) rfl))) Via.refl e0 (S__assertionsDisabled.ext O0.2) (g := (mkF m 0 #[rv a1, iv (2 : Int32), iv x] [])) rfl (hb hby d21_0)
  refine own_by st115 ?_
  show own_Fin _ _ _ _ (T115.setTop (mkF m 3 #[rv a1, iv (2 : Int32), iv x] [(.int (1 : Int32))]))
  refine own_go (XS.ifYes X115.here hx rfl (pc0 := 3) (pc' := 28) rfl (hb hby d21_3) rfl ((if0 _ _).trans (feq (by decide : ¬ ((1 : Int32) = (0 : Int32)))).2) (by decide) (by decide) (Steps.refl _)) ?_
  show own_Fin _ _ _ _ (T115.setTop (mkF m 28 #[rv a1, iv (2 : Int32), iv x] []))
  refine own_go (XS.iloadN X115.here hx rfl (hb hby d21_28) rfl (Steps.refl _)) ?_
  show own_Fin _ _ _ _ (T115.setTop (mkF m 29 #[rv a1, iv (2 : Int32), iv x] [(.int (2 : Int32))]))
  refine own_go (XS.iconst X115.here hx rfl (hb hby d21_29) (Steps.refl _)) ?_
  show own_Fin _ _ _ _ (T115.setTop (mkF m 30 #[rv a1, iv (2 : Int32), iv x] [(.int (1 : Int32)), (.int (2 : Int32))]))
  refine own_go (XS.ishl X115.here hx rfl (hb hby d21_30) rfl (Steps.refl _)) ?_
  show own_Fin _ _ _ _ (T115.setTop (mkF m 31 #[rv a1, iv (2 : Int32), iv x] [(.int (4 : Int32))]))
  refine own_go (XS.istoreN X115.here hx rfl (hb hby d21_31) rfl rfl (Steps.refl _)) ?_
  show own_Fin _ _ _ _ (T115.setTop (mkF m 32 #[rv a1, iv (4 : Int32), iv x] []))
  refine own_go (XS.aloadN X115.here hx rfl (hb hby d21_32) rfl rfl (Steps.refl _)) ?_
  show own_Fin _ _ _ _ (T115.setTop (mkF m 33 #[rv a1, iv (4 : Int32), iv x] [(.ref a1)]))
  refine own_go (XS.iloadN X115.here hx rfl (hb hby d21_33) rfl (Steps.refl _)) ?_
  show own_Fin _ _ _ _ (T115.setTop (mkF m 34 #[rv a1, iv (4 : Int32), iv x] [(.int (4 : Int32)), (.ref a1)]))
  refine own_go (XS.iinc X115.here hx rfl (hb hby d21_34) rfl rfl (Steps.refl _)) ?_
  show own_Fin _ _ _ _ (T115.setTop (mkF m 37 #[rv a1, iv (5 : Int32), iv x] [(.int (4 : Int32)), (.ref a1)]))
  refine own_go (XS.iloadN X115.here hx rfl (hb hby d21_37) rfl (Steps.refl _)) ?_
  show own_Fin _ _ _ _ (T115.setTop (mkF m 38 #[rv a1, iv (5 : Int32), iv x] [(.int x), (.int (4 : Int32)), (.ref a1)]))
  obtain ⟨T116, X116, e116, st116⟩ := getS2 X115 hx hZ hown (host := "") (Or.inl (hw _ (List.mem_of_getElem? (i := 93) rfl))) Via.refl e115 (S_HI_BYTE_SHIFT.ext O0.2) (g := (mkF m 38 #[rv a1, iv (5 : Int32), iv x] [(.int x), (.int (4 : Int32)), (.ref a1)])) rfl (hb hby d21_38)
  refine own_by st116 ?_
  show own_Fin _ _ _ _ (T116.setTop (mkF m 41 #[rv a1, iv (5 : Int32), iv x] [(.int (0 : Int32)), (.int x), (.int (4 : Int32)), (.ref a1)]))
  refine own_go (XS.ishr X116.here hx rfl (hb hby d21_41) rfl (Steps.refl _)) ?_
  show own_Fin _ _ _ _ (T116.setTop (mkF m 42 #[rv a1, iv (5 : Int32), iv x] [(.int (x >>> ((0 : Int32) &&& 31))), (.int (4 : Int32)), (.ref a1)]))
  refine own_go (XS.i2b X116.here hx rfl (hb hby d21_42) rfl (Steps.refl _)) ?_
  show own_Fin _ _ _ _ (T116.setTop (mkF m 43 #[rv a1, iv (5 : Int32), iv x] [(.int ((x >>> ((0 : Int32) &&& 31)).toInt8.toInt32)), (.int (4 : Int32)), (.ref a1)]))
  obtain ⟨cl117, Ar117, qa117, Sa117, Na117, Ha117, Ga117⟩ := id V_a1
  have hin117 : ¬ ((4 : Int32) < 0 ∨ cl117.slots.size ≤ ((4 : Int32)).toNatClampNeg) := inb_of Sa117 ⟨by decide, by decide⟩
  obtain ⟨T118, h118, X118, e118, W118, st118⟩ := stB X116 hx hZ e116 Ar117 (j := (4 : Int32)) hin117 (g := (mkF m 43 #[rv a1, iv (5 : Int32), iv x] [(.int ((x >>> ((0 : Int32) &&& 31)).toInt8.toInt32)), (.int (4 : Int32)), (.ref a1)])) rfl rfl (hb hby d21_43)
  refine own_by st118 ?_
  have hnr118 : nar .byte ((x >>> ((0 : Int32) &&& 31)).toInt8.toInt32) = (own_lb x) := rfl
  rw [hnr118] at W118
  have V_a1_118 : Arv Z h118 a1 k .byte (6 : Int32) [(.int y0), (.int y1), (.int y2), (.int y3), (.int (own_lb x)), (.int y5)] (.int (0 : Int32)) := Arv.set Ar117 qa117 Sa117 Na117 Ha117 Ga117 (hnr118 ▸ fits_nar_byte ((x >>> ((0 : Int32) &&& 31)).toInt8.toInt32)) W118 4 rfl (Nat.le_of_ble_eq_true rfl)
  have Od118 := O0.wr W118 g_a1
  have N118 := Fr.snoc X118 N0 g_a1
  have Z118 : n0 ≤ h118.size := Nat.le_trans Z0 (Keep.of_wr W118).1
  have K118 := Kz.wr W118 (Or.inl (List.mem_of_getElem? (i := 0) rfl))
  show own_Fin _ _ _ _ (T118.setTop (mkF m 44 #[rv a1, iv (5 : Int32), iv x] []))
  refine own_go (XS.aloadN X118.here hx rfl (hb hby d21_44) rfl rfl (Steps.refl _)) ?_
  show own_Fin _ _ _ _ (T118.setTop (mkF m 45 #[rv a1, iv (5 : Int32), iv x] [(.ref a1)]))
  refine own_go (XS.iloadN X118.here hx rfl (hb hby d21_45) rfl (Steps.refl _)) ?_
  show own_Fin _ _ _ _ (T118.setTop (mkF m 46 #[rv a1, iv (5 : Int32), iv x] [(.int (5 : Int32)), (.ref a1)]))
  refine own_go (XS.iloadN X118.here hx rfl (hb hby d21_46) rfl (Steps.refl _)) ?_
  show own_Fin _ _ _ _ (T118.setTop (mkF m 47 #[rv a1, iv (5 : Int32), iv x] [(.int x), (.int (5 : Int32)), (.ref a1)]))
  obtain ⟨T119, X119, e119, st119⟩ := getS2 X118 hx hZ hown (host := "") (Or.inl (hw _ (List.mem_of_getElem? (i := 94) rfl))) Via.refl e118 (S_LO_BYTE_SHIFT.ext Od118.2) (g := (mkF m 47 #[rv a1, iv (5 : Int32), iv x] [(.int x), (.int (5 : Int32)), (.ref a1)])) rfl (hb hby d21_47)
  refine own_by st119 ?_
  show own_Fin _ _ _ _ (T119.setTop (mkF m 50 #[rv a1, iv (5 : Int32), iv x] [(.int (8 : Int32)), (.int x), (.int (5 : Int32)), (.ref a1)]))
  refine own_go (XS.ishr X119.here hx rfl (hb hby d21_50) rfl (Steps.refl _)) ?_
  show own_Fin _ _ _ _ (T119.setTop (mkF m 51 #[rv a1, iv (5 : Int32), iv x] [(.int (x >>> ((8 : Int32) &&& 31))), (.int (5 : Int32)), (.ref a1)]))
  refine own_go (XS.i2b X119.here hx rfl (hb hby d21_51) rfl (Steps.refl _)) ?_
  show own_Fin _ _ _ _ (T119.setTop (mkF m 52 #[rv a1, iv (5 : Int32), iv x] [(.int ((x >>> ((8 : Int32) &&& 31)).toInt8.toInt32)), (.int (5 : Int32)), (.ref a1)]))
  obtain ⟨cl120, Ar120, qa120, Sa120, Na120, Ha120, Ga120⟩ := id V_a1_118
  have hin120 : ¬ ((5 : Int32) < 0 ∨ cl120.slots.size ≤ ((5 : Int32)).toNatClampNeg) := inb_of Sa120 ⟨by decide, by decide⟩
  obtain ⟨T121, h121, X121, e121, W121, st121⟩ := stB X119 hx hZ e119 Ar120 (j := (5 : Int32)) hin120 (g := (mkF m 52 #[rv a1, iv (5 : Int32), iv x] [(.int ((x >>> ((8 : Int32) &&& 31)).toInt8.toInt32)), (.int (5 : Int32)), (.ref a1)])) rfl rfl (hb hby d21_52)
  refine own_by st121 ?_
  have hnr121 : nar .byte ((x >>> ((8 : Int32) &&& 31)).toInt8.toInt32) = (own_hb x) := rfl
  rw [hnr121] at W121
  have V_a1_121 : Arv Z h121 a1 k .byte (6 : Int32) [(.int y0), (.int y1), (.int y2), (.int y3), (.int (own_lb x)), (.int (own_hb x))] (.int (0 : Int32)) := Arv.set Ar120 qa120 Sa120 Na120 Ha120 Ga120 (hnr121 ▸ fits_nar_byte ((x >>> ((8 : Int32) &&& 31)).toInt8.toInt32)) W121 5 rfl (Nat.le_of_ble_eq_true rfl)
  have Od121 := Od118.wr W121 g_a1
  have N121 := Fr.snoc X121 N118 g_a1
  have Z121 : n0 ≤ h121.size := Nat.le_trans Z118 (Keep.of_wr W121).1
  have K121 := K118.wr W121 (Or.inl (List.mem_of_getElem? (i := 0) rfl))
  show own_Fin _ _ _ _ (T121.setTop (mkF m 53 #[rv a1, iv (5 : Int32), iv x] []))
  obtain ⟨fs122, hr122, hrun122, hended122, hW122, hsame122⟩ := X121.leave (v := none) (fun _ => rfl)
  refine own_done (X121.returnOut hx Bd.returns (hb hby d21_53) hr122) hrun122 hended122 ⟨_, _, rfl, ?_, ⟨_, rfl⟩, hW122, hsame122.mono (by decide) (by decide)⟩
  show Qpc_3_2 Z a1 k x y0 y1 y2 y3 y4 y5 h0 n0 _ T121.heap _
  rw [e121]
  exact ⟨rfl, N121, K121, V_a1_121⟩
theorem ef_tb_3 (m : MethodId) (x0 : Addr) (x1 : Int32) (x2 : Int32) : entryFrame m #[(.ref x0), (.int x1), (.int x2)] 5 = mkF m 0 #[.val (.ref x0), .val (.int x1), .val (.int x2), .unset, .unset] [] := by first | (simp [entryFrame, mkF, argsToLocals, Value.category]; done) | rfl
def Qtb_3 (Z : State) (a1 : Addr) (k : ClassId) (c0 : Int32) (c1 : Int32) (c2 : Int32) (h0 : Heap) (n0 : Nat) (v : Option Value) (h : Heap) (L : List Loc) : Prop := ∃ (b : Addr) (kb : ClassId), v = some (.ref b) ∧ Fr n0 L ∧ Keep h0 h [] ∧ n0 ≤ b ∧ h0.size ≤ b ∧ Arv Z h b kb .byte (6 : Int32) [(.int (own_lb c0)), (.int (own_hb c0)), (.int (own_lb c1)), (.int (own_hb c1)), (.int (own_lb c2)), (.int (own_hb c2))] (.int (0 : Int32))
abbrev Gtb_3 (Z : State) (a1 : Addr) (k : ClassId) (c0 : Int32) (c1 : Int32) (c2 : Int32) (h0 : Heap) (n0 : Nat) (s : State) : Outcome → State → Prop := fun o U' => ∃ v L, o = .returned v ∧ Qtb_3 Z a1 k c0 c1 c2 h0 n0 v U'.heap L ∧ FrameEnd s o U' L ({ frames := 2, cells := 1, slots := 6, locals := 40 } : Room).cells ({ frames := 2, cells := 1, slots := 6, locals := 40 } : Room).slots
set_option maxRecDepth 65536 in
set_option maxHeartbeats 40000000 in
theorem rmtb_3 (l : Launch) (Z : State) (a0 : Array Value) (hw : ∀ d ∈ tables_1, d.before a0 Z = true) (ws : List Jvm.Cond) (a1 : Addr) (k : ClassId) (c0 : Int32) (c1 : Int32) (c2 : Int32) (h0 : Heap) (n0 : Nat) (Z0 : n0 ≤ h0.size) (V_a1 : Arv Z h0 a1 k .char (3 : Int32) [(.int c0), (.int c1), (.int c2)] (.int (0 : Int32))) (O0 : Old Z n0 h0) (S__assertionsDisabled : Sta Z Z.heap "java/lang/StringUTF16" "$assertionsDisabled" "Z" (.int (1 : Int32))) (S_HI_BYTE_SHIFT : Sta Z Z.heap "java/lang/StringUTF16" "HI_BYTE_SHIFT" "I" (.int (0 : Int32))) (S_LO_BYTE_SHIFT : Sta Z Z.heap "java/lang/StringUTF16" "LO_BYTE_SHIFT" "I" (.int (8 : Int32))) :
    MetFree l (⟨"java/lang/StringUTF16", "toBytes", "([CII)[B"⟩ : MethodName) (head1 (Jvm.Cond.code (⟨"java/lang/StringUTF16", "toBytes", "([CII)[B"⟩ : MethodName) jdk_52_method_14_code 5 (some (.array .byte)) :: ws) ({ frames := 2, cells := 1, slots := 6, locals := 40 } : Room)) (fun a U => a = #[(.ref a1), (.int (0 : Int32)), (.int (3 : Int32))] ∧ Z.Warmed39 U.vm ∧ U.heap = h0) (fun _ _ _ _ _ => True) (fun _ U o U' => ∃ v L, o = .returned v ∧ Qtb_3 Z a1 k c0 c1 c2 h0 n0 v U'.heap L ∧ FrameEnd U o U' L ({ frames := 2, cells := 1, slots := 6, locals := 40 } : Room).cells ({ frames := 2, cells := 1, slots := 6, locals := 40 } : Room).slots) := by
  refine MetFree.of_bodySF (plainFor_of_name pn_java_lang_StringUTF16) hisR ?_
  intro p e s m args below meth c s₁ Bd hml0 hP hK
  obtain ⟨rfl, hZ, hh⟩ := hP
  have hx := Bd.exec
  have hby := Bd.bytes
  have hml : c.maxLocals = 5 := hml0
  have hown : s.vm.findClass "java/lang/StringUTF16" = some m.cls := findClass_of_methodNamed Bd.named
  have hnm := (name_of_methodNamed Bd.named Bd.method).1
  have X0 : Stand p l e ({ frames := 2, cells := 1, slots := 6, locals := 40 } : Room) s m #[(.ref a1), (.int (0 : Int32)), (.int (3 : Int32))] below meth c s₁ [] 0 0 := Stand.of_body Bd
  have e0 : s₁.heap = h0 := by rw [← hh, Bd.state]; rfl
  have es0 : s.heap = h0 := hh
  have N0 := Fr.nil n0
  show own_Fin p e below (Gtb_3 Z a1 k c0 c1 c2 h0 n0 s) (s₁.setTop (entryFrame m #[(.ref a1), (.int (0 : Int32)), (.int (3 : Int32))] 5))
  rw [ef_tb_3 m a1 (0 : Int32) (3 : Int32)]
  have Kz := Keep.refl h0 []
  refine own_go (XS.iloadN X0.here hx rfl (hb hby d18_0) rfl (Steps.refl _)) ?_
  show own_Fin _ _ _ _ (s₁.setTop (mkF m 1 #[rv a1, iv (0 : Int32), iv (3 : Int32), .unset, .unset] [(.int (3 : Int32))]))
  obtain ⟨_, _, ⟨T123, L123, k123, n123⟩, -, X123, ⟨Lc123, hQ123, l123, y123, z123⟩, st123⟩ := Jvm.LawKit.callS X0 hx (y := (⟨"java/lang/StringUTF16", "newBytesFor", "(I)[B"⟩ : MethodName)) hown (mvT hZ (hw _ (List.mem_of_getElem? (i := 82) rfl))) (mvT hZ (hw _ (List.mem_of_getElem? (i := 83) rfl))) (mvT hZ (hw _ (List.mem_of_getElem? (i := 21) rfl))) (mvT hZ (hw _ (List.mem_of_getElem? (i := 84) rfl))) (by decide) (backOf (W := 0) (rmnf_3 l Z a0 hw []  h0 n0 Z0) hZ (hw _ (List.mem_of_getElem? (i := 84) rfl)) (hw _ (List.mem_of_getElem? (i := 21) rfl)) (by decide) (by decide)) (g := (mkF m 1 #[rv a1, iv (0 : Int32), iv (3 : Int32), .unset, .unset] [(.int (3 : Int32))])) rfl (by rw [hml]; rfl) (argsL := [(.int (3 : Int32))]) (rest := []) (lenOf pd__28_I_29__5b_B rfl) rfl (by show 2 * 0 + _ ≤ _; exact Nat.le_of_eq rfl) (hb hby d18_1) (fun _ hv => ⟨rfl, e0, (by decide : 0 + 1 ≤ _), (by decide : 0 + 6 ≤ _)⟩)
  dsimp only [Pt.U, Pt.locs, Pt.cells, Pt.slots] at X123 l123 y123 z123 st123 hQ123
  subst l123 y123 z123
  refine own_by st123 ?_
  obtain ⟨b_123, kb_123, rfl, Nq123, K123, g_b_123, sb_b_123, r123_0⟩ := hQ123
  have ne_a1_b_123 : a1 ≠ b_123 := Nat.ne_of_lt (Nat.lt_of_lt_of_le V_a1.lt sb_b_123)
  have sz_b_123 : h0.size ≤ b_123 := Nat.le_trans Kz.1 sb_b_123
  have Od123 := O0.keep K123 all0
  have V_a1_123 := V_a1.keep K123 nin0
  have Z123 : n0 ≤ T123.heap.size := Nat.le_trans Z0 K123.1
  have Kt123 := Kz.trans K123 all0
  have N123 := Fr.app N0 Nq123
  show own_Fin _ _ _ _ (T123.setTop (mkF m 4 #[rv a1, iv (0 : Int32), iv (3 : Int32), .unset, .unset] [(.ref b_123)]))
  refine own_go (XS.astoreN X123.here hx rfl (hb hby d18_4) rfl rfl rfl (Steps.refl _)) ?_
  show own_Fin _ _ _ _ (T123.setTop (mkF m 5 #[rv a1, iv (0 : Int32), iv (3 : Int32), rv b_123, .unset] []))
  refine own_go (XS.iconst X123.here hx rfl (hb hby d18_5) (Steps.refl _)) ?_
  show own_Fin _ _ _ _ (T123.setTop (mkF m 6 #[rv a1, iv (0 : Int32), iv (3 : Int32), rv b_123, .unset] [(.int (0 : Int32))]))
  refine own_go (XS.istore X123.here hx rfl (hb hby d18_6) rfl rfl (Steps.refl _)) ?_
  show own_Fin _ _ _ _ (T123.setTop (mkF m 8 #[rv a1, iv (0 : Int32), iv (3 : Int32), rv b_123, iv (0 : Int32)] []))
  refine own_go (XS.iload X123.here hx rfl (hb hby d18_8) rfl (Steps.refl _)) ?_
  show own_Fin _ _ _ _ (T123.setTop (mkF m 10 #[rv a1, iv (0 : Int32), iv (3 : Int32), rv b_123, iv (0 : Int32)] [(.int (0 : Int32))]))
  refine own_go (XS.iloadN X123.here hx rfl (hb hby d18_10) rfl (Steps.refl _)) ?_
  show own_Fin _ _ _ _ (T123.setTop (mkF m 11 #[rv a1, iv (0 : Int32), iv (3 : Int32), rv b_123, iv (0 : Int32)] [(.int (3 : Int32)), (.int (0 : Int32))]))
  refine own_go (XS.icmpNo X123.here hx rfl (hb hby d18_11) rfl (tlt (by decide : (0 : Int32) < (3 : Int32))).2.1 (Steps.refl _)) ?_
  show own_Fin _ _ _ _ (T123.setTop (mkF m 14 #[rv a1, iv (0 : Int32), iv (3 : Int32), rv b_123, iv (0 : Int32)] []))
  refine own_go (XS.aloadN X123.here hx rfl (hb hby d18_14) rfl rfl (Steps.refl _)) ?_
  show own_Fin _ _ _ _ (T123.setTop (mkF m 15 #[rv a1, iv (0 : Int32), iv (3 : Int32), rv b_123, iv (0 : Int32)] [(.ref b_123)]))
  refine own_go (XS.iload X123.here hx rfl (hb hby d18_15) rfl (Steps.refl _)) ?_
  show own_Fin _ _ _ _ (T123.setTop (mkF m 17 #[rv a1, iv (0 : Int32), iv (3 : Int32), rv b_123, iv (0 : Int32)] [(.int (0 : Int32)), (.ref b_123)]))
  refine own_go (XS.aloadN X123.here hx rfl (hb hby d18_17) rfl rfl (Steps.refl _)) ?_
  show own_Fin _ _ _ _ (T123.setTop (mkF m 18 #[rv a1, iv (0 : Int32), iv (3 : Int32), rv b_123, iv (0 : Int32)] [(.ref a1), (.int (0 : Int32)), (.ref b_123)]))
  refine own_go (XS.iloadN X123.here hx rfl (hb hby d18_18) rfl (Steps.refl _)) ?_
  show own_Fin _ _ _ _ (T123.setTop (mkF m 19 #[rv a1, iv (0 : Int32), iv (3 : Int32), rv b_123, iv (0 : Int32)] [(.int (0 : Int32)), (.ref a1), (.int (0 : Int32)), (.ref b_123)]))
  obtain ⟨cl124, Ar124, qa124, Sa124, Na124, Ha124, Ga124⟩ := id V_a1_123
  have hin124 : ¬ ((0 : Int32) < 0 ∨ cl124.slots.size ≤ ((0 : Int32)).toNatClampNeg) := inb_of Sa124 ⟨by decide, by decide⟩
  have hat124 : cl124.slots[((0 : Int32)).toNatClampNeg]? = some (.int c0) := Has.at Ha124 hin124 rfl
  refine own_by (X123.caload hx (j := (0 : Int32)) (v := (.int c0)) Ar124.1 (State.isArrayOf_alike hZ.alike Ar124.2.1) Ar124.2.2 hin124 hat124 (g := (mkF m 19 #[rv a1, iv (0 : Int32), iv (3 : Int32), rv b_123, iv (0 : Int32)] [(.int (0 : Int32)), (.ref a1), (.int (0 : Int32)), (.ref b_123)])) rfl rfl (hb hby d18_19)) ?_
  show own_Fin _ _ _ _ (T123.setTop (mkF m 20 #[rv a1, iv (0 : Int32), iv (3 : Int32), rv b_123, iv (0 : Int32)] [(.int c0), (.int (0 : Int32)), (.ref b_123)]))
  obtain ⟨_, _, ⟨T125, L125, k125, n125⟩, -, X125, ⟨Lc125, hQ125, l125, y125, z125⟩, st125⟩ := Jvm.LawKit.callS X123 hx (y := (⟨"java/lang/StringUTF16", "putChar", "([BII)V"⟩ : MethodName)) hown (mvT hZ (hw _ (List.mem_of_getElem? (i := 89) rfl))) (mvT hZ (hw _ (List.mem_of_getElem? (i := 90) rfl))) (mvT hZ (hw _ (List.mem_of_getElem? (i := 21) rfl))) (mvT hZ (hw _ (List.mem_of_getElem? (i := 91) rfl))) (by decide) (backOf (W := 0) (rmpc_3_0 l Z a0 hw [] b_123 kb_123 c0 (0 : Int32) (0 : Int32) (0 : Int32) (0 : Int32) (0 : Int32) (0 : Int32) T123.heap n0 Z123 r123_0 g_b_123 Od123 S__assertionsDisabled S_HI_BYTE_SHIFT S_LO_BYTE_SHIFT) hZ (hw _ (List.mem_of_getElem? (i := 91) rfl)) (hw _ (List.mem_of_getElem? (i := 21) rfl)) (by decide) (by decide)) (g := (mkF m 20 #[rv a1, iv (0 : Int32), iv (3 : Int32), rv b_123, iv (0 : Int32)] [(.int c0), (.int (0 : Int32)), (.ref b_123)])) rfl (by rw [hml]; rfl) (argsL := [(.ref b_123), (.int (0 : Int32)), (.int c0)]) (rest := []) (lenOf pd__28__5b_BII_29_V rfl) rfl (by show 2 * 0 + _ ≤ _; exact Nat.le_of_eq rfl) (hb hby d18_20) (fun _ hv => ⟨rfl, rfl, (by decide : 1 + 0 ≤ _), (by decide : 6 + 0 ≤ _)⟩)
  dsimp only [Pt.U, Pt.locs, Pt.cells, Pt.slots] at X125 l125 y125 z125 st125 hQ125
  subst l125 y125 z125
  refine own_by st125 ?_
  obtain ⟨rfl, Nq125, K125, r125_0⟩ := hQ125
  have Od125 := Od123.keep K125 (allS g_b_123 all0)
  have V_a1_125 := V_a1_123.keep K125 (ninS ne_a1_b_123 nin0)
  have Z125 : n0 ≤ T125.heap.size := Nat.le_trans Z123 K125.1
  have Kt125 := Kt123.trans K125 (allS (P := fun x => x ∈ _ ∨ _ ≤ x) (Or.inr sz_b_123) all0)
  have N125 := Fr.app N123 Nq125
  show own_Fin _ _ _ _ (T125.setTop (mkF m 23 #[rv a1, iv (0 : Int32), iv (3 : Int32), rv b_123, iv (0 : Int32)] []))
  refine own_go (XS.iinc X125.here hx rfl (hb hby d18_23) rfl rfl (Steps.refl _)) ?_
  show own_Fin _ _ _ _ (T125.setTop (mkF m 26 #[rv a1, iv (1 : Int32), iv (3 : Int32), rv b_123, iv (0 : Int32)] []))
  refine own_go (XS.iinc X125.here hx rfl (hb hby d18_26) rfl rfl (Steps.refl _)) ?_
  show own_Fin _ _ _ _ (T125.setTop (mkF m 29 #[rv a1, iv (1 : Int32), iv (3 : Int32), rv b_123, iv (1 : Int32)] []))
  refine own_go (XS.goto X125.here hx rfl (pc0 := 29) (pc' := 8) rfl (hb hby d18_29) (by decide) (by decide) (Steps.refl _)) ?_
  show own_Fin _ _ _ _ (T125.setTop (mkF m 8 #[rv a1, iv (1 : Int32), iv (3 : Int32), rv b_123, iv (1 : Int32)] []))
  refine own_go (XS.iload X125.here hx rfl (hb hby d18_8) rfl (Steps.refl _)) ?_
  show own_Fin _ _ _ _ (T125.setTop (mkF m 10 #[rv a1, iv (1 : Int32), iv (3 : Int32), rv b_123, iv (1 : Int32)] [(.int (1 : Int32))]))
  refine own_go (XS.iloadN X125.here hx rfl (hb hby d18_10) rfl (Steps.refl _)) ?_
  show own_Fin _ _ _ _ (T125.setTop (mkF m 11 #[rv a1, iv (1 : Int32), iv (3 : Int32), rv b_123, iv (1 : Int32)] [(.int (3 : Int32)), (.int (1 : Int32))]))
  refine own_go (XS.icmpNo X125.here hx rfl (hb hby d18_11) rfl (tlt (by decide : (1 : Int32) < (3 : Int32))).2.1 (Steps.refl _)) ?_
  show own_Fin _ _ _ _ (T125.setTop (mkF m 14 #[rv a1, iv (1 : Int32), iv (3 : Int32), rv b_123, iv (1 : Int32)] []))
  refine own_go (XS.aloadN X125.here hx rfl (hb hby d18_14) rfl rfl (Steps.refl _)) ?_
  show own_Fin _ _ _ _ (T125.setTop (mkF m 15 #[rv a1, iv (1 : Int32), iv (3 : Int32), rv b_123, iv (1 : Int32)] [(.ref b_123)]))
  refine own_go (XS.iload X125.here hx rfl (hb hby d18_15) rfl (Steps.refl _)) ?_
  show own_Fin _ _ _ _ (T125.setTop (mkF m 17 #[rv a1, iv (1 : Int32), iv (3 : Int32), rv b_123, iv (1 : Int32)] [(.int (1 : Int32)), (.ref b_123)]))
  refine own_go (XS.aloadN X125.here hx rfl (hb hby d18_17) rfl rfl (Steps.refl _)) ?_
  show own_Fin _ _ _ _ (T125.setTop (mkF m 18 #[rv a1, iv (1 : Int32), iv (3 : Int32), rv b_123, iv (1 : Int32)] [(.ref a1), (.int (1 : Int32)), (.ref b_123)]))
  refine own_go (XS.iloadN X125.here hx rfl (hb hby d18_18) rfl (Steps.refl _)) ?_
  show own_Fin _ _ _ _ (T125.setTop (mkF m 19 #[rv a1, iv (1 : Int32), iv (3 : Int32), rv b_123, iv (1 : Int32)] [(.int (1 : Int32)), (.ref a1), (.int (1 : Int32)), (.ref b_123)]))
  obtain ⟨cl126, Ar126, qa126, Sa126, Na126, Ha126, Ga126⟩ := id V_a1_125
  have hin126 : ¬ ((1 : Int32) < 0 ∨ cl126.slots.size ≤ ((1 : Int32)).toNatClampNeg) := inb_of Sa126 ⟨by decide, by decide⟩
  have hat126 : cl126.slots[((1 : Int32)).toNatClampNeg]? = some (.int c1) := Has.at Ha126 hin126 rfl
  refine own_by (X125.caload hx (j := (1 : Int32)) (v := (.int c1)) Ar126.1 (State.isArrayOf_alike hZ.alike Ar126.2.1) Ar126.2.2 hin126 hat126 (g := (mkF m 19 #[rv a1, iv (1 : Int32), iv (3 : Int32), rv b_123, iv (1 : Int32)] [(.int (1 : Int32)), (.ref a1), (.int (1 : Int32)), (.ref b_123)])) rfl rfl (hb hby d18_19)) ?_
  show own_Fin _ _ _ _ (T125.setTop (mkF m 20 #[rv a1, iv (1 : Int32), iv (3 : Int32), rv b_123, iv (1 : Int32)] [(.int c1), (.int (1 : Int32)), (.ref b_123)]))
  obtain ⟨_, _, ⟨T127, L127, k127, n127⟩, -, X127, ⟨Lc127, hQ127, l127, y127, z127⟩, st127⟩ := Jvm.LawKit.callS X125 hx (y := (⟨"java/lang/StringUTF16", "putChar", "([BII)V"⟩ : MethodName)) hown (mvT hZ (hw _ (List.mem_of_getElem? (i := 89) rfl))) (mvT hZ (hw _ (List.mem_of_getElem? (i := 90) rfl))) (mvT hZ (hw _ (List.mem_of_getElem? (i := 21) rfl))) (mvT hZ (hw _ (List.mem_of_getElem? (i := 91) rfl))) (by decide) (backOf (W := 0) (rmpc_3_1 l Z a0 hw [] b_123 kb_123 c1 (own_lb c0) (own_hb c0) (0 : Int32) (0 : Int32) (0 : Int32) (0 : Int32) T125.heap n0 Z125 r125_0 g_b_123 Od125 S__assertionsDisabled S_HI_BYTE_SHIFT S_LO_BYTE_SHIFT) hZ (hw _ (List.mem_of_getElem? (i := 91) rfl)) (hw _ (List.mem_of_getElem? (i := 21) rfl)) (by decide) (by decide)) (g := (mkF m 20 #[rv a1, iv (1 : Int32), iv (3 : Int32), rv b_123, iv (1 : Int32)] [(.int c1), (.int (1 : Int32)), (.ref b_123)])) rfl (by rw [hml]; rfl) (argsL := [(.ref b_123), (.int (1 : Int32)), (.int c1)]) (rest := []) (lenOf pd__28__5b_BII_29_V rfl) rfl (by show 2 * 0 + _ ≤ _; exact Nat.le_of_eq rfl) (hb hby d18_20) (fun _ hv => ⟨rfl, rfl, (by decide : 1 + 0 ≤ _), (by decide : 6 + 0 ≤ _)⟩)
  dsimp only [Pt.U, Pt.locs, Pt.cells, Pt.slots] at X127 l127 y127 z127 st127 hQ127
  subst l127 y127 z127
  refine own_by st127 ?_
  obtain ⟨rfl, Nq127, K127, r127_0⟩ := hQ127
  have Od127 := Od125.keep K127 (allS g_b_123 all0)
  have V_a1_127 := V_a1_125.keep K127 (ninS ne_a1_b_123 nin0)
  have Z127 : n0 ≤ T127.heap.size := Nat.le_trans Z125 K127.1
  have Kt127 := Kt125.trans K127 (allS (P := fun x => x ∈ _ ∨ _ ≤ x) (Or.inr sz_b_123) all0)
  have N127 := Fr.app N125 Nq127
  show own_Fin _ _ _ _ (T127.setTop (mkF m 23 #[rv a1, iv (1 : Int32), iv (3 : Int32), rv b_123, iv (1 : Int32)] []))
  refine own_go (XS.iinc X127.here hx rfl (hb hby d18_23) rfl rfl (Steps.refl _)) ?_
  show own_Fin _ _ _ _ (T127.setTop (mkF m 26 #[rv a1, iv (2 : Int32), iv (3 : Int32), rv b_123, iv (1 : Int32)] []))
  refine own_go (XS.iinc X127.here hx rfl (hb hby d18_26) rfl rfl (Steps.refl _)) ?_
  show own_Fin _ _ _ _ (T127.setTop (mkF m 29 #[rv a1, iv (2 : Int32), iv (3 : Int32), rv b_123, iv (2 : Int32)] []))
  refine own_go (XS.goto X127.here hx rfl (pc0 := 29) (pc' := 8) rfl (hb hby d18_29) (by decide) (by decide) (Steps.refl _)) ?_
  show own_Fin _ _ _ _ (T127.setTop (mkF m 8 #[rv a1, iv (2 : Int32), iv (3 : Int32), rv b_123, iv (2 : Int32)] []))
  refine own_go (XS.iload X127.here hx rfl (hb hby d18_8) rfl (Steps.refl _)) ?_
  show own_Fin _ _ _ _ (T127.setTop (mkF m 10 #[rv a1, iv (2 : Int32), iv (3 : Int32), rv b_123, iv (2 : Int32)] [(.int (2 : Int32))]))
  refine own_go (XS.iloadN X127.here hx rfl (hb hby d18_10) rfl (Steps.refl _)) ?_
  show own_Fin _ _ _ _ (T127.setTop (mkF m 11 #[rv a1, iv (2 : Int32), iv (3 : Int32), rv b_123, iv (2 : Int32)] [(.int (3 : Int32)), (.int (2 : Int32))]))
  refine own_go (XS.icmpNo X127.here hx rfl (hb hby d18_11) rfl (tlt (by decide : (2 : Int32) < (3 : Int32))).2.1 (Steps.refl _)) ?_
  show own_Fin _ _ _ _ (T127.setTop (mkF m 14 #[rv a1, iv (2 : Int32), iv (3 : Int32), rv b_123, iv (2 : Int32)] []))
  refine own_go (XS.aloadN X127.here hx rfl (hb hby d18_14) rfl rfl (Steps.refl _)) ?_
  show own_Fin _ _ _ _ (T127.setTop (mkF m 15 #[rv a1, iv (2 : Int32), iv (3 : Int32), rv b_123, iv (2 : Int32)] [(.ref b_123)]))
  refine own_go (XS.iload X127.here hx rfl (hb hby d18_15) rfl (Steps.refl _)) ?_
  show own_Fin _ _ _ _ (T127.setTop (mkF m 17 #[rv a1, iv (2 : Int32), iv (3 : Int32), rv b_123, iv (2 : Int32)] [(.int (2 : Int32)), (.ref b_123)]))
  refine own_go (XS.aloadN X127.here hx rfl (hb hby d18_17) rfl rfl (Steps.refl _)) ?_
  show own_Fin _ _ _ _ (T127.setTop (mkF m 18 #[rv a1, iv (2 : Int32), iv (3 : Int32), rv b_123, iv (2 : Int32)] [(.ref a1), (.int (2 : Int32)), (.ref b_123)]))
  refine own_go (XS.iloadN X127.here hx rfl (hb hby d18_18) rfl (Steps.refl _)) ?_
  show own_Fin _ _ _ _ (T127.setTop (mkF m 19 #[rv a1, iv (2 : Int32), iv (3 : Int32), rv b_123, iv (2 : Int32)] [(.int (2 : Int32)), (.ref a1), (.int (2 : Int32)), (.ref b_123)]))
  obtain ⟨cl128, Ar128, qa128, Sa128, Na128, Ha128, Ga128⟩ := id V_a1_127
  have hin128 : ¬ ((2 : Int32) < 0 ∨ cl128.slots.size ≤ ((2 : Int32)).toNatClampNeg) := inb_of Sa128 ⟨by decide, by decide⟩
  have hat128 : cl128.slots[((2 : Int32)).toNatClampNeg]? = some (.int c2) := Has.at Ha128 hin128 rfl
  refine own_by (X127.caload hx (j := (2 : Int32)) (v := (.int c2)) Ar128.1 (State.isArrayOf_alike hZ.alike Ar128.2.1) Ar128.2.2 hin128 hat128 (g := (mkF m 19 #[rv a1, iv (2 : Int32), iv (3 : Int32), rv b_123, iv (2 : Int32)] [(.int (2 : Int32)), (.ref a1), (.int (2 : Int32)), (.ref b_123)])) rfl rfl (hb hby d18_19)) ?_
  show own_Fin _ _ _ _ (T127.setTop (mkF m 20 #[rv a1, iv (2 : Int32), iv (3 : Int32), rv b_123, iv (2 : Int32)] [(.int c2), (.int (2 : Int32)), (.ref b_123)]))
  obtain ⟨_, _, ⟨T129, L129, k129, n129⟩, -, X129, ⟨Lc129, hQ129, l129, y129, z129⟩, st129⟩ := Jvm.LawKit.callS X127 hx (y := (⟨"java/lang/StringUTF16", "putChar", "([BII)V"⟩ : MethodName)) hown (mvT hZ (hw _ (List.mem_of_getElem? (i := 89) rfl))) (mvT hZ (hw _ (List.mem_of_getElem? (i := 90) rfl))) (mvT hZ (hw _ (List.mem_of_getElem? (i := 21) rfl))) (mvT hZ (hw _ (List.mem_of_getElem? (i := 91) rfl))) (by decide) (backOf (W := 0) (rmpc_3_2 l Z a0 hw [] b_123 kb_123 c2 (own_lb c0) (own_hb c0) (own_lb c1) (own_hb c1) (0 : Int32) (0 : Int32) T127.heap n0 Z127 r127_0 g_b_123 Od127 S__assertionsDisabled S_HI_BYTE_SHIFT S_LO_BYTE_SHIFT) hZ (hw _ (List.mem_of_getElem? (i := 91) rfl)) (hw _ (List.mem_of_getElem? (i := 21) rfl)) (by decide) (by decide)) (g := (mkF m 20 #[rv a1, iv (2 : Int32), iv (3 : Int32), rv b_123, iv (2 : Int32)] [(.int c2), (.int (2 : Int32)), (.ref b_123)])) rfl (by rw [hml]; rfl) (argsL := [(.ref b_123), (.int (2 : Int32)), (.int c2)]) (rest := []) (lenOf pd__28__5b_BII_29_V rfl) rfl (by show 2 * 0 + _ ≤ _; exact Nat.le_of_eq rfl) (hb hby d18_20) (fun _ hv => ⟨rfl, rfl, (by decide : 1 + 0 ≤ _), (by decide : 6 + 0 ≤ _)⟩)
  dsimp only [Pt.U, Pt.locs, Pt.cells, Pt.slots] at X129 l129 y129 z129 st129 hQ129
  subst l129 y129 z129
  refine own_by st129 ?_
  obtain ⟨rfl, Nq129, K129, r129_0⟩ := hQ129
  have Od129 := Od127.keep K129 (allS g_b_123 all0)
  have V_a1_129 := V_a1_127.keep K129 (ninS ne_a1_b_123 nin0)
  have Z129 : n0 ≤ T129.heap.size := Nat.le_trans Z127 K129.1
  have Kt129 := Kt127.trans K129 (allS (P := fun x => x ∈ _ ∨ _ ≤ x) (Or.inr sz_b_123) all0)
  have N129 := Fr.app N127 Nq129
  show own_Fin _ _ _ _ (T129.setTop (mkF m 23 #[rv a1, iv (2 : Int32), iv (3 : Int32), rv b_123, iv (2 : Int32)] []))
  refine own_go (XS.iinc X129.here hx rfl (hb hby d18_23) rfl rfl (Steps.refl _)) ?_
  show own_Fin _ _ _ _ (T129.setTop (mkF m 26 #[rv a1, iv (3 : Int32), iv (3 : Int32), rv b_123, iv (2 : Int32)] []))
  refine own_go (XS.iinc X129.here hx rfl (hb hby d18_26) rfl rfl (Steps.refl _)) ?_
  show own_Fin _ _ _ _ (T129.setTop (mkF m 29 #[rv a1, iv (3 : Int32), iv (3 : Int32), rv b_123, iv (3 : Int32)] []))
  refine own_go (XS.goto X129.here hx rfl (pc0 := 29) (pc' := 8) rfl (hb hby d18_29) (by decide) (by decide) (Steps.refl _)) ?_
  show own_Fin _ _ _ _ (T129.setTop (mkF m 8 #[rv a1, iv (3 : Int32), iv (3 : Int32), rv b_123, iv (3 : Int32)] []))
  refine own_go (XS.iload X129.here hx rfl (hb hby d18_8) rfl (Steps.refl _)) ?_
  show own_Fin _ _ _ _ (T129.setTop (mkF m 10 #[rv a1, iv (3 : Int32), iv (3 : Int32), rv b_123, iv (3 : Int32)] [(.int (3 : Int32))]))
  refine own_go (XS.iloadN X129.here hx rfl (hb hby d18_10) rfl (Steps.refl _)) ?_
  show own_Fin _ _ _ _ (T129.setTop (mkF m 11 #[rv a1, iv (3 : Int32), iv (3 : Int32), rv b_123, iv (3 : Int32)] [(.int (3 : Int32)), (.int (3 : Int32))]))
  refine own_go (XS.icmpYes X129.here hx rfl (pc0 := 11) (pc' := 32) rfl (hb hby d18_11) rfl (flt (by decide : ¬ ((3 : Int32) < (3 : Int32)))).2.1 (by decide) (by decide) (Steps.refl _)) ?_
  show own_Fin _ _ _ _ (T129.setTop (mkF m 32 #[rv a1, iv (3 : Int32), iv (3 : Int32), rv b_123, iv (3 : Int32)] []))
  refine own_go (XS.aloadN X129.here hx rfl (hb hby d18_32) rfl rfl (Steps.refl _)) ?_
  show own_Fin _ _ _ _ (T129.setTop (mkF m 33 #[rv a1, iv (3 : Int32), iv (3 : Int32), rv b_123, iv (3 : Int32)] [(.ref b_123)]))
  obtain ⟨fs130, hr130, hrun130, hended130, hW130, hsame130⟩ := X129.leave (v := some (.ref b_123)) (fun h => by rw [Bd.returns] at h; cases h)
  refine own_done (retOut X129 hx Bd.returns rfl (Or.inr (Or.inr (Or.inr (Or.inr ⟨rfl, rfl, rfl⟩)))) (hb hby d18_33) hr130) hrun130 hended130 ⟨_, _, rfl, ?_, ⟨_, rfl⟩, hW130, hsame130.mono (by decide) (by decide)⟩
  show Qtb_3 Z a1 k c0 c1 c2 h0 n0 _ T129.heap _
  exact ⟨b_123, kb_123, rfl, N129, Kt129, g_b_123, sz_b_123, r129_0⟩
theorem ef_gc_3_0 (m : MethodId) (x0 : Addr) (x1 : Int32) : entryFrame m #[(.ref x0), (.int x1)] 2 = mkF m 0 #[.val (.ref x0), .val (.int x1)] [] := by first | (simp [entryFrame, mkF, argsToLocals, Value.category]; done) | rfl
def Qgc_3_0 (Z : State) (a1 : Addr) (k : ClassId) (c0 : Int32) (c1 : Int32) (c2 : Int32) (h0 : Heap) (n0 : Nat) (v : Option Value) (h : Heap) (L : List Loc) : Prop := v = some (.int c0) ∧ Fr n0 L ∧ h = h0
abbrev Ggc_3_0 (Z : State) (a1 : Addr) (k : ClassId) (c0 : Int32) (c1 : Int32) (c2 : Int32) (h0 : Heap) (n0 : Nat) (s : State) : Outcome → State → Prop := fun o U' => ∃ v L, o = .returned v ∧ Qgc_3_0 Z a1 k c0 c1 c2 h0 n0 v U'.heap L ∧ FrameEnd s o U' L ({ frames := 0, cells := 0, slots := 0, locals := 0 } : Room).cells ({ frames := 0, cells := 0, slots := 0, locals := 0 } : Room).slots
set_option maxRecDepth 65536 in
set_option maxHeartbeats 40000000 in
theorem rmgc_3_0 (l : Launch) (Z : State) (a0 : Array Value) (hw : ∀ d ∈ tables_1, d.before a0 Z = true) (ws : List Jvm.Cond) (a1 : Addr) (k : ClassId) (c0 : Int32) (c1 : Int32) (c2 : Int32) (h0 : Heap) (n0 : Nat) (Z0 : n0 ≤ h0.size) (V_a1 : Arv Z h0 a1 k .byte (6 : Int32) [(.int (own_lb c0)), (.int (own_hb c0)), (.int (own_lb c1)), (.int (own_hb c1)), (.int (own_lb c2)), (.int (own_hb c2))] (.int (0 : Int32))) (hr : own_ch c0) (O0 : Old Z n0 h0) (S__assertionsDisabled : Sta Z Z.heap "java/lang/StringUTF16" "$assertionsDisabled" "Z" (.int (1 : Int32))) (S_HI_BYTE_SHIFT : Sta Z Z.heap "java/lang/StringUTF16" "HI_BYTE_SHIFT" "I" (.int (0 : Int32))) (S_LO_BYTE_SHIFT : Sta Z Z.heap "java/lang/StringUTF16" "LO_BYTE_SHIFT" "I" (.int (8 : Int32))) :
    MetFree l (⟨"java/lang/StringUTF16", "getChar", "([BI)C"⟩ : MethodName) (head1 (Jvm.Cond.code (⟨"java/lang/StringUTF16", "getChar", "([BI)C"⟩ : MethodName) jdk_52_method_5_code 2 (some .char) :: ws) ({ frames := 0, cells := 0, slots := 0, locals := 0 } : Room)) (fun a U => a = #[(.ref a1), (.int (0 : Int32))] ∧ Z.Warmed39 U.vm ∧ U.heap = h0) (fun _ _ _ _ _ => True) (fun _ U o U' => ∃ v L, o = .returned v ∧ Qgc_3_0 Z a1 k c0 c1 c2 h0 n0 v U'.heap L ∧ FrameEnd U o U' L ({ frames := 0, cells := 0, slots := 0, locals := 0 } : Room).cells ({ frames := 0, cells := 0, slots := 0, locals := 0 } : Room).slots) := by
  refine MetFree.of_bodySF (plainFor_of_name pn_java_lang_StringUTF16) hisR ?_
  intro p e s m args below meth c s₁ Bd hml0 hP hK
  obtain ⟨rfl, hZ, hh⟩ := hP
  have hx := Bd.exec
  have hby := Bd.bytes
  have hml : c.maxLocals = 2 := hml0
  have hown : s.vm.findClass "java/lang/StringUTF16" = some m.cls := findClass_of_methodNamed Bd.named
  have hnm := (name_of_methodNamed Bd.named Bd.method).1
  have X0 : Stand p l e ({ frames := 0, cells := 0, slots := 0, locals := 0 } : Room) s m #[(.ref a1), (.int (0 : Int32))] below meth c s₁ [] 0 0 := Stand.of_body Bd
  have e0 : s₁.heap = h0 := by rw [← hh, Bd.state]; rfl
  have es0 : s.heap = h0 := hh
  have N0 := Fr.nil n0
  show own_Fin p e below (Ggc_3_0 Z a1 k c0 c1 c2 h0 n0 s) (s₁.setTop (entryFrame m #[(.ref a1), (.int (0 : Int32))] 2))
  rw [ef_gc_3_0 m a1 (0 : Int32)]
  obtain ⟨T131, X131, e131, st131⟩ := getS2 X0 hx hZ hown (host := "") (Or.inl (hw _ (List.mem_of_getElem? (i := 92) rfl))) Via.refl e0 (S__assertionsDisabled.ext O0.2) (g := (mkF m 0 #[rv a1, iv (0 : Int32)] [])) rfl (hb hby d22_0)
  refine own_by st131 ?_
  show own_Fin _ _ _ _ (T131.setTop (mkF m 3 #[rv a1, iv (0 : Int32)] [(.int (1 : Int32))]))
  refine own_go (XS.ifYes X131.here hx rfl (pc0 := 3) (pc' := 28) rfl (hb hby d22_3) rfl ((if0 _ _).trans (feq (by decide : ¬ ((1 : Int32) = (0 : Int32)))).2) (by decide) (by decide) (Steps.refl _)) ?_
  show own_Fin _ _ _ _ (T131.setTop (mkF m 28 #[rv a1, iv (0 : Int32)] []))
  refine own_go (XS.iloadN X131.here hx rfl (hb hby d22_28) rfl (Steps.refl _)) ?_
  show own_Fin _ _ _ _ (T131.setTop (mkF m 29 #[rv a1, iv (0 : Int32)] [(.int (0 : Int32))]))
  refine own_go (XS.iconst X131.here hx rfl (hb hby d22_29) (Steps.refl _)) ?_
  show own_Fin _ _ _ _ (T131.setTop (mkF m 30 #[rv a1, iv (0 : Int32)] [(.int (1 : Int32)), (.int (0 : Int32))]))
  refine own_go (XS.ishl X131.here hx rfl (hb hby d22_30) rfl (Steps.refl _)) ?_
  show own_Fin _ _ _ _ (T131.setTop (mkF m 31 #[rv a1, iv (0 : Int32)] [(.int (0 : Int32))]))
  refine own_go (XS.istoreN X131.here hx rfl (hb hby d22_31) rfl rfl (Steps.refl _)) ?_
  show own_Fin _ _ _ _ (T131.setTop (mkF m 32 #[rv a1, iv (0 : Int32)] []))
  refine own_go (XS.aloadN X131.here hx rfl (hb hby d22_32) rfl rfl (Steps.refl _)) ?_
  show own_Fin _ _ _ _ (T131.setTop (mkF m 33 #[rv a1, iv (0 : Int32)] [(.ref a1)]))
  refine own_go (XS.iloadN X131.here hx rfl (hb hby d22_33) rfl (Steps.refl _)) ?_
  show own_Fin _ _ _ _ (T131.setTop (mkF m 34 #[rv a1, iv (0 : Int32)] [(.int (0 : Int32)), (.ref a1)]))
  refine own_go (XS.iinc X131.here hx rfl (hb hby d22_34) rfl rfl (Steps.refl _)) ?_
  show own_Fin _ _ _ _ (T131.setTop (mkF m 37 #[rv a1, iv (1 : Int32)] [(.int (0 : Int32)), (.ref a1)]))
  obtain ⟨cl132, Ar132, qa132, Sa132, Na132, Ha132, Ga132⟩ := id V_a1
  have hin132 : ¬ ((0 : Int32) < 0 ∨ cl132.slots.size ≤ ((0 : Int32)).toNatClampNeg) := inb_of Sa132 ⟨by decide, by decide⟩
  have hat132 : cl132.slots[((0 : Int32)).toNatClampNeg]? = some (.int (own_lb c0)) := Has.at Ha132 hin132 rfl
  refine own_by (X131.baloadBytes hx (j := (0 : Int32)) (v := (.int (own_lb c0))) (by rw [e131]; exact Ar132.1) (State.isArrayOf_alike hZ.alike Ar132.2.1) Ar132.2.2 hin132 hat132 (g := (mkF m 37 #[rv a1, iv (1 : Int32)] [(.int (0 : Int32)), (.ref a1)])) rfl rfl (hb hby d22_37)) ?_
  show own_Fin _ _ _ _ (T131.setTop (mkF m 38 #[rv a1, iv (1 : Int32)] [(.int (own_lb c0))]))
  refine own_go (XS.sipush X131.here hx rfl (hb hby d22_38) (Steps.refl _)) ?_
  show own_Fin _ _ _ _ (T131.setTop (mkF m 41 #[rv a1, iv (1 : Int32)] [(.int (255 : Int32)), (.int (own_lb c0))]))
  refine own_go (XS.iand X131.here hx rfl (hb hby d22_41) rfl (Steps.refl _)) ?_
  show own_Fin _ _ _ _ (T131.setTop (mkF m 42 #[rv a1, iv (1 : Int32)] [(.int ((own_lb c0) &&& (255 : Int32)))]))
  obtain ⟨T133, X133, e133, st133⟩ := getS2 X131 hx hZ hown (host := "") (Or.inl (hw _ (List.mem_of_getElem? (i := 93) rfl))) Via.refl e131 (S_HI_BYTE_SHIFT.ext O0.2) (g := (mkF m 42 #[rv a1, iv (1 : Int32)] [(.int ((own_lb c0) &&& (255 : Int32)))])) rfl (hb hby d22_42)
  refine own_by st133 ?_
  show own_Fin _ _ _ _ (T133.setTop (mkF m 45 #[rv a1, iv (1 : Int32)] [(.int (0 : Int32)), (.int ((own_lb c0) &&& (255 : Int32)))]))
  refine own_go (XS.ishl X133.here hx rfl (hb hby d22_45) rfl (Steps.refl _)) ?_
  show own_Fin _ _ _ _ (T133.setTop (mkF m 46 #[rv a1, iv (1 : Int32)] [(.int (((own_lb c0) &&& (255 : Int32)) <<< ((0 : Int32) &&& 31)))]))
  refine own_go (XS.aloadN X133.here hx rfl (hb hby d22_46) rfl rfl (Steps.refl _)) ?_
  show own_Fin _ _ _ _ (T133.setTop (mkF m 47 #[rv a1, iv (1 : Int32)] [(.ref a1), (.int (((own_lb c0) &&& (255 : Int32)) <<< ((0 : Int32) &&& 31)))]))
  refine own_go (XS.iloadN X133.here hx rfl (hb hby d22_47) rfl (Steps.refl _)) ?_
  show own_Fin _ _ _ _ (T133.setTop (mkF m 48 #[rv a1, iv (1 : Int32)] [(.int (1 : Int32)), (.ref a1), (.int (((own_lb c0) &&& (255 : Int32)) <<< ((0 : Int32) &&& 31)))]))
  obtain ⟨cl134, Ar134, qa134, Sa134, Na134, Ha134, Ga134⟩ := id V_a1
  have hin134 : ¬ ((1 : Int32) < 0 ∨ cl134.slots.size ≤ ((1 : Int32)).toNatClampNeg) := inb_of Sa134 ⟨by decide, by decide⟩
  have hat134 : cl134.slots[((1 : Int32)).toNatClampNeg]? = some (.int (own_hb c0)) := Has.at Ha134 hin134 rfl
  refine own_by (X133.baloadBytes hx (j := (1 : Int32)) (v := (.int (own_hb c0))) (by rw [e133]; exact Ar134.1) (State.isArrayOf_alike hZ.alike Ar134.2.1) Ar134.2.2 hin134 hat134 (g := (mkF m 48 #[rv a1, iv (1 : Int32)] [(.int (1 : Int32)), (.ref a1), (.int (((own_lb c0) &&& (255 : Int32)) <<< ((0 : Int32) &&& 31)))])) rfl rfl (hb hby d22_48)) ?_
  show own_Fin _ _ _ _ (T133.setTop (mkF m 49 #[rv a1, iv (1 : Int32)] [(.int (own_hb c0)), (.int (((own_lb c0) &&& (255 : Int32)) <<< ((0 : Int32) &&& 31)))]))
  refine own_go (XS.sipush X133.here hx rfl (hb hby d22_49) (Steps.refl _)) ?_
  show own_Fin _ _ _ _ (T133.setTop (mkF m 52 #[rv a1, iv (1 : Int32)] [(.int (255 : Int32)), (.int (own_hb c0)), (.int (((own_lb c0) &&& (255 : Int32)) <<< ((0 : Int32) &&& 31)))]))
  refine own_go (XS.iand X133.here hx rfl (hb hby d22_52) rfl (Steps.refl _)) ?_
  show own_Fin _ _ _ _ (T133.setTop (mkF m 53 #[rv a1, iv (1 : Int32)] [(.int ((own_hb c0) &&& (255 : Int32))), (.int (((own_lb c0) &&& (255 : Int32)) <<< ((0 : Int32) &&& 31)))]))
  obtain ⟨T135, X135, e135, st135⟩ := getS2 X133 hx hZ hown (host := "") (Or.inl (hw _ (List.mem_of_getElem? (i := 94) rfl))) Via.refl e133 (S_LO_BYTE_SHIFT.ext O0.2) (g := (mkF m 53 #[rv a1, iv (1 : Int32)] [(.int ((own_hb c0) &&& (255 : Int32))), (.int (((own_lb c0) &&& (255 : Int32)) <<< ((0 : Int32) &&& 31)))])) rfl (hb hby d22_53)
  refine own_by st135 ?_
  show own_Fin _ _ _ _ (T135.setTop (mkF m 56 #[rv a1, iv (1 : Int32)] [(.int (8 : Int32)), (.int ((own_hb c0) &&& (255 : Int32))), (.int (((own_lb c0) &&& (255 : Int32)) <<< ((0 : Int32) &&& 31)))]))
  refine own_go (XS.ishl X135.here hx rfl (hb hby d22_56) rfl (Steps.refl _)) ?_
  show own_Fin _ _ _ _ (T135.setTop (mkF m 57 #[rv a1, iv (1 : Int32)] [(.int (((own_hb c0) &&& (255 : Int32)) <<< ((8 : Int32) &&& 31))), (.int (((own_lb c0) &&& (255 : Int32)) <<< ((0 : Int32) &&& 31)))]))
  refine own_go (XS.ior X135.here hx rfl (hb hby d22_57) rfl (Steps.refl _)) ?_
  show own_Fin _ _ _ _ (T135.setTop (mkF m 58 #[rv a1, iv (1 : Int32)] [(.int ((((own_lb c0) &&& (255 : Int32)) <<< ((0 : Int32) &&& 31)) ||| (((own_hb c0) &&& (255 : Int32)) <<< ((8 : Int32) &&& 31))))]))
  refine own_go (XS.i2c X135.here hx rfl (hb hby d22_58) rfl (Steps.refl _)) ?_
  show own_Fin _ _ _ _ (T135.setTop (mkF m 59 #[rv a1, iv (1 : Int32)] [(.int (((((own_lb c0) &&& (255 : Int32)) <<< ((0 : Int32) &&& 31)) ||| (((own_hb c0) &&& (255 : Int32)) <<< ((8 : Int32) &&& 31))).toUInt32.toUInt16.toUInt32.toInt32))]))
  obtain ⟨fs136, hr136, hrun136, hended136, hW136, hsame136⟩ := X135.leave (v := some (.int (nar .char (((((own_lb c0) &&& (255 : Int32)) <<< ((0 : Int32) &&& 31)) ||| (((own_hb c0) &&& (255 : Int32)) <<< ((8 : Int32) &&& 31))).toUInt32.toUInt16.toUInt32.toInt32)))) (fun h => by rw [Bd.returns] at h; cases h)
  refine own_done (retN X135 hx (t := .char) Bd.returns (by simp) (hb hby d22_59) hr136) hrun136 hended136 ⟨_, _, rfl, ?_, ⟨_, rfl⟩, hW136, hsame136.mono (by decide) (by decide)⟩
  show Qgc_3_0 Z a1 k c0 c1 c2 h0 n0 _ T135.heap _
  rw [e135]
  exact ⟨(by rw [own_gc hr]), N0, rfl⟩
theorem ef_gc_3_1 (m : MethodId) (x0 : Addr) (x1 : Int32) : entryFrame m #[(.ref x0), (.int x1)] 2 = mkF m 0 #[.val (.ref x0), .val (.int x1)] [] := by first | (simp [entryFrame, mkF, argsToLocals, Value.category]; done) | rfl
def Qgc_3_1 (Z : State) (a1 : Addr) (k : ClassId) (c0 : Int32) (c1 : Int32) (c2 : Int32) (h0 : Heap) (n0 : Nat) (v : Option Value) (h : Heap) (L : List Loc) : Prop := v = some (.int c1) ∧ Fr n0 L ∧ h = h0
abbrev Ggc_3_1 (Z : State) (a1 : Addr) (k : ClassId) (c0 : Int32) (c1 : Int32) (c2 : Int32) (h0 : Heap) (n0 : Nat) (s : State) : Outcome → State → Prop := fun o U' => ∃ v L, o = .returned v ∧ Qgc_3_1 Z a1 k c0 c1 c2 h0 n0 v U'.heap L ∧ FrameEnd s o U' L ({ frames := 0, cells := 0, slots := 0, locals := 0 } : Room).cells ({ frames := 0, cells := 0, slots := 0, locals := 0 } : Room).slots
set_option maxRecDepth 65536 in
set_option maxHeartbeats 40000000 in
theorem rmgc_3_1 (l : Launch) (Z : State) (a0 : Array Value) (hw : ∀ d ∈ tables_1, d.before a0 Z = true) (ws : List Jvm.Cond) (a1 : Addr) (k : ClassId) (c0 : Int32) (c1 : Int32) (c2 : Int32) (h0 : Heap) (n0 : Nat) (Z0 : n0 ≤ h0.size) (V_a1 : Arv Z h0 a1 k .byte (6 : Int32) [(.int (own_lb c0)), (.int (own_hb c0)), (.int (own_lb c1)), (.int (own_hb c1)), (.int (own_lb c2)), (.int (own_hb c2))] (.int (0 : Int32))) (hr : own_ch c1) (O0 : Old Z n0 h0) (S__assertionsDisabled : Sta Z Z.heap "java/lang/StringUTF16" "$assertionsDisabled" "Z" (.int (1 : Int32))) (S_HI_BYTE_SHIFT : Sta Z Z.heap "java/lang/StringUTF16" "HI_BYTE_SHIFT" "I" (.int (0 : Int32))) (S_LO_BYTE_SHIFT : Sta Z Z.heap "java/lang/StringUTF16" "LO_BYTE_SHIFT" "I" (.int (8 : Int32))) :
    MetFree l (⟨"java/lang/StringUTF16", "getChar", "([BI)C"⟩ : MethodName) (head1 (Jvm.Cond.code (⟨"java/lang/StringUTF16", "getChar", "([BI)C"⟩ : MethodName) jdk_52_method_5_code 2 (some .char) :: ws) ({ frames := 0, cells := 0, slots := 0, locals := 0 } : Room)) (fun a U => a = #[(.ref a1), (.int (1 : Int32))] ∧ Z.Warmed39 U.vm ∧ U.heap = h0) (fun _ _ _ _ _ => True) (fun _ U o U' => ∃ v L, o = .returned v ∧ Qgc_3_1 Z a1 k c0 c1 c2 h0 n0 v U'.heap L ∧ FrameEnd U o U' L ({ frames := 0, cells := 0, slots := 0, locals := 0 } : Room).cells ({ frames := 0, cells := 0, slots := 0, locals := 0 } : Room).slots) := by
  refine MetFree.of_bodySF (plainFor_of_name pn_java_lang_StringUTF16) hisR ?_
  intro p e s m args below meth c s₁ Bd hml0 hP hK
  obtain ⟨rfl, hZ, hh⟩ := hP
  have hx := Bd.exec
  have hby := Bd.bytes
  have hml : c.maxLocals = 2 := hml0
  have hown : s.vm.findClass "java/lang/StringUTF16" = some m.cls := findClass_of_methodNamed Bd.named
  have hnm := (name_of_methodNamed Bd.named Bd.method).1
  have X0 : Stand p l e ({ frames := 0, cells := 0, slots := 0, locals := 0 } : Room) s m #[(.ref a1), (.int (1 : Int32))] below meth c s₁ [] 0 0 := Stand.of_body Bd
  have e0 : s₁.heap = h0 := by rw [← hh, Bd.state]; rfl
  have es0 : s.heap = h0 := hh
  have N0 := Fr.nil n0
  show own_Fin p e below (Ggc_3_1 Z a1 k c0 c1 c2 h0 n0 s) (s₁.setTop (entryFrame m #[(.ref a1), (.int (1 : Int32))] 2))
  rw [ef_gc_3_1 m a1 (1 : Int32)]
  obtain ⟨T137, X137, e137, st137⟩ := getS2 X0 hx hZ hown (host := "") (Or.inl (hw _ (List.mem_of_getElem? (i := 92) rfl))) Via.refl e0 (S__assertionsDisabled.ext O0.2) (g := (mkF m 0 #[rv a1, iv (1 : Int32)] [])) rfl (hb hby d22_0)
  refine own_by st137 ?_
  show own_Fin _ _ _ _ (T137.setTop (mkF m 3 #[rv a1, iv (1 : Int32)] [(.int (1 : Int32))]))
  refine own_go (XS.ifYes X137.here hx rfl (pc0 := 3) (pc' := 28) rfl (hb hby d22_3) rfl ((if0 _ _).trans (feq (by decide : ¬ ((1 : Int32) = (0 : Int32)))).2) (by decide) (by decide) (Steps.refl _)) ?_
  show own_Fin _ _ _ _ (T137.setTop (mkF m 28 #[rv a1, iv (1 : Int32)] []))
  refine own_go (XS.iloadN X137.here hx rfl (hb hby d22_28) rfl (Steps.refl _)) ?_
  show own_Fin _ _ _ _ (T137.setTop (mkF m 29 #[rv a1, iv (1 : Int32)] [(.int (1 : Int32))]))
  refine own_go (XS.iconst X137.here hx rfl (hb hby d22_29) (Steps.refl _)) ?_
  show own_Fin _ _ _ _ (T137.setTop (mkF m 30 #[rv a1, iv (1 : Int32)] [(.int (1 : Int32)), (.int (1 : Int32))]))
  refine own_go (XS.ishl X137.here hx rfl (hb hby d22_30) rfl (Steps.refl _)) ?_
  show own_Fin _ _ _ _ (T137.setTop (mkF m 31 #[rv a1, iv (1 : Int32)] [(.int (2 : Int32))]))
  refine own_go (XS.istoreN X137.here hx rfl (hb hby d22_31) rfl rfl (Steps.refl _)) ?_
  show own_Fin _ _ _ _ (T137.setTop (mkF m 32 #[rv a1, iv (2 : Int32)] []))
  refine own_go (XS.aloadN X137.here hx rfl (hb hby d22_32) rfl rfl (Steps.refl _)) ?_
  show own_Fin _ _ _ _ (T137.setTop (mkF m 33 #[rv a1, iv (2 : Int32)] [(.ref a1)]))
  refine own_go (XS.iloadN X137.here hx rfl (hb hby d22_33) rfl (Steps.refl _)) ?_
  show own_Fin _ _ _ _ (T137.setTop (mkF m 34 #[rv a1, iv (2 : Int32)] [(.int (2 : Int32)), (.ref a1)]))
  refine own_go (XS.iinc X137.here hx rfl (hb hby d22_34) rfl rfl (Steps.refl _)) ?_
  show own_Fin _ _ _ _ (T137.setTop (mkF m 37 #[rv a1, iv (3 : Int32)] [(.int (2 : Int32)), (.ref a1)]))
  obtain ⟨cl138, Ar138, qa138, Sa138, Na138, Ha138, Ga138⟩ := id V_a1
  have hin138 : ¬ ((2 : Int32) < 0 ∨ cl138.slots.size ≤ ((2 : Int32)).toNatClampNeg) := inb_of Sa138 ⟨by decide, by decide⟩
  have hat138 : cl138.slots[((2 : Int32)).toNatClampNeg]? = some (.int (own_lb c1)) := Has.at Ha138 hin138 rfl
  refine own_by (X137.baloadBytes hx (j := (2 : Int32)) (v := (.int (own_lb c1))) (by rw [e137]; exact Ar138.1) (State.isArrayOf_alike hZ.alike Ar138.2.1) Ar138.2.2 hin138 hat138 (g := (mkF m 37 #[rv a1, iv (3 : Int32)] [(.int (2 : Int32)), (.ref a1)])) rfl rfl (hb hby d22_37)) ?_
  show own_Fin _ _ _ _ (T137.setTop (mkF m 38 #[rv a1, iv (3 : Int32)] [(.int (own_lb c1))]))
  refine own_go (XS.sipush X137.here hx rfl (hb hby d22_38) (Steps.refl _)) ?_
  show own_Fin _ _ _ _ (T137.setTop (mkF m 41 #[rv a1, iv (3 : Int32)] [(.int (255 : Int32)), (.int (own_lb c1))]))
  refine own_go (XS.iand X137.here hx rfl (hb hby d22_41) rfl (Steps.refl _)) ?_
  show own_Fin _ _ _ _ (T137.setTop (mkF m 42 #[rv a1, iv (3 : Int32)] [(.int ((own_lb c1) &&& (255 : Int32)))]))
  obtain ⟨T139, X139, e139, st139⟩ := getS2 X137 hx hZ hown (host := "") (Or.inl (hw _ (List.mem_of_getElem? (i := 93) rfl))) Via.refl e137 (S_HI_BYTE_SHIFT.ext O0.2) (g := (mkF m 42 #[rv a1, iv (3 : Int32)] [(.int ((own_lb c1) &&& (255 : Int32)))])) rfl (hb hby d22_42)
  refine own_by st139 ?_
  show own_Fin _ _ _ _ (T139.setTop (mkF m 45 #[rv a1, iv (3 : Int32)] [(.int (0 : Int32)), (.int ((own_lb c1) &&& (255 : Int32)))]))
  refine own_go (XS.ishl X139.here hx rfl (hb hby d22_45) rfl (Steps.refl _)) ?_
  show own_Fin _ _ _ _ (T139.setTop (mkF m 46 #[rv a1, iv (3 : Int32)] [(.int (((own_lb c1) &&& (255 : Int32)) <<< ((0 : Int32) &&& 31)))]))
  refine own_go (XS.aloadN X139.here hx rfl (hb hby d22_46) rfl rfl (Steps.refl _)) ?_
  show own_Fin _ _ _ _ (T139.setTop (mkF m 47 #[rv a1, iv (3 : Int32)] [(.ref a1), (.int (((own_lb c1) &&& (255 : Int32)) <<< ((0 : Int32) &&& 31)))]))
  refine own_go (XS.iloadN X139.here hx rfl (hb hby d22_47) rfl (Steps.refl _)) ?_
  show own_Fin _ _ _ _ (T139.setTop (mkF m 48 #[rv a1, iv (3 : Int32)] [(.int (3 : Int32)), (.ref a1), (.int (((own_lb c1) &&& (255 : Int32)) <<< ((0 : Int32) &&& 31)))]))
  obtain ⟨cl140, Ar140, qa140, Sa140, Na140, Ha140, Ga140⟩ := id V_a1
  have hin140 : ¬ ((3 : Int32) < 0 ∨ cl140.slots.size ≤ ((3 : Int32)).toNatClampNeg) := inb_of Sa140 ⟨by decide, by decide⟩
  have hat140 : cl140.slots[((3 : Int32)).toNatClampNeg]? = some (.int (own_hb c1)) := Has.at Ha140 hin140 rfl
  refine own_by (X139.baloadBytes hx (j := (3 : Int32)) (v := (.int (own_hb c1))) (by rw [e139]; exact Ar140.1) (State.isArrayOf_alike hZ.alike Ar140.2.1) Ar140.2.2 hin140 hat140 (g := (mkF m 48 #[rv a1, iv (3 : Int32)] [(.int (3 : Int32)), (.ref a1), (.int (((own_lb c1) &&& (255 : Int32)) <<< ((0 : Int32) &&& 31)))])) rfl rfl (hb hby d22_48)) ?_
  show own_Fin _ _ _ _ (T139.setTop (mkF m 49 #[rv a1, iv (3 : Int32)] [(.int (own_hb c1)), (.int (((own_lb c1) &&& (255 : Int32)) <<< ((0 : Int32) &&& 31)))]))
  refine own_go (XS.sipush X139.here hx rfl (hb hby d22_49) (Steps.refl _)) ?_
  show own_Fin _ _ _ _ (T139.setTop (mkF m 52 #[rv a1, iv (3 : Int32)] [(.int (255 : Int32)), (.int (own_hb c1)), (.int (((own_lb c1) &&& (255 : Int32)) <<< ((0 : Int32) &&& 31)))]))
  refine own_go (XS.iand X139.here hx rfl (hb hby d22_52) rfl (Steps.refl _)) ?_
  show own_Fin _ _ _ _ (T139.setTop (mkF m 53 #[rv a1, iv (3 : Int32)] [(.int ((own_hb c1) &&& (255 : Int32))), (.int (((own_lb c1) &&& (255 : Int32)) <<< ((0 : Int32) &&& 31)))]))
  obtain ⟨T141, X141, e141, st141⟩ := getS2 X139 hx hZ hown (host := "") (Or.inl (hw _ (List.mem_of_getElem? (i := 94) rfl))) Via.refl e139 (S_LO_BYTE_SHIFT.ext O0.2) (g := (mkF m 53 #[rv a1, iv (3 : Int32)] [(.int ((own_hb c1) &&& (255 : Int32))), (.int (((own_lb c1) &&& (255 : Int32)) <<< ((0 : Int32) &&& 31)))])) rfl (hb hby d22_53)
  refine own_by st141 ?_
  show own_Fin _ _ _ _ (T141.setTop (mkF m 56 #[rv a1, iv (3 : Int32)] [(.int (8 : Int32)), (.int ((own_hb c1) &&& (255 : Int32))), (.int (((own_lb c1) &&& (255 : Int32)) <<< ((0 : Int32) &&& 31)))]))
  refine own_go (XS.ishl X141.here hx rfl (hb hby d22_56) rfl (Steps.refl _)) ?_
  show own_Fin _ _ _ _ (T141.setTop (mkF m 57 #[rv a1, iv (3 : Int32)] [(.int (((own_hb c1) &&& (255 : Int32)) <<< ((8 : Int32) &&& 31))), (.int (((own_lb c1) &&& (255 : Int32)) <<< ((0 : Int32) &&& 31)))]))
  refine own_go (XS.ior X141.here hx rfl (hb hby d22_57) rfl (Steps.refl _)) ?_
  show own_Fin _ _ _ _ (T141.setTop (mkF m 58 #[rv a1, iv (3 : Int32)] [(.int ((((own_lb c1) &&& (255 : Int32)) <<< ((0 : Int32) &&& 31)) ||| (((own_hb c1) &&& (255 : Int32)) <<< ((8 : Int32) &&& 31))))]))
  refine own_go (XS.i2c X141.here hx rfl (hb hby d22_58) rfl (Steps.refl _)) ?_
  show own_Fin _ _ _ _ (T141.setTop (mkF m 59 #[rv a1, iv (3 : Int32)] [(.int (((((own_lb c1) &&& (255 : Int32)) <<< ((0 : Int32) &&& 31)) ||| (((own_hb c1) &&& (255 : Int32)) <<< ((8 : Int32) &&& 31))).toUInt32.toUInt16.toUInt32.toInt32))]))
  obtain ⟨fs142, hr142, hrun142, hended142, hW142, hsame142⟩ := X141.leave (v := some (.int (nar .char (((((own_lb c1) &&& (255 : Int32)) <<< ((0 : Int32) &&& 31)) ||| (((own_hb c1) &&& (255 : Int32)) <<< ((8 : Int32) &&& 31))).toUInt32.toUInt16.toUInt32.toInt32)))) (fun h => by rw [Bd.returns] at h; cases h)
  refine own_done (retN X141 hx (t := .char) Bd.returns (by simp) (hb hby d22_59) hr142) hrun142 hended142 ⟨_, _, rfl, ?_, ⟨_, rfl⟩, hW142, hsame142.mono (by decide) (by decide)⟩
  show Qgc_3_1 Z a1 k c0 c1 c2 h0 n0 _ T141.heap _
  rw [e141]
  exact ⟨(by rw [own_gc hr]), N0, rfl⟩
theorem ef_gc_3_2 (m : MethodId) (x0 : Addr) (x1 : Int32) : entryFrame m #[(.ref x0), (.int x1)] 2 = mkF m 0 #[.val (.ref x0), .val (.int x1)] [] := by first | (simp [entryFrame, mkF, argsToLocals, Value.category]; done) | rfl
def Qgc_3_2 (Z : State) (a1 : Addr) (k : ClassId) (c0 : Int32) (c1 : Int32) (c2 : Int32) (h0 : Heap) (n0 : Nat) (v : Option Value) (h : Heap) (L : List Loc) : Prop := v = some (.int c2) ∧ Fr n0 L ∧ h = h0
abbrev Ggc_3_2 (Z : State) (a1 : Addr) (k : ClassId) (c0 : Int32) (c1 : Int32) (c2 : Int32) (h0 : Heap) (n0 : Nat) (s : State) : Outcome → State → Prop := fun o U' => ∃ v L, o = .returned v ∧ Qgc_3_2 Z a1 k c0 c1 c2 h0 n0 v U'.heap L ∧ FrameEnd s o U' L ({ frames := 0, cells := 0, slots := 0, locals := 0 } : Room).cells ({ frames := 0, cells := 0, slots := 0, locals := 0 } : Room).slots
set_option maxRecDepth 65536 in
set_option maxHeartbeats 40000000 in
theorem rmgc_3_2 (l : Launch) (Z : State) (a0 : Array Value) (hw : ∀ d ∈ tables_1, d.before a0 Z = true) (ws : List Jvm.Cond) (a1 : Addr) (k : ClassId) (c0 : Int32) (c1 : Int32) (c2 : Int32) (h0 : Heap) (n0 : Nat) (Z0 : n0 ≤ h0.size) (V_a1 : Arv Z h0 a1 k .byte (6 : Int32) [(.int (own_lb c0)), (.int (own_hb c0)), (.int (own_lb c1)), (.int (own_hb c1)), (.int (own_lb c2)), (.int (own_hb c2))] (.int (0 : Int32))) (hr : own_ch c2) (O0 : Old Z n0 h0) (S__assertionsDisabled : Sta Z Z.heap "java/lang/StringUTF16" "$assertionsDisabled" "Z" (.int (1 : Int32))) (S_HI_BYTE_SHIFT : Sta Z Z.heap "java/lang/StringUTF16" "HI_BYTE_SHIFT" "I" (.int (0 : Int32))) (S_LO_BYTE_SHIFT : Sta Z Z.heap "java/lang/StringUTF16" "LO_BYTE_SHIFT" "I" (.int (8 : Int32))) :
    MetFree l (⟨"java/lang/StringUTF16", "getChar", "([BI)C"⟩ : MethodName) (head1 (Jvm.Cond.code (⟨"java/lang/StringUTF16", "getChar", "([BI)C"⟩ : MethodName) jdk_52_method_5_code 2 (some .char) :: ws) ({ frames := 0, cells := 0, slots := 0, locals := 0 } : Room)) (fun a U => a = #[(.ref a1), (.int (2 : Int32))] ∧ Z.Warmed39 U.vm ∧ U.heap = h0) (fun _ _ _ _ _ => True) (fun _ U o U' => ∃ v L, o = .returned v ∧ Qgc_3_2 Z a1 k c0 c1 c2 h0 n0 v U'.heap L ∧ FrameEnd U o U' L ({ frames := 0, cells := 0, slots := 0, locals := 0 } : Room).cells ({ frames := 0, cells := 0, slots := 0, locals := 0 } : Room).slots) := by
  refine MetFree.of_bodySF (plainFor_of_name pn_java_lang_StringUTF16) hisR ?_
  intro p e s m args below meth c s₁ Bd hml0 hP hK
  obtain ⟨rfl, hZ, hh⟩ := hP
  have hx := Bd.exec
  have hby := Bd.bytes
  have hml : c.maxLocals = 2 := hml0
  have hown : s.vm.findClass "java/lang/StringUTF16" = some m.cls := findClass_of_methodNamed Bd.named
  have hnm := (name_of_methodNamed Bd.named Bd.method).1
  have X0 : Stand p l e ({ frames := 0, cells := 0, slots := 0, locals := 0 } : Room) s m #[(.ref a1), (.int (2 : Int32))] below meth c s₁ [] 0 0 := Stand.of_body Bd
  have e0 : s₁.heap = h0 := by rw [← hh, Bd.state]; rfl
  have es0 : s.heap = h0 := hh
  have N0 := Fr.nil n0
  show own_Fin p e below (Ggc_3_2 Z a1 k c0 c1 c2 h0 n0 s) (s₁.setTop (entryFrame m #[(.ref a1), (.int (2 : Int32))] 2))
  rw [ef_gc_3_2 m a1 (2 : Int32)]
  obtain ⟨T143, X143, e143, st143⟩ := getS2 X0 hx hZ hown (host := "") (Or.inl (hw _ (List.mem_of_getElem? (i := 92) rfl))) Via.refl e0 (S__assertionsDisabled.ext O0.2) (g := (mkF m 0 #[rv a1, iv (2 : Int32)] [])) rfl (hb hby d22_0)
  refine own_by st143 ?_
  show own_Fin _ _ _ _ (T143.setTop (mkF m 3 #[rv a1, iv (2 : Int32)] [(.int (1 : Int32))]))
  refine own_go (XS.ifYes X143.here hx rfl (pc0 := 3) (pc' := 28) rfl (hb hby d22_3) rfl ((if0 _ _).trans (feq (by decide : ¬ ((1 : Int32) = (0 : Int32)))).2) (by decide) (by decide) (Steps.refl _)) ?_
  show own_Fin _ _ _ _ (T143.setTop (mkF m 28 #[rv a1, iv (2 : Int32)] []))
  refine own_go (XS.iloadN X143.here hx rfl (hb hby d22_28) rfl (Steps.refl _)) ?_
  show own_Fin _ _ _ _ (T143.setTop (mkF m 29 #[rv a1, iv (2 : Int32)] [(.int (2 : Int32))]))
  refine own_go (XS.iconst X143.here hx rfl (hb hby d22_29) (Steps.refl _)) ?_
  show own_Fin _ _ _ _ (T143.setTop (mkF m 30 #[rv a1, iv (2 : Int32)] [(.int (1 : Int32)), (.int (2 : Int32))]))
  refine own_go (XS.ishl X143.here hx rfl (hb hby d22_30) rfl (Steps.refl _)) ?_
  show own_Fin _ _ _ _ (T143.setTop (mkF m 31 #[rv a1, iv (2 : Int32)] [(.int (4 : Int32))]))
  refine own_go (XS.istoreN X143.here hx rfl (hb hby d22_31) rfl rfl (Steps.refl _)) ?_
  show own_Fin _ _ _ _ (T143.setTop (mkF m 32 #[rv a1, iv (4 : Int32)] []))
  refine own_go (XS.aloadN X143.here hx rfl (hb hby d22_32) rfl rfl (Steps.refl _)) ?_
  show own_Fin _ _ _ _ (T143.setTop (mkF m 33 #[rv a1, iv (4 : Int32)] [(.ref a1)]))
  refine own_go (XS.iloadN X143.here hx rfl (hb hby d22_33) rfl (Steps.refl _)) ?_
  show own_Fin _ _ _ _ (T143.setTop (mkF m 34 #[rv a1, iv (4 : Int32)] [(.int (4 : Int32)), (.ref a1)]))
  refine own_go (XS.iinc X143.here hx rfl (hb hby d22_34) rfl rfl (Steps.refl _)) ?_
  show own_Fin _ _ _ _ (T143.setTop (mkF m 37 #[rv a1, iv (5 : Int32)] [(.int (4 : Int32)), (.ref a1)]))
  obtain ⟨cl144, Ar144, qa144, Sa144, Na144, Ha144, Ga144⟩ := id V_a1
  have hin144 : ¬ ((4 : Int32) < 0 ∨ cl144.slots.size ≤ ((4 : Int32)).toNatClampNeg) := inb_of Sa144 ⟨by decide, by decide⟩
  have hat144 : cl144.slots[((4 : Int32)).toNatClampNeg]? = some (.int (own_lb c2)) := Has.at Ha144 hin144 rfl
  refine own_by (X143.baloadBytes hx (j := (4 : Int32)) (v := (.int (own_lb c2))) (by rw [e143]; exact Ar144.1) (State.isArrayOf_alike hZ.alike Ar144.2.1) Ar144.2.2 hin144 hat144 (g := (mkF m 37 #[rv a1, iv (5 : Int32)] [(.int (4 : Int32)), (.ref a1)])) rfl rfl (hb hby d22_37)) ?_
  show own_Fin _ _ _ _ (T143.setTop (mkF m 38 #[rv a1, iv (5 : Int32)] [(.int (own_lb c2))]))
  refine own_go (XS.sipush X143.here hx rfl (hb hby d22_38) (Steps.refl _)) ?_
  show own_Fin _ _ _ _ (T143.setTop (mkF m 41 #[rv a1, iv (5 : Int32)] [(.int (255 : Int32)), (.int (own_lb c2))]))
  refine own_go (XS.iand X143.here hx rfl (hb hby d22_41) rfl (Steps.refl _)) ?_
  show own_Fin _ _ _ _ (T143.setTop (mkF m 42 #[rv a1, iv (5 : Int32)] [(.int ((own_lb c2) &&& (255 : Int32)))]))
  obtain ⟨T145, X145, e145, st145⟩ := getS2 X143 hx hZ hown (host := "") (Or.inl (hw _ (List.mem_of_getElem? (i := 93) rfl))) Via.refl e143 (S_HI_BYTE_SHIFT.ext O0.2) (g := (mkF m 42 #[rv a1, iv (5 : Int32)] [(.int ((own_lb c2) &&& (255 : Int32)))])) rfl (hb hby d22_42)
  refine own_by st145 ?_
  show own_Fin _ _ _ _ (T145.setTop (mkF m 45 #[rv a1, iv (5 : Int32)] [(.int (0 : Int32)), (.int ((own_lb c2) &&& (255 : Int32)))]))
  refine own_go (XS.ishl X145.here hx rfl (hb hby d22_45) rfl (Steps.refl _)) ?_
  show own_Fin _ _ _ _ (T145.setTop (mkF m 46 #[rv a1, iv (5 : Int32)] [(.int (((own_lb c2) &&& (255 : Int32)) <<< ((0 : Int32) &&& 31)))]))
  refine own_go (XS.aloadN X145.here hx rfl (hb hby d22_46) rfl rfl (Steps.refl _)) ?_
  show own_Fin _ _ _ _ (T145.setTop (mkF m 47 #[rv a1, iv (5 : Int32)] [(.ref a1), (.int (((own_lb c2) &&& (255 : Int32)) <<< ((0 : Int32) &&& 31)))]))
  refine own_go (XS.iloadN X145.here hx rfl (hb hby d22_47) rfl (Steps.refl _)) ?_
  show own_Fin _ _ _ _ (T145.setTop (mkF m 48 #[rv a1, iv (5 : Int32)] [(.int (5 : Int32)), (.ref a1), (.int (((own_lb c2) &&& (255 : Int32)) <<< ((0 : Int32) &&& 31)))]))
  obtain ⟨cl146, Ar146, qa146, Sa146, Na146, Ha146, Ga146⟩ := id V_a1
  have hin146 : ¬ ((5 : Int32) < 0 ∨ cl146.slots.size ≤ ((5 : Int32)).toNatClampNeg) := inb_of Sa146 ⟨by decide, by decide⟩
  have hat146 : cl146.slots[((5 : Int32)).toNatClampNeg]? = some (.int (own_hb c2)) := Has.at Ha146 hin146 rfl
  refine own_by (X145.baloadBytes hx (j := (5 : Int32)) (v := (.int (own_hb c2))) (by rw [e145]; exact Ar146.1) (State.isArrayOf_alike hZ.alike Ar146.2.1) Ar146.2.2 hin146 hat146 (g := (mkF m 48 #[rv a1, iv (5 : Int32)] [(.int (5 : Int32)), (.ref a1), (.int (((own_lb c2) &&& (255 : Int32)) <<< ((0 : Int32) &&& 31)))])) rfl rfl (hb hby d22_48)) ?_
  show own_Fin _ _ _ _ (T145.setTop (mkF m 49 #[rv a1, iv (5 : Int32)] [(.int (own_hb c2)), (.int (((own_lb c2) &&& (255 : Int32)) <<< ((0 : Int32) &&& 31)))]))
  refine own_go (XS.sipush X145.here hx rfl (hb hby d22_49) (Steps.refl _)) ?_
  show own_Fin _ _ _ _ (T145.setTop (mkF m 52 #[rv a1, iv (5 : Int32)] [(.int (255 : Int32)), (.int (own_hb c2)), (.int (((own_lb c2) &&& (255 : Int32)) <<< ((0 : Int32) &&& 31)))]))
  refine own_go (XS.iand X145.here hx rfl (hb hby d22_52) rfl (Steps.refl _)) ?_
  show own_Fin _ _ _ _ (T145.setTop (mkF m 53 #[rv a1, iv (5 : Int32)] [(.int ((own_hb c2) &&& (255 : Int32))), (.int (((own_lb c2) &&& (255 : Int32)) <<< ((0 : Int32) &&& 31)))]))
  obtain ⟨T147, X147, e147, st147⟩ := getS2 X145 hx hZ hown (host := "") (Or.inl (hw _ (List.mem_of_getElem? (i := 94) rfl))) Via.refl e145 (S_LO_BYTE_SHIFT.ext O0.2) (g := (mkF m 53 #[rv a1, iv (5 : Int32)] [(.int ((own_hb c2) &&& (255 : Int32))), (.int (((own_lb c2) &&& (255 : Int32)) <<< ((0 : Int32) &&& 31)))])) rfl (hb hby d22_53)
  refine own_by st147 ?_
  show own_Fin _ _ _ _ (T147.setTop (mkF m 56 #[rv a1, iv (5 : Int32)] [(.int (8 : Int32)), (.int ((own_hb c2) &&& (255 : Int32))), (.int (((own_lb c2) &&& (255 : Int32)) <<< ((0 : Int32) &&& 31)))]))
  refine own_go (XS.ishl X147.here hx rfl (hb hby d22_56) rfl (Steps.refl _)) ?_
  show own_Fin _ _ _ _ (T147.setTop (mkF m 57 #[rv a1, iv (5 : Int32)] [(.int (((own_hb c2) &&& (255 : Int32)) <<< ((8 : Int32) &&& 31))), (.int (((own_lb c2) &&& (255 : Int32)) <<< ((0 : Int32) &&& 31)))]))
  refine own_go (XS.ior X147.here hx rfl (hb hby d22_57) rfl (Steps.refl _)) ?_
  show own_Fin _ _ _ _ (T147.setTop (mkF m 58 #[rv a1, iv (5 : Int32)] [(.int ((((own_lb c2) &&& (255 : Int32)) <<< ((0 : Int32) &&& 31)) ||| (((own_hb c2) &&& (255 : Int32)) <<< ((8 : Int32) &&& 31))))]))
  refine own_go (XS.i2c X147.here hx rfl (hb hby d22_58) rfl (Steps.refl _)) ?_
  show own_Fin _ _ _ _ (T147.setTop (mkF m 59 #[rv a1, iv (5 : Int32)] [(.int (((((own_lb c2) &&& (255 : Int32)) <<< ((0 : Int32) &&& 31)) ||| (((own_hb c2) &&& (255 : Int32)) <<< ((8 : Int32) &&& 31))).toUInt32.toUInt16.toUInt32.toInt32))]))
  obtain ⟨fs148, hr148, hrun148, hended148, hW148, hsame148⟩ := X147.leave (v := some (.int (nar .char (((((own_lb c2) &&& (255 : Int32)) <<< ((0 : Int32) &&& 31)) ||| (((own_hb c2) &&& (255 : Int32)) <<< ((8 : Int32) &&& 31))).toUInt32.toUInt16.toUInt32.toInt32)))) (fun h => by rw [Bd.returns] at h; cases h)
  refine own_done (retN X147 hx (t := .char) Bd.returns (by simp) (hb hby d22_59) hr148) hrun148 hended148 ⟨_, _, rfl, ?_, ⟨_, rfl⟩, hW148, hsame148.mono (by decide) (by decide)⟩
  show Qgc_3_2 Z a1 k c0 c1 c2 h0 n0 _ T147.heap _
  rw [e147]
  exact ⟨(by rw [own_gc hr]), N0, rfl⟩
theorem ef_cfu_3 (m : MethodId) (x0 : Addr) (x1 : Int32) : entryFrame m #[(.ref x0), (.int x1)] 2 = mkF m 0 #[.val (.ref x0), .val (.int x1)] [] := by first | (simp [entryFrame, mkF, argsToLocals, Value.category]; done) | rfl
def Qcfu_3 (Z : State) (a1 : Addr) (k : ClassId) (c0 : Int32) (c1 : Int32) (c2 : Int32) (h0 : Heap) (n0 : Nat) (v : Option Value) (h : Heap) (L : List Loc) : Prop := v = some (.int (1 : Int32)) ∧ Fr n0 L ∧ h = h0
abbrev Gcfu_3 (Z : State) (a1 : Addr) (k : ClassId) (c0 : Int32) (c1 : Int32) (c2 : Int32) (h0 : Heap) (n0 : Nat) (s : State) : Outcome → State → Prop := fun o U' => ∃ v L, o = .returned v ∧ Qcfu_3 Z a1 k c0 c1 c2 h0 n0 v U'.heap L ∧ FrameEnd s o U' L ({ frames := 0, cells := 0, slots := 0, locals := 0 } : Room).cells ({ frames := 0, cells := 0, slots := 0, locals := 0 } : Room).slots
set_option maxRecDepth 65536 in
set_option maxHeartbeats 40000000 in
theorem rmcfu_3 (l : Launch) (Z : State) (a0 : Array Value) (hw : ∀ d ∈ tables_1, d.before a0 Z = true) (ws : List Jvm.Cond) (a1 : Addr) (k : ClassId) (c0 : Int32) (c1 : Int32) (c2 : Int32) (h0 : Heap) (n0 : Nat) (Z0 : n0 ≤ h0.size) (V_a1 : Arv Z h0 a1 k .byte (6 : Int32) [(.int (own_lb c0)), (.int (own_hb c0)), (.int (own_lb c1)), (.int (own_hb c1)), (.int (own_lb c2)), (.int (own_hb c2))] (.int (0 : Int32))) :
    MetFree l (⟨"java/lang/StringUTF16", "coderFromArrayLen", "([BI)B"⟩ : MethodName) (head1 (Jvm.Cond.code (⟨"java/lang/StringUTF16", "coderFromArrayLen", "([BI)B"⟩ : MethodName) jdk_52_method_15_code 2 (some .byte) :: ws) ({ frames := 0, cells := 0, slots := 0, locals := 0 } : Room)) (fun a U => a = #[(.ref a1), (.int (3 : Int32))] ∧ Z.Warmed39 U.vm ∧ U.heap = h0) (fun _ _ _ _ _ => True) (fun _ U o U' => ∃ v L, o = .returned v ∧ Qcfu_3 Z a1 k c0 c1 c2 h0 n0 v U'.heap L ∧ FrameEnd U o U' L ({ frames := 0, cells := 0, slots := 0, locals := 0 } : Room).cells ({ frames := 0, cells := 0, slots := 0, locals := 0 } : Room).slots) := by
  refine MetFree.of_bodySF (plainFor_of_name pn_java_lang_StringUTF16) hisR ?_
  intro p e s m args below meth c s₁ Bd hml0 hP hK
  obtain ⟨rfl, hZ, hh⟩ := hP
  have hx := Bd.exec
  have hby := Bd.bytes
  have hml : c.maxLocals = 2 := hml0
  have hown : s.vm.findClass "java/lang/StringUTF16" = some m.cls := findClass_of_methodNamed Bd.named
  have hnm := (name_of_methodNamed Bd.named Bd.method).1
  have X0 : Stand p l e ({ frames := 0, cells := 0, slots := 0, locals := 0 } : Room) s m #[(.ref a1), (.int (3 : Int32))] below meth c s₁ [] 0 0 := Stand.of_body Bd
  have e0 : s₁.heap = h0 := by rw [← hh, Bd.state]; rfl
  have es0 : s.heap = h0 := hh
  have N0 := Fr.nil n0
  show own_Fin p e below (Gcfu_3 Z a1 k c0 c1 c2 h0 n0 s) (s₁.setTop (entryFrame m #[(.ref a1), (.int (3 : Int32))] 2))
  rw [ef_cfu_3 m a1 (3 : Int32)]
  refine own_go (XS.iloadN X0.here hx rfl (hb hby d7_0) rfl (Steps.refl _)) ?_
  show own_Fin _ _ _ _ (s₁.setTop (mkF m 1 #[rv a1, iv (3 : Int32)] [(.int (3 : Int32))]))
  refine own_go (XS.aloadN X0.here hx rfl (hb hby d7_1) rfl rfl (Steps.refl _)) ?_
  show own_Fin _ _ _ _ (s₁.setTop (mkF m 2 #[rv a1, iv (3 : Int32)] [(.ref a1), (.int (3 : Int32))]))
  obtain ⟨cl149, Ar149, qa149, Sa149, Na149, Ha149, Ga149⟩ := id V_a1
  refine own_by (X0.arraylength hx (by rw [e0]; exact Ar149.1) (State.isArrayOf_alike hZ.alike Ar149.2.1) (g := (mkF m 2 #[rv a1, iv (3 : Int32)] [(.ref a1), (.int (3 : Int32))])) rfl rfl (hb hby d7_2)) ?_
  rw [len_of Sa149 Na149]
  show own_Fin _ _ _ _ (s₁.setTop (mkF m 3 #[rv a1, iv (3 : Int32)] [(.int (6 : Int32)), (.int (3 : Int32))]))
  refine own_go (XS.isub X0.here hx rfl (hb hby d7_3) rfl (Steps.refl _)) ?_
  show own_Fin _ _ _ _ (s₁.setTop (mkF m 4 #[rv a1, iv (3 : Int32)] [(.int (-3 : Int32))]))
  refine own_go (XS.bipush X0.here hx rfl (hb hby d7_4) (Steps.refl _)) ?_
  show own_Fin _ _ _ _ (s₁.setTop (mkF m 6 #[rv a1, iv (3 : Int32)] [(.int (31 : Int32)), (.int (-3 : Int32))]))
  refine own_go (XS.iushr X0.here hx rfl (hb hby d7_6) rfl (Steps.refl _)) ?_
  show own_Fin _ _ _ _ (s₁.setTop (mkF m 7 #[rv a1, iv (3 : Int32)] [(.int (1 : Int32))]))
  refine own_go (XS.i2b X0.here hx rfl (hb hby d7_7) rfl (Steps.refl _)) ?_
  show own_Fin _ _ _ _ (s₁.setTop (mkF m 8 #[rv a1, iv (3 : Int32)] [(.int ((1 : Int32).toInt8.toInt32))]))
  obtain ⟨fs150, hr150, hrun150, hended150, hW150, hsame150⟩ := X0.leave (v := some (.int (nar .byte ((1 : Int32).toInt8.toInt32)))) (fun h => by rw [Bd.returns] at h; cases h)
  refine own_done (retN X0 hx (t := .byte) Bd.returns (by simp) (hb hby d7_8) hr150) hrun150 hended150 ⟨_, _, rfl, ?_, ⟨_, rfl⟩, hW150, hsame150.mono (by decide) (by decide)⟩
  show Qcfu_3 Z a1 k c0 c1 c2 h0 n0 _ s₁.heap _
  rw [e0]
  exact ⟨(by decide), N0, rfl⟩
theorem ef_cmu_3_0 (m : MethodId) (x0 : Addr) (x1 : Int32) (x2 : Addr) (x3 : Int32) (x4 : Int32) : entryFrame m #[(.ref x0), (.int x1), (.ref x2), (.int x3), (.int x4)] 7 = mkF m 0 #[.val (.ref x0), .val (.int x1), .val (.ref x2), .val (.int x3), .val (.int x4), .unset, .unset] [] := by first | (simp [entryFrame, mkF, argsToLocals, Value.category]; done) | rfl
def Qcmu_3_0 (Z : State) (a1 : Addr) (k : ClassId) (a3 : Addr) (kb : ClassId) (c0 : Int32) (c1 : Int32) (c2 : Int32) (h0 : Heap) (n0 : Nat) (v : Option Value) (h : Heap) (L : List Loc) : Prop := v = some (.int (0 : Int32)) ∧ Fr n0 L ∧ Keep h0 h [a3]
abbrev Gcmu_3_0 (Z : State) (a1 : Addr) (k : ClassId) (a3 : Addr) (kb : ClassId) (c0 : Int32) (c1 : Int32) (c2 : Int32) (h0 : Heap) (n0 : Nat) (s : State) : Outcome → State → Prop := fun o U' => ∃ v L, o = .returned v ∧ Qcmu_3_0 Z a1 k a3 kb c0 c1 c2 h0 n0 v U'.heap L ∧ FrameEnd s o U' L ({ frames := 0, cells := 0, slots := 0, locals := 0 } : Room).cells ({ frames := 0, cells := 0, slots := 0, locals := 0 } : Room).slots
set_option maxRecDepth 65536 in
set_option maxHeartbeats 40000000 in
theorem rmcmu_3_0 (l : Launch) (Z : State) (a0 : Array Value) (hw : ∀ d ∈ tables_1, d.before a0 Z = true) (ws : List Jvm.Cond) (a1 : Addr) (k : ClassId) (a3 : Addr) (kb : ClassId) (c0 : Int32) (c1 : Int32) (c2 : Int32) (h0 : Heap) (n0 : Nat) (Z0 : n0 ≤ h0.size) (V_a1 : Arv Z h0 a1 k .char (3 : Int32) [(.int c0), (.int c1), (.int c2)] (.int (0 : Int32))) (V_a3 : Arv Z h0 a3 kb .byte (3 : Int32) [(.int (0 : Int32)), (.int (0 : Int32)), (.int (0 : Int32))] (.int (0 : Int32))) (g_a3 : n0 ≤ a3) (ne13 : a1 ≠ a3) (hg0 : (255 : Int32) < c0) :
    MetFree l (⟨"java/lang/StringUTF16", "compress", "([CI[BII)I"⟩ : MethodName) (head1 (Jvm.Cond.code (⟨"java/lang/StringUTF16", "compress", "([CI[BII)I"⟩ : MethodName) jdk_52_method_21_code 7 (some .int) :: ws) ({ frames := 0, cells := 0, slots := 0, locals := 0 } : Room)) (fun a U => a = #[(.ref a1), (.int (0 : Int32)), (.ref a3), (.int (0 : Int32)), (.int (3 : Int32))] ∧ Z.Warmed39 U.vm ∧ U.heap = h0) (fun _ _ _ _ _ => True) (fun _ U o U' => ∃ v L, o = .returned v ∧ Qcmu_3_0 Z a1 k a3 kb c0 c1 c2 h0 n0 v U'.heap L ∧ FrameEnd U o U' L ({ frames := 0, cells := 0, slots := 0, locals := 0 } : Room).cells ({ frames := 0, cells := 0, slots := 0, locals := 0 } : Room).slots) := by
  refine MetFree.of_bodySF (plainFor_of_name pn_java_lang_StringUTF16) hisR ?_
  intro p e s m args below meth c s₁ Bd hml0 hP hK
  obtain ⟨rfl, hZ, hh⟩ := hP
  have hx := Bd.exec
  have hby := Bd.bytes
  have hml : c.maxLocals = 7 := hml0
  have hown : s.vm.findClass "java/lang/StringUTF16" = some m.cls := findClass_of_methodNamed Bd.named
  have hnm := (name_of_methodNamed Bd.named Bd.method).1
  have X0 : Stand p l e ({ frames := 0, cells := 0, slots := 0, locals := 0 } : Room) s m #[(.ref a1), (.int (0 : Int32)), (.ref a3), (.int (0 : Int32)), (.int (3 : Int32))] below meth c s₁ [] 0 0 := Stand.of_body Bd
  have e0 : s₁.heap = h0 := by rw [← hh, Bd.state]; rfl
  have es0 : s.heap = h0 := hh
  have N0 := Fr.nil n0
  show own_Fin p e below (Gcmu_3_0 Z a1 k a3 kb c0 c1 c2 h0 n0 s) (s₁.setTop (entryFrame m #[(.ref a1), (.int (0 : Int32)), (.ref a3), (.int (0 : Int32)), (.int (3 : Int32))] 7))
  rw [ef_cmu_3_0 m a1 (0 : Int32) a3 (0 : Int32) (3 : Int32)]
  have Kz := Keep.refl h0 [a3]
  refine own_go (XS.iconst X0.here hx rfl (hb hby d6_0) (Steps.refl _)) ?_
  show own_Fin _ _ _ _ (s₁.setTop (mkF m 1 #[rv a1, iv (0 : Int32), rv a3, iv (0 : Int32), iv (3 : Int32), .unset, .unset] [(.int (0 : Int32))]))
  refine own_go (XS.istore X0.here hx rfl (hb hby d6_1) rfl rfl (Steps.refl _)) ?_
  show own_Fin _ _ _ _ (s₁.setTop (mkF m 3 #[rv a1, iv (0 : Int32), rv a3, iv (0 : Int32), iv (3 : Int32), iv (0 : Int32), .unset] []))
  refine own_go (XS.iload X0.here hx rfl (hb hby d6_3) rfl (Steps.refl _)) ?_
  show own_Fin _ _ _ _ (s₁.setTop (mkF m 5 #[rv a1, iv (0 : Int32), rv a3, iv (0 : Int32), iv (3 : Int32), iv (0 : Int32), .unset] [(.int (0 : Int32))]))
  refine own_go (XS.iload X0.here hx rfl (hb hby d6_5) rfl (Steps.refl _)) ?_
  show own_Fin _ _ _ _ (s₁.setTop (mkF m 7 #[rv a1, iv (0 : Int32), rv a3, iv (0 : Int32), iv (3 : Int32), iv (0 : Int32), .unset] [(.int (3 : Int32)), (.int (0 : Int32))]))
  refine own_go (XS.icmpNo X0.here hx rfl (hb hby d6_7) rfl (tlt (by decide : (0 : Int32) < (3 : Int32))).2.1 (Steps.refl _)) ?_
  show own_Fin _ _ _ _ (s₁.setTop (mkF m 10 #[rv a1, iv (0 : Int32), rv a3, iv (0 : Int32), iv (3 : Int32), iv (0 : Int32), .unset] []))
  refine own_go (XS.aloadN X0.here hx rfl (hb hby d6_10) rfl rfl (Steps.refl _)) ?_
  show own_Fin _ _ _ _ (s₁.setTop (mkF m 11 #[rv a1, iv (0 : Int32), rv a3, iv (0 : Int32), iv (3 : Int32), iv (0 : Int32), .unset] [(.ref a1)]))
  refine own_go (XS.iloadN X0.here hx rfl (hb hby d6_11) rfl (Steps.refl _)) ?_
  show own_Fin _ _ _ _ (s₁.setTop (mkF m 12 #[rv a1, iv (0 : Int32), rv a3, iv (0 : Int32), iv (3 : Int32), iv (0 : Int32), .unset] [(.int (0 : Int32)), (.ref a1)]))
  obtain ⟨cl151, Ar151, qa151, Sa151, Na151, Ha151, Ga151⟩ := id V_a1
  have hin151 : ¬ ((0 : Int32) < 0 ∨ cl151.slots.size ≤ ((0 : Int32)).toNatClampNeg) := inb_of Sa151 ⟨by decide, by decide⟩
  have hat151 : cl151.slots[((0 : Int32)).toNatClampNeg]? = some (.int c0) := Has.at Ha151 hin151 rfl
  refine own_by (X0.caload hx (j := (0 : Int32)) (v := (.int c0)) (by rw [e0]; exact Ar151.1) (State.isArrayOf_alike hZ.alike Ar151.2.1) Ar151.2.2 hin151 hat151 (g := (mkF m 12 #[rv a1, iv (0 : Int32), rv a3, iv (0 : Int32), iv (3 : Int32), iv (0 : Int32), .unset] [(.int (0 : Int32)), (.ref a1)])) rfl rfl (hb hby d6_12)) ?_
  show own_Fin _ _ _ _ (s₁.setTop (mkF m 13 #[rv a1, iv (0 : Int32), rv a3, iv (0 : Int32), iv (3 : Int32), iv (0 : Int32), .unset] [(.int c0)]))
  refine own_go (XS.istore X0.here hx rfl (hb hby d6_13) rfl rfl (Steps.refl _)) ?_
  show own_Fin _ _ _ _ (s₁.setTop (mkF m 15 #[rv a1, iv (0 : Int32), rv a3, iv (0 : Int32), iv (3 : Int32), iv (0 : Int32), iv c0] []))
  refine own_go (XS.iload X0.here hx rfl (hb hby d6_15) rfl (Steps.refl _)) ?_
  show own_Fin _ _ _ _ (s₁.setTop (mkF m 17 #[rv a1, iv (0 : Int32), rv a3, iv (0 : Int32), iv (3 : Int32), iv (0 : Int32), iv c0] [(.int c0)]))
  refine own_go (XS.sipush X0.here hx rfl (hb hby d6_17) (Steps.refl _)) ?_
  show own_Fin _ _ _ _ (s₁.setTop (mkF m 20 #[rv a1, iv (0 : Int32), rv a3, iv (0 : Int32), iv (3 : Int32), iv (0 : Int32), iv c0] [(.int (255 : Int32)), (.int c0)]))
  refine own_go (XS.icmpNo X0.here hx rfl (hb hby d6_20) rfl (tlt (show (255 : Int32) < c0 from hg0)).2.2.2 (Steps.refl _)) ?_
  show own_Fin _ _ _ _ (s₁.setTop (mkF m 23 #[rv a1, iv (0 : Int32), rv a3, iv (0 : Int32), iv (3 : Int32), iv (0 : Int32), iv c0] []))
  refine own_go (XS.iload X0.here hx rfl (hb hby d6_23) rfl (Steps.refl _)) ?_
  show own_Fin _ _ _ _ (s₁.setTop (mkF m 25 #[rv a1, iv (0 : Int32), rv a3, iv (0 : Int32), iv (3 : Int32), iv (0 : Int32), iv c0] [(.int (0 : Int32))]))
  obtain ⟨fs152, hr152, hrun152, hended152, hW152, hsame152⟩ := X0.leave (v := some (.int (0 : Int32))) (fun h => by rw [Bd.returns] at h; cases h)
  refine own_done (own_retI X0 hx Bd.returns (hb hby d6_25) hr152) hrun152 hended152 ⟨_, _, rfl, ?_, ⟨_, rfl⟩, hW152, hsame152.mono (by decide) (by decide)⟩
  show Qcmu_3_0 Z a1 k a3 kb c0 c1 c2 h0 n0 _ s₁.heap _
  rw [e0]
  exact ⟨rfl, N0, Kz⟩
theorem ef_cmu_3_1 (m : MethodId) (x0 : Addr) (x1 : Int32) (x2 : Addr) (x3 : Int32) (x4 : Int32) : entryFrame m #[(.ref x0), (.int x1), (.ref x2), (.int x3), (.int x4)] 7 = mkF m 0 #[.val (.ref x0), .val (.int x1), .val (.ref x2), .val (.int x3), .val (.int x4), .unset, .unset] [] := by first | (simp [entryFrame, mkF, argsToLocals, Value.category]; done) | rfl
def Qcmu_3_1 (Z : State) (a1 : Addr) (k : ClassId) (a3 : Addr) (kb : ClassId) (c0 : Int32) (c1 : Int32) (c2 : Int32) (h0 : Heap) (n0 : Nat) (v : Option Value) (h : Heap) (L : List Loc) : Prop := v = some (.int (1 : Int32)) ∧ Fr n0 L ∧ Keep h0 h [a3]
abbrev Gcmu_3_1 (Z : State) (a1 : Addr) (k : ClassId) (a3 : Addr) (kb : ClassId) (c0 : Int32) (c1 : Int32) (c2 : Int32) (h0 : Heap) (n0 : Nat) (s : State) : Outcome → State → Prop := fun o U' => ∃ v L, o = .returned v ∧ Qcmu_3_1 Z a1 k a3 kb c0 c1 c2 h0 n0 v U'.heap L ∧ FrameEnd s o U' L ({ frames := 0, cells := 0, slots := 0, locals := 0 } : Room).cells ({ frames := 0, cells := 0, slots := 0, locals := 0 } : Room).slots
set_option maxRecDepth 65536 in
set_option maxHeartbeats 40000000 in
theorem rmcmu_3_1 (l : Launch) (Z : State) (a0 : Array Value) (hw : ∀ d ∈ tables_1, d.before a0 Z = true) (ws : List Jvm.Cond) (a1 : Addr) (k : ClassId) (a3 : Addr) (kb : ClassId) (c0 : Int32) (c1 : Int32) (c2 : Int32) (h0 : Heap) (n0 : Nat) (Z0 : n0 ≤ h0.size) (V_a1 : Arv Z h0 a1 k .char (3 : Int32) [(.int c0), (.int c1), (.int c2)] (.int (0 : Int32))) (V_a3 : Arv Z h0 a3 kb .byte (3 : Int32) [(.int (0 : Int32)), (.int (0 : Int32)), (.int (0 : Int32))] (.int (0 : Int32))) (g_a3 : n0 ≤ a3) (ne13 : a1 ≠ a3) (hg0 : ¬ (255 : Int32) < c0) (hg1 : (255 : Int32) < c1) :
    MetFree l (⟨"java/lang/StringUTF16", "compress", "([CI[BII)I"⟩ : MethodName) (head1 (Jvm.Cond.code (⟨"java/lang/StringUTF16", "compress", "([CI[BII)I"⟩ : MethodName) jdk_52_method_21_code 7 (some .int) :: ws) ({ frames := 0, cells := 0, slots := 0, locals := 0 } : Room)) (fun a U => a = #[(.ref a1), (.int (0 : Int32)), (.ref a3), (.int (0 : Int32)), (.int (3 : Int32))] ∧ Z.Warmed39 U.vm ∧ U.heap = h0) (fun _ _ _ _ _ => True) (fun _ U o U' => ∃ v L, o = .returned v ∧ Qcmu_3_1 Z a1 k a3 kb c0 c1 c2 h0 n0 v U'.heap L ∧ FrameEnd U o U' L ({ frames := 0, cells := 0, slots := 0, locals := 0 } : Room).cells ({ frames := 0, cells := 0, slots := 0, locals := 0 } : Room).slots) := by
  refine MetFree.of_bodySF (plainFor_of_name pn_java_lang_StringUTF16) hisR ?_
  intro p e s m args below meth c s₁ Bd hml0 hP hK
  obtain ⟨rfl, hZ, hh⟩ := hP
  have hx := Bd.exec
  have hby := Bd.bytes
  have hml : c.maxLocals = 7 := hml0
  have hown : s.vm.findClass "java/lang/StringUTF16" = some m.cls := findClass_of_methodNamed Bd.named
  have hnm := (name_of_methodNamed Bd.named Bd.method).1
  have X0 : Stand p l e ({ frames := 0, cells := 0, slots := 0, locals := 0 } : Room) s m #[(.ref a1), (.int (0 : Int32)), (.ref a3), (.int (0 : Int32)), (.int (3 : Int32))] below meth c s₁ [] 0 0 := Stand.of_body Bd
  have e0 : s₁.heap = h0 := by rw [← hh, Bd.state]; rfl
  have es0 : s.heap = h0 := hh
  have N0 := Fr.nil n0
  show own_Fin p e below (Gcmu_3_1 Z a1 k a3 kb c0 c1 c2 h0 n0 s) (s₁.setTop (entryFrame m #[(.ref a1), (.int (0 : Int32)), (.ref a3), (.int (0 : Int32)), (.int (3 : Int32))] 7))
  rw [ef_cmu_3_1 m a1 (0 : Int32) a3 (0 : Int32) (3 : Int32)]
  have Kz := Keep.refl h0 [a3]
  refine own_go (XS.iconst X0.here hx rfl (hb hby d6_0) (Steps.refl _)) ?_
  show own_Fin _ _ _ _ (s₁.setTop (mkF m 1 #[rv a1, iv (0 : Int32), rv a3, iv (0 : Int32), iv (3 : Int32), .unset, .unset] [(.int (0 : Int32))]))
  refine own_go (XS.istore X0.here hx rfl (hb hby d6_1) rfl rfl (Steps.refl _)) ?_
  show own_Fin _ _ _ _ (s₁.setTop (mkF m 3 #[rv a1, iv (0 : Int32), rv a3, iv (0 : Int32), iv (3 : Int32), iv (0 : Int32), .unset] []))
  refine own_go (XS.iload X0.here hx rfl (hb hby d6_3) rfl (Steps.refl _)) ?_
  show own_Fin _ _ _ _ (s₁.setTop (mkF m 5 #[rv a1, iv (0 : Int32), rv a3, iv (0 : Int32), iv (3 : Int32), iv (0 : Int32), .unset] [(.int (0 : Int32))]))
  refine own_go (XS.iload X0.here hx rfl (hb hby d6_5) rfl (Steps.refl _)) ?_
  show own_Fin _ _ _ _ (s₁.setTop (mkF m 7 #[rv a1, iv (0 : Int32), rv a3, iv (0 : Int32), iv (3 : Int32), iv (0 : Int32), .unset] [(.int (3 : Int32)), (.int (0 : Int32))]))
  refine own_go (XS.icmpNo X0.here hx rfl (hb hby d6_7) rfl (tlt (by decide : (0 : Int32) < (3 : Int32))).2.1 (Steps.refl _)) ?_
  show own_Fin _ _ _ _ (s₁.setTop (mkF m 10 #[rv a1, iv (0 : Int32), rv a3, iv (0 : Int32), iv (3 : Int32), iv (0 : Int32), .unset] []))
  refine own_go (XS.aloadN X0.here hx rfl (hb hby d6_10) rfl rfl (Steps.refl _)) ?_
  show own_Fin _ _ _ _ (s₁.setTop (mkF m 11 #[rv a1, iv (0 : Int32), rv a3, iv (0 : Int32), iv (3 : Int32), iv (0 : Int32), .unset] [(.ref a1)]))
  refine own_go (XS.iloadN X0.here hx rfl (hb hby d6_11) rfl (Steps.refl _)) ?_
  show own_Fin _ _ _ _ (s₁.setTop (mkF m 12 #[rv a1, iv (0 : Int32), rv a3, iv (0 : Int32), iv (3 : Int32), iv (0 : Int32), .unset] [(.int (0 : Int32)), (.ref a1)]))
  obtain ⟨cl153, Ar153, qa153, Sa153, Na153, Ha153, Ga153⟩ := id V_a1
  have hin153 : ¬ ((0 : Int32) < 0 ∨ cl153.slots.size ≤ ((0 : Int32)).toNatClampNeg) := inb_of Sa153 ⟨by decide, by decide⟩
  have hat153 : cl153.slots[((0 : Int32)).toNatClampNeg]? = some (.int c0) := Has.at Ha153 hin153 rfl
  refine own_by (X0.caload hx (j := (0 : Int32)) (v := (.int c0)) (by rw [e0]; exact Ar153.1) (State.isArrayOf_alike hZ.alike Ar153.2.1) Ar153.2.2 hin153 hat153 (g := (mkF m 12 #[rv a1, iv (0 : Int32), rv a3, iv (0 : Int32), iv (3 : Int32), iv (0 : Int32), .unset] [(.int (0 : Int32)), (.ref a1)])) rfl rfl (hb hby d6_12)) ?_
  show own_Fin _ _ _ _ (s₁.setTop (mkF m 13 #[rv a1, iv (0 : Int32), rv a3, iv (0 : Int32), iv (3 : Int32), iv (0 : Int32), .unset] [(.int c0)]))
  refine own_go (XS.istore X0.here hx rfl (hb hby d6_13) rfl rfl (Steps.refl _)) ?_
  show own_Fin _ _ _ _ (s₁.setTop (mkF m 15 #[rv a1, iv (0 : Int32), rv a3, iv (0 : Int32), iv (3 : Int32), iv (0 : Int32), iv c0] []))
  refine own_go (XS.iload X0.here hx rfl (hb hby d6_15) rfl (Steps.refl _)) ?_
  show own_Fin _ _ _ _ (s₁.setTop (mkF m 17 #[rv a1, iv (0 : Int32), rv a3, iv (0 : Int32), iv (3 : Int32), iv (0 : Int32), iv c0] [(.int c0)]))
  refine own_go (XS.sipush X0.here hx rfl (hb hby d6_17) (Steps.refl _)) ?_
  show own_Fin _ _ _ _ (s₁.setTop (mkF m 20 #[rv a1, iv (0 : Int32), rv a3, iv (0 : Int32), iv (3 : Int32), iv (0 : Int32), iv c0] [(.int (255 : Int32)), (.int c0)]))
  refine own_go (XS.icmpYes X0.here hx rfl (pc0 := 20) (pc' := 26) rfl (hb hby d6_20) rfl (flt (show ¬ ((255 : Int32) < c0) from hg0)).2.2.2 (by decide) (by decide) (Steps.refl _)) ?_
  show own_Fin _ _ _ _ (s₁.setTop (mkF m 26 #[rv a1, iv (0 : Int32), rv a3, iv (0 : Int32), iv (3 : Int32), iv (0 : Int32), iv c0] []))
  refine own_go (XS.aloadN X0.here hx rfl (hb hby d6_26) rfl rfl (Steps.refl _)) ?_
  show own_Fin _ _ _ _ (s₁.setTop (mkF m 27 #[rv a1, iv (0 : Int32), rv a3, iv (0 : Int32), iv (3 : Int32), iv (0 : Int32), iv c0] [(.ref a3)]))
  refine own_go (XS.iloadN X0.here hx rfl (hb hby d6_27) rfl (Steps.refl _)) ?_
  show own_Fin _ _ _ _ (s₁.setTop (mkF m 28 #[rv a1, iv (0 : Int32), rv a3, iv (0 : Int32), iv (3 : Int32), iv (0 : Int32), iv c0] [(.int (0 : Int32)), (.ref a3)]))
  refine own_go (XS.iload X0.here hx rfl (hb hby d6_28) rfl (Steps.refl _)) ?_
  show own_Fin _ _ _ _ (s₁.setTop (mkF m 30 #[rv a1, iv (0 : Int32), rv a3, iv (0 : Int32), iv (3 : Int32), iv (0 : Int32), iv c0] [(.int c0), (.int (0 : Int32)), (.ref a3)]))
  refine own_go (XS.i2b X0.here hx rfl (hb hby d6_30) rfl (Steps.refl _)) ?_
  show own_Fin _ _ _ _ (s₁.setTop (mkF m 31 #[rv a1, iv (0 : Int32), rv a3, iv (0 : Int32), iv (3 : Int32), iv (0 : Int32), iv c0] [(.int (c0.toInt8.toInt32)), (.int (0 : Int32)), (.ref a3)]))
  obtain ⟨cl154, Ar154, qa154, Sa154, Na154, Ha154, Ga154⟩ := id V_a3
  have hin154 : ¬ ((0 : Int32) < 0 ∨ cl154.slots.size ≤ ((0 : Int32)).toNatClampNeg) := inb_of Sa154 ⟨by decide, by decide⟩
  obtain ⟨T155, h155, X155, e155, W155, st155⟩ := stB X0 hx hZ e0 Ar154 (j := (0 : Int32)) hin154 (g := (mkF m 31 #[rv a1, iv (0 : Int32), rv a3, iv (0 : Int32), iv (3 : Int32), iv (0 : Int32), iv c0] [(.int (c0.toInt8.toInt32)), (.int (0 : Int32)), (.ref a3)])) rfl rfl (hb hby d6_31)
  refine own_by st155 ?_
  have V_a3_155 : Arv Z h155 a3 kb .byte (3 : Int32) [(.int (nar .byte (c0.toInt8.toInt32))), (.int (0 : Int32)), (.int (0 : Int32))] (.int (0 : Int32)) := Arv.set Ar154 qa154 Sa154 Na154 Ha154 Ga154 (fits_nar_byte (c0.toInt8.toInt32)) W155 0 rfl (Nat.le_of_ble_eq_true rfl)
  have V_a1_155 := V_a1.other W155 ne13
  have N155 := Fr.snoc X155 N0 g_a3
  have Z155 : n0 ≤ h155.size := Nat.le_trans Z0 (Keep.of_wr W155).1
  have K155 := Kz.wr W155 (Or.inl (List.mem_of_getElem? (i := 0) rfl))
  show own_Fin _ _ _ _ (T155.setTop (mkF m 32 #[rv a1, iv (0 : Int32), rv a3, iv (0 : Int32), iv (3 : Int32), iv (0 : Int32), iv c0] []))
  refine own_go (XS.iinc X155.here hx rfl (hb hby d6_32) rfl rfl (Steps.refl _)) ?_
  show own_Fin _ _ _ _ (T155.setTop (mkF m 35 #[rv a1, iv (1 : Int32), rv a3, iv (0 : Int32), iv (3 : Int32), iv (0 : Int32), iv c0] []))
  refine own_go (XS.iinc X155.here hx rfl (hb hby d6_35) rfl rfl (Steps.refl _)) ?_
  show own_Fin _ _ _ _ (T155.setTop (mkF m 38 #[rv a1, iv (1 : Int32), rv a3, iv (1 : Int32), iv (3 : Int32), iv (0 : Int32), iv c0] []))
  refine own_go (XS.iinc X155.here hx rfl (hb hby d6_38) rfl rfl (Steps.refl _)) ?_
  show own_Fin _ _ _ _ (T155.setTop (mkF m 41 #[rv a1, iv (1 : Int32), rv a3, iv (1 : Int32), iv (3 : Int32), iv (1 : Int32), iv c0] []))
  refine own_go (XS.goto X155.here hx rfl (pc0 := 41) (pc' := 3) rfl (hb hby d6_41) (by decide) (by decide) (Steps.refl _)) ?_
  show own_Fin _ _ _ _ (T155.setTop (mkF m 3 #[rv a1, iv (1 : Int32), rv a3, iv (1 : Int32), iv (3 : Int32), iv (1 : Int32), iv c0] []))
  refine own_go (XS.iload X155.here hx rfl (hb hby d6_3) rfl (Steps.refl _)) ?_
  show own_Fin _ _ _ _ (T155.setTop (mkF m 5 #[rv a1, iv (1 : Int32), rv a3, iv (1 : Int32), iv (3 : Int32), iv (1 : Int32), iv c0] [(.int (1 : Int32))]))
  refine own_go (XS.iload X155.here hx rfl (hb hby d6_5) rfl (Steps.refl _)) ?_
  show own_Fin _ _ _ _ (T155.setTop (mkF m 7 #[rv a1, iv (1 : Int32), rv a3, iv (1 : Int32), iv (3 : Int32), iv (1 : Int32), iv c0] [(.int (3 : Int32)), (.int (1 : Int32))]))
  refine own_go (XS.icmpNo X155.here hx rfl (hb hby d6_7) rfl (tlt (by decide : (1 : Int32) < (3 : Int32))).2.1 (Steps.refl _)) ?_
  show own_Fin _ _ _ _ (T155.setTop (mkF m 10 #[rv a1, iv (1 : Int32), rv a3, iv (1 : Int32), iv (3 : Int32), iv (1 : Int32), iv c0] []))
  refine own_go (XS.aloadN X155.here hx rfl (hb hby d6_10) rfl rfl (Steps.refl _)) ?_
  show own_Fin _ _ _ _ (T155.setTop (mkF m 11 #[rv a1, iv (1 : Int32), rv a3, iv (1 : Int32), iv (3 : Int32), iv (1 : Int32), iv c0] [(.ref a1)]))
  refine own_go (XS.iloadN X155.here hx rfl (hb hby d6_11) rfl (Steps.refl _)) ?_
  show own_Fin _ _ _ _ (T155.setTop (mkF m 12 #[rv a1, iv (1 : Int32), rv a3, iv (1 : Int32), iv (3 : Int32), iv (1 : Int32), iv c0] [(.int (1 : Int32)), (.ref a1)]))
  obtain ⟨cl156, Ar156, qa156, Sa156, Na156, Ha156, Ga156⟩ := id V_a1_155
  have hin156 : ¬ ((1 : Int32) < 0 ∨ cl156.slots.size ≤ ((1 : Int32)).toNatClampNeg) := inb_of Sa156 ⟨by decide, by decide⟩
  have hat156 : cl156.slots[((1 : Int32)).toNatClampNeg]? = some (.int c1) := Has.at Ha156 hin156 rfl
  refine own_by (X155.caload hx (j := (1 : Int32)) (v := (.int c1)) (by rw [e155]; exact Ar156.1) (State.isArrayOf_alike hZ.alike Ar156.2.1) Ar156.2.2 hin156 hat156 (g := (mkF m 12 #[rv a1, iv (1 : Int32), rv a3, iv (1 : Int32), iv (3 : Int32), iv (1 : Int32), iv c0] [(.int (1 : Int32)), (.ref a1)])) rfl rfl (hb hby d6_12)) ?_
  show own_Fin _ _ _ _ (T155.setTop (mkF m 13 #[rv a1, iv (1 : Int32), rv a3, iv (1 : Int32), iv (3 : Int32), iv (1 : Int32), iv c0] [(.int c1)]))
  refine own_go (XS.istore X155.here hx rfl (hb hby d6_13) rfl rfl (Steps.refl _)) ?_
  show own_Fin _ _ _ _ (T155.setTop (mkF m 15 #[rv a1, iv (1 : Int32), rv a3, iv (1 : Int32), iv (3 : Int32), iv (1 : Int32), iv c1] []))
  refine own_go (XS.iload X155.here hx rfl (hb hby d6_15) rfl (Steps.refl _)) ?_
  show own_Fin _ _ _ _ (T155.setTop (mkF m 17 #[rv a1, iv (1 : Int32), rv a3, iv (1 : Int32), iv (3 : Int32), iv (1 : Int32), iv c1] [(.int c1)]))
  refine own_go (XS.sipush X155.here hx rfl (hb hby d6_17) (Steps.refl _)) ?_
  show own_Fin _ _ _ _ (T155.setTop (mkF m 20 #[rv a1, iv (1 : Int32), rv a3, iv (1 : Int32), iv (3 : Int32), iv (1 : Int32), iv c1] [(.int (255 : Int32)), (.int c1)]))
  refine own_go (XS.icmpNo X155.here hx rfl (hb hby d6_20) rfl (tlt (show (255 : Int32) < c1 from hg1)).2.2.2 (Steps.refl _)) ?_
  show own_Fin _ _ _ _ (T155.setTop (mkF m 23 #[rv a1, iv (1 : Int32), rv a3, iv (1 : Int32), iv (3 : Int32), iv (1 : Int32), iv c1] []))
  refine own_go (XS.iload X155.here hx rfl (hb hby d6_23) rfl (Steps.refl _)) ?_
  show own_Fin _ _ _ _ (T155.setTop (mkF m 25 #[rv a1, iv (1 : Int32), rv a3, iv (1 : Int32), iv (3 : Int32), iv (1 : Int32), iv c1] [(.int (1 : Int32))]))
  obtain ⟨fs157, hr157, hrun157, hended157, hW157, hsame157⟩ := X155.leave (v := some (.int (1 : Int32))) (fun h => by rw [Bd.returns] at h; cases h)
  refine own_done (own_retI X155 hx Bd.returns (hb hby d6_25) hr157) hrun157 hended157 ⟨_, _, rfl, ?_, ⟨_, rfl⟩, hW157, hsame157.mono (by decide) (by decide)⟩
  show Qcmu_3_1 Z a1 k a3 kb c0 c1 c2 h0 n0 _ T155.heap _
  rw [e155]
  exact ⟨rfl, N155, K155⟩
theorem ef_cmu_3_2 (m : MethodId) (x0 : Addr) (x1 : Int32) (x2 : Addr) (x3 : Int32) (x4 : Int32) : entryFrame m #[(.ref x0), (.int x1), (.ref x2), (.int x3), (.int x4)] 7 = mkF m 0 #[.val (.ref x0), .val (.int x1), .val (.ref x2), .val (.int x3), .val (.int x4), .unset, .unset] [] := by first | (simp [entryFrame, mkF, argsToLocals, Value.category]; done) | rfl
def Qcmu_3_2 (Z : State) (a1 : Addr) (k : ClassId) (a3 : Addr) (kb : ClassId) (c0 : Int32) (c1 : Int32) (c2 : Int32) (h0 : Heap) (n0 : Nat) (v : Option Value) (h : Heap) (L : List Loc) : Prop := v = some (.int (2 : Int32)) ∧ Fr n0 L ∧ Keep h0 h [a3]
abbrev Gcmu_3_2 (Z : State) (a1 : Addr) (k : ClassId) (a3 : Addr) (kb : ClassId) (c0 : Int32) (c1 : Int32) (c2 : Int32) (h0 : Heap) (n0 : Nat) (s : State) : Outcome → State → Prop := fun o U' => ∃ v L, o = .returned v ∧ Qcmu_3_2 Z a1 k a3 kb c0 c1 c2 h0 n0 v U'.heap L ∧ FrameEnd s o U' L ({ frames := 0, cells := 0, slots := 0, locals := 0 } : Room).cells ({ frames := 0, cells := 0, slots := 0, locals := 0 } : Room).slots
set_option maxRecDepth 65536 in
set_option maxHeartbeats 40000000 in
theorem rmcmu_3_2 (l : Launch) (Z : State) (a0 : Array Value) (hw : ∀ d ∈ tables_1, d.before a0 Z = true) (ws : List Jvm.Cond) (a1 : Addr) (k : ClassId) (a3 : Addr) (kb : ClassId) (c0 : Int32) (c1 : Int32) (c2 : Int32) (h0 : Heap) (n0 : Nat) (Z0 : n0 ≤ h0.size) (V_a1 : Arv Z h0 a1 k .char (3 : Int32) [(.int c0), (.int c1), (.int c2)] (.int (0 : Int32))) (V_a3 : Arv Z h0 a3 kb .byte (3 : Int32) [(.int (0 : Int32)), (.int (0 : Int32)), (.int (0 : Int32))] (.int (0 : Int32))) (g_a3 : n0 ≤ a3) (ne13 : a1 ≠ a3) (hg0 : ¬ (255 : Int32) < c0) (hg1 : ¬ (255 : Int32) < c1) (hg2 : (255 : Int32) < c2) :
    MetFree l (⟨"java/lang/StringUTF16", "compress", "([CI[BII)I"⟩ : MethodName) (head1 (Jvm.Cond.code (⟨"java/lang/StringUTF16", "compress", "([CI[BII)I"⟩ : MethodName) jdk_52_method_21_code 7 (some .int) :: ws) ({ frames := 0, cells := 0, slots := 0, locals := 0 } : Room)) (fun a U => a = #[(.ref a1), (.int (0 : Int32)), (.ref a3), (.int (0 : Int32)), (.int (3 : Int32))] ∧ Z.Warmed39 U.vm ∧ U.heap = h0) (fun _ _ _ _ _ => True) (fun _ U o U' => ∃ v L, o = .returned v ∧ Qcmu_3_2 Z a1 k a3 kb c0 c1 c2 h0 n0 v U'.heap L ∧ FrameEnd U o U' L ({ frames := 0, cells := 0, slots := 0, locals := 0 } : Room).cells ({ frames := 0, cells := 0, slots := 0, locals := 0 } : Room).slots) := by
  refine MetFree.of_bodySF (plainFor_of_name pn_java_lang_StringUTF16) hisR ?_
  intro p e s m args below meth c s₁ Bd hml0 hP hK
  obtain ⟨rfl, hZ, hh⟩ := hP
  have hx := Bd.exec
  have hby := Bd.bytes
  have hml : c.maxLocals = 7 := hml0
  have hown : s.vm.findClass "java/lang/StringUTF16" = some m.cls := findClass_of_methodNamed Bd.named
  have hnm := (name_of_methodNamed Bd.named Bd.method).1
  have X0 : Stand p l e ({ frames := 0, cells := 0, slots := 0, locals := 0 } : Room) s m #[(.ref a1), (.int (0 : Int32)), (.ref a3), (.int (0 : Int32)), (.int (3 : Int32))] below meth c s₁ [] 0 0 := Stand.of_body Bd
  have e0 : s₁.heap = h0 := by rw [← hh, Bd.state]; rfl
  have es0 : s.heap = h0 := hh
  have N0 := Fr.nil n0
  show own_Fin p e below (Gcmu_3_2 Z a1 k a3 kb c0 c1 c2 h0 n0 s) (s₁.setTop (entryFrame m #[(.ref a1), (.int (0 : Int32)), (.ref a3), (.int (0 : Int32)), (.int (3 : Int32))] 7))
  rw [ef_cmu_3_2 m a1 (0 : Int32) a3 (0 : Int32) (3 : Int32)]
  have Kz := Keep.refl h0 [a3]
  refine own_go (XS.iconst X0.here hx rfl (hb hby d6_0) (Steps.refl _)) ?_
  show own_Fin _ _ _ _ (s₁.setTop (mkF m 1 #[rv a1, iv (0 : Int32), rv a3, iv (0 : Int32), iv (3 : Int32), .unset, .unset] [(.int (0 : Int32))]))
  refine own_go (XS.istore X0.here hx rfl (hb hby d6_1) rfl rfl (Steps.refl _)) ?_
  show own_Fin _ _ _ _ (s₁.setTop (mkF m 3 #[rv a1, iv (0 : Int32), rv a3, iv (0 : Int32), iv (3 : Int32), iv (0 : Int32), .unset] []))
  refine own_go (XS.iload X0.here hx rfl (hb hby d6_3) rfl (Steps.refl _)) ?_
  show own_Fin _ _ _ _ (s₁.setTop (mkF m 5 #[rv a1, iv (0 : Int32), rv a3, iv (0 : Int32), iv (3 : Int32), iv (0 : Int32), .unset] [(.int (0 : Int32))]))
  refine own_go (XS.iload X0.here hx rfl (hb hby d6_5) rfl (Steps.refl _)) ?_
  show own_Fin _ _ _ _ (s₁.setTop (mkF m 7 #[rv a1, iv (0 : Int32), rv a3, iv (0 : Int32), iv (3 : Int32), iv (0 : Int32), .unset] [(.int (3 : Int32)), (.int (0 : Int32))]))
  refine own_go (XS.icmpNo X0.here hx rfl (hb hby d6_7) rfl (tlt (by decide : (0 : Int32) < (3 : Int32))).2.1 (Steps.refl _)) ?_
  show own_Fin _ _ _ _ (s₁.setTop (mkF m 10 #[rv a1, iv (0 : Int32), rv a3, iv (0 : Int32), iv (3 : Int32), iv (0 : Int32), .unset] []))
  refine own_go (XS.aloadN X0.here hx rfl (hb hby d6_10) rfl rfl (Steps.refl _)) ?_
  show own_Fin _ _ _ _ (s₁.setTop (mkF m 11 #[rv a1, iv (0 : Int32), rv a3, iv (0 : Int32), iv (3 : Int32), iv (0 : Int32), .unset] [(.ref a1)]))
  refine own_go (XS.iloadN X0.here hx rfl (hb hby d6_11) rfl (Steps.refl _)) ?_
  show own_Fin _ _ _ _ (s₁.setTop (mkF m 12 #[rv a1, iv (0 : Int32), rv a3, iv (0 : Int32), iv (3 : Int32), iv (0 : Int32), .unset] [(.int (0 : Int32)), (.ref a1)]))
  obtain ⟨cl158, Ar158, qa158, Sa158, Na158, Ha158, Ga158⟩ := id V_a1
  have hin158 : ¬ ((0 : Int32) < 0 ∨ cl158.slots.size ≤ ((0 : Int32)).toNatClampNeg) := inb_of Sa158 ⟨by decide, by decide⟩
  have hat158 : cl158.slots[((0 : Int32)).toNatClampNeg]? = some (.int c0) := Has.at Ha158 hin158 rfl
  refine own_by (X0.caload hx (j := (0 : Int32)) (v := (.int c0)) (by rw [e0]; exact Ar158.1) (State.isArrayOf_alike hZ.alike Ar158.2.1) Ar158.2.2 hin158 hat158 (g := (mkF m 12 #[rv a1, iv (0 : Int32), rv a3, iv (0 : Int32), iv (3 : Int32), iv (0 : Int32), .unset] [(.int (0 : Int32)), (.ref a1)])) rfl rfl (hb hby d6_12)) ?_
  show own_Fin _ _ _ _ (s₁.setTop (mkF m 13 #[rv a1, iv (0 : Int32), rv a3, iv (0 : Int32), iv (3 : Int32), iv (0 : Int32), .unset] [(.int c0)]))
  refine own_go (XS.istore X0.here hx rfl (hb hby d6_13) rfl rfl (Steps.refl _)) ?_
  show own_Fin _ _ _ _ (s₁.setTop (mkF m 15 #[rv a1, iv (0 : Int32), rv a3, iv (0 : Int32), iv (3 : Int32), iv (0 : Int32), iv c0] []))
  refine own_go (XS.iload X0.here hx rfl (hb hby d6_15) rfl (Steps.refl _)) ?_
  show own_Fin _ _ _ _ (s₁.setTop (mkF m 17 #[rv a1, iv (0 : Int32), rv a3, iv (0 : Int32), iv (3 : Int32), iv (0 : Int32), iv c0] [(.int c0)]))
  refine own_go (XS.sipush X0.here hx rfl (hb hby d6_17) (Steps.refl _)) ?_
  show own_Fin _ _ _ _ (s₁.setTop (mkF m 20 #[rv a1, iv (0 : Int32), rv a3, iv (0 : Int32), iv (3 : Int32), iv (0 : Int32), iv c0] [(.int (255 : Int32)), (.int c0)]))
  refine own_go (XS.icmpYes X0.here hx rfl (pc0 := 20) (pc' := 26) rfl (hb hby d6_20) rfl (flt (show ¬ ((255 : Int32) < c0) from hg0)).2.2.2 (by decide) (by decide) (Steps.refl _)) ?_
  show own_Fin _ _ _ _ (s₁.setTop (mkF m 26 #[rv a1, iv (0 : Int32), rv a3, iv (0 : Int32), iv (3 : Int32), iv (0 : Int32), iv c0] []))
  refine own_go (XS.aloadN X0.here hx rfl (hb hby d6_26) rfl rfl (Steps.refl _)) ?_
  show own_Fin _ _ _ _ (s₁.setTop (mkF m 27 #[rv a1, iv (0 : Int32), rv a3, iv (0 : Int32), iv (3 : Int32), iv (0 : Int32), iv c0] [(.ref a3)]))
  refine own_go (XS.iloadN X0.here hx rfl (hb hby d6_27) rfl (Steps.refl _)) ?_
  show own_Fin _ _ _ _ (s₁.setTop (mkF m 28 #[rv a1, iv (0 : Int32), rv a3, iv (0 : Int32), iv (3 : Int32), iv (0 : Int32), iv c0] [(.int (0 : Int32)), (.ref a3)]))
  refine own_go (XS.iload X0.here hx rfl (hb hby d6_28) rfl (Steps.refl _)) ?_
  show own_Fin _ _ _ _ (s₁.setTop (mkF m 30 #[rv a1, iv (0 : Int32), rv a3, iv (0 : Int32), iv (3 : Int32), iv (0 : Int32), iv c0] [(.int c0), (.int (0 : Int32)), (.ref a3)]))
  refine own_go (XS.i2b X0.here hx rfl (hb hby d6_30) rfl (Steps.refl _)) ?_
  show own_Fin _ _ _ _ (s₁.setTop (mkF m 31 #[rv a1, iv (0 : Int32), rv a3, iv (0 : Int32), iv (3 : Int32), iv (0 : Int32), iv c0] [(.int (c0.toInt8.toInt32)), (.int (0 : Int32)), (.ref a3)]))
  obtain ⟨cl159, Ar159, qa159, Sa159, Na159, Ha159, Ga159⟩ := id V_a3
  have hin159 : ¬ ((0 : Int32) < 0 ∨ cl159.slots.size ≤ ((0 : Int32)).toNatClampNeg) := inb_of Sa159 ⟨by decide, by decide⟩
  obtain ⟨T160, h160, X160, e160, W160, st160⟩ := stB X0 hx hZ e0 Ar159 (j := (0 : Int32)) hin159 (g := (mkF m 31 #[rv a1, iv (0 : Int32), rv a3, iv (0 : Int32), iv (3 : Int32), iv (0 : Int32), iv c0] [(.int (c0.toInt8.toInt32)), (.int (0 : Int32)), (.ref a3)])) rfl rfl (hb hby d6_31)
  refine own_by st160 ?_
  have V_a3_160 : Arv Z h160 a3 kb .byte (3 : Int32) [(.int (nar .byte (c0.toInt8.toInt32))), (.int (0 : Int32)), (.int (0 : Int32))] (.int (0 : Int32)) := Arv.set Ar159 qa159 Sa159 Na159 Ha159 Ga159 (fits_nar_byte (c0.toInt8.toInt32)) W160 0 rfl (Nat.le_of_ble_eq_true rfl)
  have V_a1_160 := V_a1.other W160 ne13
  have N160 := Fr.snoc X160 N0 g_a3
  have Z160 : n0 ≤ h160.size := Nat.le_trans Z0 (Keep.of_wr W160).1
  have K160 := Kz.wr W160 (Or.inl (List.mem_of_getElem? (i := 0) rfl))
  show own_Fin _ _ _ _ (T160.setTop (mkF m 32 #[rv a1, iv (0 : Int32), rv a3, iv (0 : Int32), iv (3 : Int32), iv (0 : Int32), iv c0] []))
  refine own_go (XS.iinc X160.here hx rfl (hb hby d6_32) rfl rfl (Steps.refl _)) ?_
  show own_Fin _ _ _ _ (T160.setTop (mkF m 35 #[rv a1, iv (1 : Int32), rv a3, iv (0 : Int32), iv (3 : Int32), iv (0 : Int32), iv c0] []))
  refine own_go (XS.iinc X160.here hx rfl (hb hby d6_35) rfl rfl (Steps.refl _)) ?_
  show own_Fin _ _ _ _ (T160.setTop (mkF m 38 #[rv a1, iv (1 : Int32), rv a3, iv (1 : Int32), iv (3 : Int32), iv (0 : Int32), iv c0] []))
  refine own_go (XS.iinc X160.here hx rfl (hb hby d6_38) rfl rfl (Steps.refl _)) ?_
  show own_Fin _ _ _ _ (T160.setTop (mkF m 41 #[rv a1, iv (1 : Int32), rv a3, iv (1 : Int32), iv (3 : Int32), iv (1 : Int32), iv c0] []))
  refine own_go (XS.goto X160.here hx rfl (pc0 := 41) (pc' := 3) rfl (hb hby d6_41) (by decide) (by decide) (Steps.refl _)) ?_
  show own_Fin _ _ _ _ (T160.setTop (mkF m 3 #[rv a1, iv (1 : Int32), rv a3, iv (1 : Int32), iv (3 : Int32), iv (1 : Int32), iv c0] []))
  refine own_go (XS.iload X160.here hx rfl (hb hby d6_3) rfl (Steps.refl _)) ?_
  show own_Fin _ _ _ _ (T160.setTop (mkF m 5 #[rv a1, iv (1 : Int32), rv a3, iv (1 : Int32), iv (3 : Int32), iv (1 : Int32), iv c0] [(.int (1 : Int32))]))
  refine own_go (XS.iload X160.here hx rfl (hb hby d6_5) rfl (Steps.refl _)) ?_
  show own_Fin _ _ _ _ (T160.setTop (mkF m 7 #[rv a1, iv (1 : Int32), rv a3, iv (1 : Int32), iv (3 : Int32), iv (1 : Int32), iv c0] [(.int (3 : Int32)), (.int (1 : Int32))]))
  refine own_go (XS.icmpNo X160.here hx rfl (hb hby d6_7) rfl (tlt (by decide : (1 : Int32) < (3 : Int32))).2.1 (Steps.refl _)) ?_
  show own_Fin _ _ _ _ (T160.setTop (mkF m 10 #[rv a1, iv (1 : Int32), rv a3, iv (1 : Int32), iv (3 : Int32), iv (1 : Int32), iv c0] []))
  refine own_go (XS.aloadN X160.here hx rfl (hb hby d6_10) rfl rfl (Steps.refl _)) ?_
  show own_Fin _ _ _ _ (T160.setTop (mkF m 11 #[rv a1, iv (1 : Int32), rv a3, iv (1 : Int32), iv (3 : Int32), iv (1 : Int32), iv c0] [(.ref a1)]))
  refine own_go (XS.iloadN X160.here hx rfl (hb hby d6_11) rfl (Steps.refl _)) ?_
  show own_Fin _ _ _ _ (T160.setTop (mkF m 12 #[rv a1, iv (1 : Int32), rv a3, iv (1 : Int32), iv (3 : Int32), iv (1 : Int32), iv c0] [(.int (1 : Int32)), (.ref a1)]))
  obtain ⟨cl161, Ar161, qa161, Sa161, Na161, Ha161, Ga161⟩ := id V_a1_160
  have hin161 : ¬ ((1 : Int32) < 0 ∨ cl161.slots.size ≤ ((1 : Int32)).toNatClampNeg) := inb_of Sa161 ⟨by decide, by decide⟩
  have hat161 : cl161.slots[((1 : Int32)).toNatClampNeg]? = some (.int c1) := Has.at Ha161 hin161 rfl
  refine own_by (X160.caload hx (j := (1 : Int32)) (v := (.int c1)) (by rw [e160]; exact Ar161.1) (State.isArrayOf_alike hZ.alike Ar161.2.1) Ar161.2.2 hin161 hat161 (g := (mkF m 12 #[rv a1, iv (1 : Int32), rv a3, iv (1 : Int32), iv (3 : Int32), iv (1 : Int32), iv c0] [(.int (1 : Int32)), (.ref a1)])) rfl rfl (hb hby d6_12)) ?_
  show own_Fin _ _ _ _ (T160.setTop (mkF m 13 #[rv a1, iv (1 : Int32), rv a3, iv (1 : Int32), iv (3 : Int32), iv (1 : Int32), iv c0] [(.int c1)]))
  refine own_go (XS.istore X160.here hx rfl (hb hby d6_13) rfl rfl (Steps.refl _)) ?_
  show own_Fin _ _ _ _ (T160.setTop (mkF m 15 #[rv a1, iv (1 : Int32), rv a3, iv (1 : Int32), iv (3 : Int32), iv (1 : Int32), iv c1] []))
  refine own_go (XS.iload X160.here hx rfl (hb hby d6_15) rfl (Steps.refl _)) ?_
  show own_Fin _ _ _ _ (T160.setTop (mkF m 17 #[rv a1, iv (1 : Int32), rv a3, iv (1 : Int32), iv (3 : Int32), iv (1 : Int32), iv c1] [(.int c1)]))
  refine own_go (XS.sipush X160.here hx rfl (hb hby d6_17) (Steps.refl _)) ?_
  show own_Fin _ _ _ _ (T160.setTop (mkF m 20 #[rv a1, iv (1 : Int32), rv a3, iv (1 : Int32), iv (3 : Int32), iv (1 : Int32), iv c1] [(.int (255 : Int32)), (.int c1)]))
  refine own_go (XS.icmpYes X160.here hx rfl (pc0 := 20) (pc' := 26) rfl (hb hby d6_20) rfl (flt (show ¬ ((255 : Int32) < c1) from hg1)).2.2.2 (by decide) (by decide) (Steps.refl _)) ?_
  show own_Fin _ _ _ _ (T160.setTop (mkF m 26 #[rv a1, iv (1 : Int32), rv a3, iv (1 : Int32), iv (3 : Int32), iv (1 : Int32), iv c1] []))
  refine own_go (XS.aloadN X160.here hx rfl (hb hby d6_26) rfl rfl (Steps.refl _)) ?_
  show own_Fin _ _ _ _ (T160.setTop (mkF m 27 #[rv a1, iv (1 : Int32), rv a3, iv (1 : Int32), iv (3 : Int32), iv (1 : Int32), iv c1] [(.ref a3)]))
  refine own_go (XS.iloadN X160.here hx rfl (hb hby d6_27) rfl (Steps.refl _)) ?_
  show own_Fin _ _ _ _ (T160.setTop (mkF m 28 #[rv a1, iv (1 : Int32), rv a3, iv (1 : Int32), iv (3 : Int32), iv (1 : Int32), iv c1] [(.int (1 : Int32)), (.ref a3)]))
  refine own_go (XS.iload X160.here hx rfl (hb hby d6_28) rfl (Steps.refl _)) ?_
  show own_Fin _ _ _ _ (T160.setTop (mkF m 30 #[rv a1, iv (1 : Int32), rv a3, iv (1 : Int32), iv (3 : Int32), iv (1 : Int32), iv c1] [(.int c1), (.int (1 : Int32)), (.ref a3)]))
  refine own_go (XS.i2b X160.here hx rfl (hb hby d6_30) rfl (Steps.refl _)) ?_
  show own_Fin _ _ _ _ (T160.setTop (mkF m 31 #[rv a1, iv (1 : Int32), rv a3, iv (1 : Int32), iv (3 : Int32), iv (1 : Int32), iv c1] [(.int (c1.toInt8.toInt32)), (.int (1 : Int32)), (.ref a3)]))
  obtain ⟨cl162, Ar162, qa162, Sa162, Na162, Ha162, Ga162⟩ := id V_a3_160
  have hin162 : ¬ ((1 : Int32) < 0 ∨ cl162.slots.size ≤ ((1 : Int32)).toNatClampNeg) := inb_of Sa162 ⟨by decide, by decide⟩
  obtain ⟨T163, h163, X163, e163, W163, st163⟩ := stB X160 hx hZ e160 Ar162 (j := (1 : Int32)) hin162 (g := (mkF m 31 #[rv a1, iv (1 : Int32), rv a3, iv (1 : Int32), iv (3 : Int32), iv (1 : Int32), iv c1] [(.int (c1.toInt8.toInt32)), (.int (1 : Int32)), (.ref a3)])) rfl rfl (hb hby d6_31)
  refine own_by st163 ?_
  have V_a3_163 : Arv Z h163 a3 kb .byte (3 : Int32) [(.int (nar .byte (c0.toInt8.toInt32))), (.int (nar .byte (c1.toInt8.toInt32))), (.int (0 : Int32))] (.int (0 : Int32)) := Arv.set Ar162 qa162 Sa162 Na162 Ha162 Ga162 (fits_nar_byte (c1.toInt8.toInt32)) W163 1 rfl (Nat.le_of_ble_eq_true rfl)
  have V_a1_163 := V_a1_160.other W163 ne13
  have N163 := Fr.snoc X163 N160 g_a3
  have Z163 : n0 ≤ h163.size := Nat.le_trans Z160 (Keep.of_wr W163).1
  have K163 := K160.wr W163 (Or.inl (List.mem_of_getElem? (i := 0) rfl))
  show own_Fin _ _ _ _ (T163.setTop (mkF m 32 #[rv a1, iv (1 : Int32), rv a3, iv (1 : Int32), iv (3 : Int32), iv (1 : Int32), iv c1] []))
  refine own_go (XS.iinc X163.here hx rfl (hb hby d6_32) rfl rfl (Steps.refl _)) ?_
  show own_Fin _ _ _ _ (T163.setTop (mkF m 35 #[rv a1, iv (2 : Int32), rv a3, iv (1 : Int32), iv (3 : Int32), iv (1 : Int32), iv c1] []))
  refine own_go (XS.iinc X163.here hx rfl (hb hby d6_35) rfl rfl (Steps.refl _)) ?_
  show own_Fin _ _ _ _ (T163.setTop (mkF m 38 #[rv a1, iv (2 : Int32), rv a3, iv (2 : Int32), iv (3 : Int32), iv (1 : Int32), iv c1] []))
  refine own_go (XS.iinc X163.here hx rfl (hb hby d6_38) rfl rfl (Steps.refl _)) ?_
  show own_Fin _ _ _ _ (T163.setTop (mkF m 41 #[rv a1, iv (2 : Int32), rv a3, iv (2 : Int32), iv (3 : Int32), iv (2 : Int32), iv c1] []))
  refine own_go (XS.goto X163.here hx rfl (pc0 := 41) (pc' := 3) rfl (hb hby d6_41) (by decide) (by decide) (Steps.refl _)) ?_
  show own_Fin _ _ _ _ (T163.setTop (mkF m 3 #[rv a1, iv (2 : Int32), rv a3, iv (2 : Int32), iv (3 : Int32), iv (2 : Int32), iv c1] []))
  refine own_go (XS.iload X163.here hx rfl (hb hby d6_3) rfl (Steps.refl _)) ?_
  show own_Fin _ _ _ _ (T163.setTop (mkF m 5 #[rv a1, iv (2 : Int32), rv a3, iv (2 : Int32), iv (3 : Int32), iv (2 : Int32), iv c1] [(.int (2 : Int32))]))
  refine own_go (XS.iload X163.here hx rfl (hb hby d6_5) rfl (Steps.refl _)) ?_
  show own_Fin _ _ _ _ (T163.setTop (mkF m 7 #[rv a1, iv (2 : Int32), rv a3, iv (2 : Int32), iv (3 : Int32), iv (2 : Int32), iv c1] [(.int (3 : Int32)), (.int (2 : Int32))]))
  refine own_go (XS.icmpNo X163.here hx rfl (hb hby d6_7) rfl (tlt (by decide : (2 : Int32) < (3 : Int32))).2.1 (Steps.refl _)) ?_
  show own_Fin _ _ _ _ (T163.setTop (mkF m 10 #[rv a1, iv (2 : Int32), rv a3, iv (2 : Int32), iv (3 : Int32), iv (2 : Int32), iv c1] []))
  refine own_go (XS.aloadN X163.here hx rfl (hb hby d6_10) rfl rfl (Steps.refl _)) ?_
  show own_Fin _ _ _ _ (T163.setTop (mkF m 11 #[rv a1, iv (2 : Int32), rv a3, iv (2 : Int32), iv (3 : Int32), iv (2 : Int32), iv c1] [(.ref a1)]))
  refine own_go (XS.iloadN X163.here hx rfl (hb hby d6_11) rfl (Steps.refl _)) ?_
  show own_Fin _ _ _ _ (T163.setTop (mkF m 12 #[rv a1, iv (2 : Int32), rv a3, iv (2 : Int32), iv (3 : Int32), iv (2 : Int32), iv c1] [(.int (2 : Int32)), (.ref a1)]))
  obtain ⟨cl164, Ar164, qa164, Sa164, Na164, Ha164, Ga164⟩ := id V_a1_163
  have hin164 : ¬ ((2 : Int32) < 0 ∨ cl164.slots.size ≤ ((2 : Int32)).toNatClampNeg) := inb_of Sa164 ⟨by decide, by decide⟩
  have hat164 : cl164.slots[((2 : Int32)).toNatClampNeg]? = some (.int c2) := Has.at Ha164 hin164 rfl
  refine own_by (X163.caload hx (j := (2 : Int32)) (v := (.int c2)) (by rw [e163]; exact Ar164.1) (State.isArrayOf_alike hZ.alike Ar164.2.1) Ar164.2.2 hin164 hat164 (g := (mkF m 12 #[rv a1, iv (2 : Int32), rv a3, iv (2 : Int32), iv (3 : Int32), iv (2 : Int32), iv c1] [(.int (2 : Int32)), (.ref a1)])) rfl rfl (hb hby d6_12)) ?_
  show own_Fin _ _ _ _ (T163.setTop (mkF m 13 #[rv a1, iv (2 : Int32), rv a3, iv (2 : Int32), iv (3 : Int32), iv (2 : Int32), iv c1] [(.int c2)]))
  refine own_go (XS.istore X163.here hx rfl (hb hby d6_13) rfl rfl (Steps.refl _)) ?_
  show own_Fin _ _ _ _ (T163.setTop (mkF m 15 #[rv a1, iv (2 : Int32), rv a3, iv (2 : Int32), iv (3 : Int32), iv (2 : Int32), iv c2] []))
  refine own_go (XS.iload X163.here hx rfl (hb hby d6_15) rfl (Steps.refl _)) ?_
  show own_Fin _ _ _ _ (T163.setTop (mkF m 17 #[rv a1, iv (2 : Int32), rv a3, iv (2 : Int32), iv (3 : Int32), iv (2 : Int32), iv c2] [(.int c2)]))
  refine own_go (XS.sipush X163.here hx rfl (hb hby d6_17) (Steps.refl _)) ?_
  show own_Fin _ _ _ _ (T163.setTop (mkF m 20 #[rv a1, iv (2 : Int32), rv a3, iv (2 : Int32), iv (3 : Int32), iv (2 : Int32), iv c2] [(.int (255 : Int32)), (.int c2)]))
  refine own_go (XS.icmpNo X163.here hx rfl (hb hby d6_20) rfl (tlt (show (255 : Int32) < c2 from hg2)).2.2.2 (Steps.refl _)) ?_
  show own_Fin _ _ _ _ (T163.setTop (mkF m 23 #[rv a1, iv (2 : Int32), rv a3, iv (2 : Int32), iv (3 : Int32), iv (2 : Int32), iv c2] []))
  refine own_go (XS.iload X163.here hx rfl (hb hby d6_23) rfl (Steps.refl _)) ?_
  show own_Fin _ _ _ _ (T163.setTop (mkF m 25 #[rv a1, iv (2 : Int32), rv a3, iv (2 : Int32), iv (3 : Int32), iv (2 : Int32), iv c2] [(.int (2 : Int32))]))
  obtain ⟨fs165, hr165, hrun165, hended165, hW165, hsame165⟩ := X163.leave (v := some (.int (2 : Int32))) (fun h => by rw [Bd.returns] at h; cases h)
  refine own_done (own_retI X163 hx Bd.returns (hb hby d6_25) hr165) hrun165 hended165 ⟨_, _, rfl, ?_, ⟨_, rfl⟩, hW165, hsame165.mono (by decide) (by decide)⟩
  show Qcmu_3_2 Z a1 k a3 kb c0 c1 c2 h0 n0 _ T163.heap _
  rw [e163]
  exact ⟨rfl, N163, K163⟩
def own_ca (n c0 c1 c2 : Int32) : List Int32 := match n.toNatClampNeg with
  | 0 => []
  | 1 => [c0]
  | 2 => [c0, c1]
  | _ => [c0, c1, c2]
def own_lo (cs : List Int32) : List Int32 := cs.map fun c => nar .byte (c.toInt8.toInt32)
def own_u16 (cs : List Int32) : List Int32 := cs.flatMap fun c => [own_lb c, own_hb c]
def own_By (Z : State) (h : Heap) (b : Addr) (n : Int32) (cs : List Int32) (co : Int32) : Prop := ∃ k : ClassId, (co = 0 ∧ (∀ c ∈ cs, ¬ (255 : Int32) < c) ∧ Arv Z h b k .byte n (List.map Value.int (own_lo cs)) (.int (0 : Int32))) ∨ (co = 1 ∧ Arv Z h b k .byte (n + n) (List.map Value.int (own_u16 cs)) (.int (0 : Int32)))
def own_Str (Z : State) (h : Heap) (r : Addr) (n c0 c1 c2 : Int32) : Prop := Exa Z h r "java/lang/String" ∧ ∃ (v : Addr) (co : Int32), Fld Z h r "java/lang/String" "value" "[B" (.ref v) ∧ Fld Z h r "java/lang/String" "coder" "B" (.int co) ∧ own_By Z h v n (own_ca n c0 c1 c2) co
theorem own_Str.ext {Z : State} {h h' : Heap} {r : Addr} {n c0 c1 c2 : Int32} (S : own_Str Z h r n c0 c1 c2) (E : Ext h h') : own_Str Z h' r n c0 c1 c2 := by
  obtain ⟨e, v, co, f1, f2, k, q⟩ := S
  refine ⟨e.ext E, v, co, f1.ext E, f2.ext E, k, ?_⟩
  rcases q with ⟨q1, q2, q3⟩ | ⟨q1, q2⟩
  · exact Or.inl ⟨q1, q2, q3.ext E⟩
  · exact Or.inr ⟨q1, q2.ext E⟩
theorem own_extk {h h1 h2 : Heap} {a : Addr} (E : Ext h h1) (K : Keep h1 h2 [a]) (ha : h.size ≤ a) : Ext h h2 := ⟨Nat.le_trans E.1 K.1, fun x c q => K.2.1 x c (E.2 x c q) (by
  rw [List.mem_singleton]; intro e; subst e
  exact absurd (Array.getElem?_eq_some_iff.mp q).1 (Nat.not_lt.mpr ha))⟩
theorem own_all0 {c0 c1 c2 : Int32} : ∀ c ∈ own_ca 0 c0 c1 c2, ¬ (255 : Int32) < c := fun c hc => by
  have hc' : c ∈ ([] : List Int32) := hc
  simp at hc'
theorem own_all1 {c0 c1 c2 : Int32} (h0 : ¬ (255 : Int32) < c0) : ∀ c ∈ own_ca 1 c0 c1 c2, ¬ (255 : Int32) < c := fun c hc => by
  have hc' : c ∈ [c0] := hc
  simp only [List.mem_cons, List.not_mem_nil, or_false] at hc'
  subst hc'; exact h0
theorem own_all2 {c0 c1 c2 : Int32} (h0 : ¬ (255 : Int32) < c0) (h1 : ¬ (255 : Int32) < c1) : ∀ c ∈ own_ca 2 c0 c1 c2, ¬ (255 : Int32) < c := fun c hc => by
  have hc' : c ∈ [c0, c1] := hc
  simp only [List.mem_cons, List.not_mem_nil, or_false] at hc'
  rcases hc' with rfl | rfl <;> assumption
theorem own_all3 {c0 c1 c2 : Int32} (h0 : ¬ (255 : Int32) < c0) (h1 : ¬ (255 : Int32) < c1) (h2 : ¬ (255 : Int32) < c2) : ∀ c ∈ own_ca 3 c0 c1 c2, ¬ (255 : Int32) < c := fun c hc => by
  have hc' : c ∈ [c0, c1, c2] := hc
  simp only [List.mem_cons, List.not_mem_nil, or_false] at hc'
  rcases hc' with rfl | rfl | rfl <;> assumption
theorem d5_0 : decode jdk_52_method_16_code 0 = .ok (.iload_n 2, 1) := by decide +kernel
theorem d5_1 : decode jdk_52_method_16_code 1 = .ok (.newarray .byte, 2) := by decide +kernel
theorem d5_3 : decode jdk_52_method_16_code 3 = .ok (.astore_n 3, 1) := by decide +kernel
theorem d5_4 : decode jdk_52_method_16_code 4 = .ok (.aload_n 0, 1) := by decide +kernel
theorem d5_5 : decode jdk_52_method_16_code 5 = .ok (.iload_n 1, 1) := by decide +kernel
theorem d5_6 : decode jdk_52_method_16_code 6 = .ok (.aload_n 3, 1) := by decide +kernel
theorem d5_7 : decode jdk_52_method_16_code 7 = .ok (.iconst 0, 1) := by decide +kernel
theorem d5_8 : decode jdk_52_method_16_code 8 = .ok (.iload_n 2, 1) := by decide +kernel
theorem d5_9 : decode jdk_52_method_16_code 9 = .ok (.invokestatic 115, 3) := by decide +kernel
theorem d5_12 : decode jdk_52_method_16_code 12 = .ok (.istore 4, 2) := by decide +kernel
theorem d5_14 : decode jdk_52_method_16_code 14 = .ok (.iload 4, 2) := by decide +kernel
theorem d5_16 : decode jdk_52_method_16_code 16 = .ok (.iload_n 2, 1) := by decide +kernel
theorem d5_17 : decode jdk_52_method_16_code 17 = .ok (.if_icmp .eq 40, 3) := by decide +kernel
theorem d5_20 : decode jdk_52_method_16_code 20 = .ok (.aload_n 0, 1) := by decide +kernel
theorem d5_21 : decode jdk_52_method_16_code 21 = .ok (.iload_n 1, 1) := by decide +kernel
theorem d5_22 : decode jdk_52_method_16_code 22 = .ok (.iload_n 2, 1) := by decide +kernel
theorem d5_23 : decode jdk_52_method_16_code 23 = .ok (.invokestatic 119, 3) := by decide +kernel
theorem d5_26 : decode jdk_52_method_16_code 26 = .ok (.astore 5, 2) := by decide +kernel
theorem d5_28 : decode jdk_52_method_16_code 28 = .ok (.aload 5, 2) := by decide +kernel
theorem d5_30 : decode jdk_52_method_16_code 30 = .ok (.iload 4, 2) := by decide +kernel
theorem d5_32 : decode jdk_52_method_16_code 32 = .ok (.invokestatic 71, 3) := by decide +kernel
theorem d5_35 : decode jdk_52_method_16_code 35 = .ok (.sipush 255, 3) := by decide +kernel
theorem d5_38 : decode jdk_52_method_16_code 38 = .ok (.if_icmp .gt 16, 3) := by decide +kernel
theorem d5_41 : decode jdk_52_method_16_code 41 = .ok (.aload 5, 2) := by decide +kernel
theorem d5_43 : decode jdk_52_method_16_code 43 = .ok (.iconst 0, 1) := by decide +kernel
theorem d5_44 : decode jdk_52_method_16_code 44 = .ok (.aload_n 3, 1) := by decide +kernel
theorem d5_45 : decode jdk_52_method_16_code 45 = .ok (.iconst 0, 1) := by decide +kernel
theorem d5_46 : decode jdk_52_method_16_code 46 = .ok (.iload_n 2, 1) := by decide +kernel
theorem d5_47 : decode jdk_52_method_16_code 47 = .ok (.invokestatic 123, 3) := by decide +kernel
theorem d5_50 : decode jdk_52_method_16_code 50 = .ok (.iload_n 2, 1) := by decide +kernel
theorem d5_51 : decode jdk_52_method_16_code 51 = .ok (.if_icmp .eq 6, 3) := by decide +kernel
theorem d5_54 : decode jdk_52_method_16_code 54 = .ok (.aload 5, 2) := by decide +kernel
theorem d5_56 : decode jdk_52_method_16_code 56 = .ok (.areturn, 1) := by decide +kernel
theorem d5_57 : decode jdk_52_method_16_code 57 = .ok (.aload_n 3, 1) := by decide +kernel
theorem d5_58 : decode jdk_52_method_16_code 58 = .ok (.areturn, 1) := by decide +kernel
theorem ef_c3g (m : MethodId) (x0 : Addr) (x1 : Int32) (x2 : Int32) : entryFrame m #[(.ref x0), (.int x1), (.int x2)] 6 = mkF m 0 #[.val (.ref x0), .val (.int x1), .val (.int x2), .unset, .unset, .unset] [] := by first | (simp [entryFrame, mkF, argsToLocals, Value.category]; done) | rfl
def Qc3g (Z : State) (a1 : Addr) (k : ClassId) (n : Int32) (c0 : Int32) (c1 : Int32) (c2 : Int32) (h0 : Heap) (n0 : Nat) (v : Option Value) (h : Heap) (L : List Loc) : Prop := ∃ (b : Addr), v = some (.ref b) ∧ Fr n0 L ∧ Keep h0 h [] ∧ n0 ≤ b ∧ h0.size ≤ b ∧ (∃ co : Int32, own_By Z h b n (own_ca n c0 c1 c2) co)
abbrev Gc3g (Z : State) (a1 : Addr) (k : ClassId) (n : Int32) (c0 : Int32) (c1 : Int32) (c2 : Int32) (h0 : Heap) (n0 : Nat) (s : State) : Outcome → State → Prop := fun o U' => ∃ v L, o = .returned v ∧ Qc3g Z a1 k n c0 c1 c2 h0 n0 v U'.heap L ∧ FrameEnd s o U' L ({ frames := 3, cells := 2, slots := 9, locals := 64 } : Room).cells ({ frames := 3, cells := 2, slots := 9, locals := 64 } : Room).slots
theorem pd__28__5b_CI_5b_BII_29_I : parseMethodDescriptor "([CI[BII)I" = some ⟨[(.array .char), .int, (.array .byte), .int, .int], some .int⟩ := by decide +kernel
theorem pd__28__5b_CII_29__5b_B : parseMethodDescriptor "([CII)[B" = some ⟨[(.array .char), .int, .int], some (.array .byte)⟩ := by decide +kernel
theorem pd__28__5b_BI_29_C : parseMethodDescriptor "([BI)C" = some ⟨[(.array .byte), .int], some .char⟩ := by decide +kernel
set_option maxRecDepth 65536 in
set_option maxHeartbeats 40000000 in
theorem rmc3g (l : Launch) (Z : State) (a0 : Array Value) (hw : ∀ d ∈ tables_1, d.before a0 Z = true) (ws : List Jvm.Cond) (a1 : Addr) (k : ClassId) (n : Int32) (c0 : Int32) (c1 : Int32) (c2 : Int32) (h0 : Heap) (n0 : Nat) (Z0 : n0 ≤ h0.size) (V_a1 : Arv Z h0 a1 k .char n (List.map Value.int (own_ca n c0 c1 c2)) (.int (0 : Int32))) (hn : n = (1 : Int32) ∨ n = (2 : Int32) ∨ n = (3 : Int32)) (hr0 : own_ch c0) (hr1 : own_ch c1) (hr2 : own_ch c2) (O0 : Old Z n0 h0) (S__assertionsDisabled : Sta Z Z.heap "java/lang/StringUTF16" "$assertionsDisabled" "Z" (.int (1 : Int32))) (S_HI_BYTE_SHIFT : Sta Z Z.heap "java/lang/StringUTF16" "HI_BYTE_SHIFT" "I" (.int (0 : Int32))) (S_LO_BYTE_SHIFT : Sta Z Z.heap "java/lang/StringUTF16" "LO_BYTE_SHIFT" "I" (.int (8 : Int32))) :
    MetFree l (⟨"java/lang/StringUTF16", "compress", "([CII)[B"⟩ : MethodName) (head1 (Jvm.Cond.code (⟨"java/lang/StringUTF16", "compress", "([CII)[B"⟩ : MethodName) jdk_52_method_16_code 6 (some (.array .byte)) :: ws) ({ frames := 3, cells := 2, slots := 9, locals := 64 } : Room)) (fun a U => a = #[(.ref a1), (.int (0 : Int32)), (.int n)] ∧ Z.Warmed39 U.vm ∧ U.heap = h0) (fun _ _ _ _ _ => True) (fun _ U o U' => ∃ v L, o = .returned v ∧ Qc3g Z a1 k n c0 c1 c2 h0 n0 v U'.heap L ∧ FrameEnd U o U' L ({ frames := 3, cells := 2, slots := 9, locals := 64 } : Room).cells ({ frames := 3, cells := 2, slots := 9, locals := 64 } : Room).slots) := by
  refine MetFree.of_bodySF (plainFor_of_name pn_java_lang_StringUTF16) hisR ?_
  intro p e s m args below meth c s₁ Bd hml0 hP hK
  obtain ⟨rfl, hZ, hh⟩ := hP
  have hx := Bd.exec
  have hby := Bd.bytes
  have hml : c.maxLocals = 6 := hml0
  have hown : s.vm.findClass "java/lang/StringUTF16" = some m.cls := findClass_of_methodNamed Bd.named
  have hnm := (name_of_methodNamed Bd.named Bd.method).1
  have X0 : Stand p l e ({ frames := 3, cells := 2, slots := 9, locals := 64 } : Room) s m #[(.ref a1), (.int (0 : Int32)), (.int n)] below meth c s₁ [] 0 0 := Stand.of_body Bd
  have e0 : s₁.heap = h0 := by rw [← hh, Bd.state]; rfl
  have es0 : s.heap = h0 := hh
  have N0 := Fr.nil n0
  show own_Fin p e below (Gc3g Z a1 k n c0 c1 c2 h0 n0 s) (s₁.setTop (entryFrame m #[(.ref a1), (.int (0 : Int32)), (.int n)] 6))
  rw [ef_c3g m a1 (0 : Int32) n]
  have Kz := Keep.refl h0 []
  have hcs166 : n = (1 : Int32) ∨ n = (2 : Int32) ∨ n = (3 : Int32) := hn
  rcases hcs166 with rfl | rfl | rfl
  · show own_Fin _ _ _ _ (s₁.setTop (mkF m 0 #[rv a1, iv (0 : Int32), iv (1 : Int32), .unset, .unset, .unset] []))
    have V_a1L : Arv Z h0 a1 k .char (1 : Int32) [(.int c0)] (.int (0 : Int32)) := V_a1
    refine own_go (XS.iloadN X0.here hx rfl (hb hby d5_0) rfl (Steps.refl _)) ?_
    show own_Fin _ _ _ _ (s₁.setTop (mkF m 1 #[rv a1, iv (0 : Int32), iv (1 : Int32), .unset, .unset, .unset] [(.int (1 : Int32))]))
    obtain ⟨T167, h167, k167, X167, e167, E167, A167, st167⟩ := newP X0 hx hZ (hw _ (List.mem_of_getElem? (i := 23) rfl)) e0 (g := (mkF m 1 #[rv a1, iv (0 : Int32), iv (1 : Int32), .unset, .unset, .unset] [(.int (1 : Int32))])) rfl (hb hby d5_1) rfl (by decide) (cap := 1) (by decide) (by decide) (by decide) (by decide)
    obtain ⟨b167, g167⟩ : ∃ z, z = h0.size := ⟨_, rfl⟩
    rw [← g167] at A167 st167
    refine own_by st167 ?_
    have ne_a1_b167 : a1 ≠ b167 := Nat.ne_of_lt (Nat.lt_of_lt_of_eq V_a1L.lt g167.symm)
    have Od167 := O0.ext E167
    have V_a1L_167 := V_a1L.ext E167
    have g_b167 : n0 ≤ b167 := Nat.le_trans Z0 (Nat.le_of_eq g167.symm)
    have sz_b167 : h0.size ≤ b167 := Nat.le_trans Kz.1 (Nat.le_of_eq g167.symm)
    have K167 := Kz.ext E167
    have Z167 : n0 ≤ h167.size := Nat.le_trans Z0 E167.1
    have V_b167 : Arv Z h167 b167 k167 .byte (1 : Int32) [(.int (0 : Int32))] (.int (0 : Int32)) := (Arv.new A167 (by decide)).pad (pad_rep [] (.int (0 : Int32)) 1)
    show own_Fin _ _ _ _ (T167.setTop (mkF m 3 #[rv a1, iv (0 : Int32), iv (1 : Int32), .unset, .unset, .unset] [(.ref b167)]))
    refine own_go (XS.astoreN X167.here hx rfl (hb hby d5_3) rfl rfl rfl (Steps.refl _)) ?_
    show own_Fin _ _ _ _ (T167.setTop (mkF m 4 #[rv a1, iv (0 : Int32), iv (1 : Int32), rv b167, .unset, .unset] []))
    refine own_go (XS.aloadN X167.here hx rfl (hb hby d5_4) rfl rfl (Steps.refl _)) ?_
    show own_Fin _ _ _ _ (T167.setTop (mkF m 5 #[rv a1, iv (0 : Int32), iv (1 : Int32), rv b167, .unset, .unset] [(.ref a1)]))
    refine own_go (XS.iloadN X167.here hx rfl (hb hby d5_5) rfl (Steps.refl _)) ?_
    show own_Fin _ _ _ _ (T167.setTop (mkF m 6 #[rv a1, iv (0 : Int32), iv (1 : Int32), rv b167, .unset, .unset] [(.int (0 : Int32)), (.ref a1)]))
    refine own_go (XS.aloadN X167.here hx rfl (hb hby d5_6) rfl rfl (Steps.refl _)) ?_
    show own_Fin _ _ _ _ (T167.setTop (mkF m 7 #[rv a1, iv (0 : Int32), iv (1 : Int32), rv b167, .unset, .unset] [(.ref b167), (.int (0 : Int32)), (.ref a1)]))
    refine own_go (XS.iconst X167.here hx rfl (hb hby d5_7) (Steps.refl _)) ?_
    show own_Fin _ _ _ _ (T167.setTop (mkF m 8 #[rv a1, iv (0 : Int32), iv (1 : Int32), rv b167, .unset, .unset] [(.int (0 : Int32)), (.ref b167), (.int (0 : Int32)), (.ref a1)]))
    refine own_go (XS.iloadN X167.here hx rfl (hb hby d5_8) rfl (Steps.refl _)) ?_
    show own_Fin _ _ _ _ (T167.setTop (mkF m 9 #[rv a1, iv (0 : Int32), iv (1 : Int32), rv b167, .unset, .unset] [(.int (1 : Int32)), (.int (0 : Int32)), (.ref b167), (.int (0 : Int32)), (.ref a1)]))
    by_cases hg0 : (255 : Int32) < c0
    · show own_Fin _ _ _ _ (T167.setTop (mkF m 9 #[rv a1, iv (0 : Int32), iv (1 : Int32), rv b167, .unset, .unset] [(.int (1 : Int32)), (.int (0 : Int32)), (.ref b167), (.int (0 : Int32)), (.ref a1)]))
      obtain ⟨_, _, ⟨T168, L168, k168, n168⟩, -, X168, ⟨Lc168, hQ168, l168, y168, z168⟩, st168⟩ := Jvm.LawKit.callS X167 hx (y := (⟨"java/lang/StringUTF16", "compress", "([CI[BII)I"⟩ : MethodName)) hown (mvT hZ (hw _ (List.mem_of_getElem? (i := 24) rfl))) (mvT hZ (hw _ (List.mem_of_getElem? (i := 25) rfl))) (mvT hZ (hw _ (List.mem_of_getElem? (i := 21) rfl))) (mvT hZ (hw _ (List.mem_of_getElem? (i := 26) rfl))) (by decide) (backOf (W := 0) (rmcmu_1_0 l Z a0 hw [] a1 k b167 k167 c0 h167 n0 Z167 V_a1L_167 V_b167 g_b167 ne_a1_b167 hg0) hZ (hw _ (List.mem_of_getElem? (i := 26) rfl)) (hw _ (List.mem_of_getElem? (i := 21) rfl)) (by decide) (by decide)) (g := (mkF m 9 #[rv a1, iv (0 : Int32), iv (1 : Int32), rv b167, .unset, .unset] [(.int (1 : Int32)), (.int (0 : Int32)), (.ref b167), (.int (0 : Int32)), (.ref a1)])) rfl (by rw [hml]; rfl) (argsL := [(.ref a1), (.int (0 : Int32)), (.ref b167), (.int (0 : Int32)), (.int (1 : Int32))]) (rest := []) (lenOf pd__28__5b_CI_5b_BII_29_I rfl) rfl (by show 2 * 0 + _ ≤ _; exact Nat.le_of_eq rfl) (hb hby d5_9) (fun _ hv => ⟨rfl, e167, (by decide : 1 + 0 ≤ _), (by decide : 1 + 0 ≤ _)⟩)
      dsimp only [Pt.U, Pt.locs, Pt.cells, Pt.slots] at X168 l168 y168 z168 st168 hQ168
      subst l168 y168 z168
      refine own_by st168 ?_
      obtain ⟨rfl, Nq168, K168⟩ := hQ168
      have Od168 := Od167.keep K168 (allS g_b167 all0)
      have V_a1L_168 := V_a1L_167.keep K168 (ninS ne_a1_b167 nin0)
      have Z168 : n0 ≤ T168.heap.size := Nat.le_trans Z167 K168.1
      have Kt168 := K167.trans K168 (allS (P := fun x => x ∈ _ ∨ _ ≤ x) (Or.inr sz_b167) all0)
      have N168 := Fr.app N0 Nq168
      show own_Fin _ _ _ _ (T168.setTop (mkF m 12 #[rv a1, iv (0 : Int32), iv (1 : Int32), rv b167, .unset, .unset] [(.int (0 : Int32))]))
      refine own_go (XS.istore X168.here hx rfl (hb hby d5_12) rfl rfl (Steps.refl _)) ?_
      show own_Fin _ _ _ _ (T168.setTop (mkF m 14 #[rv a1, iv (0 : Int32), iv (1 : Int32), rv b167, iv (0 : Int32), .unset] []))
      refine own_go (XS.iload X168.here hx rfl (hb hby d5_14) rfl (Steps.refl _)) ?_
      show own_Fin _ _ _ _ (T168.setTop (mkF m 16 #[rv a1, iv (0 : Int32), iv (1 : Int32), rv b167, iv (0 : Int32), .unset] [(.int (0 : Int32))]))
      refine own_go (XS.iloadN X168.here hx rfl (hb hby d5_16) rfl (Steps.refl _)) ?_
      show own_Fin _ _ _ _ (T168.setTop (mkF m 17 #[rv a1, iv (0 : Int32), iv (1 : Int32), rv b167, iv (0 : Int32), .unset] [(.int (1 : Int32)), (.int (0 : Int32))]))
      refine own_go (XS.icmpNo X168.here hx rfl (hb hby d5_17) rfl (feq (by decide : ¬ ((0 : Int32) = (1 : Int32)))).1 (Steps.refl _)) ?_
      show own_Fin _ _ _ _ (T168.setTop (mkF m 20 #[rv a1, iv (0 : Int32), iv (1 : Int32), rv b167, iv (0 : Int32), .unset] []))
      refine own_go (XS.aloadN X168.here hx rfl (hb hby d5_20) rfl rfl (Steps.refl _)) ?_
      show own_Fin _ _ _ _ (T168.setTop (mkF m 21 #[rv a1, iv (0 : Int32), iv (1 : Int32), rv b167, iv (0 : Int32), .unset] [(.ref a1)]))
      refine own_go (XS.iloadN X168.here hx rfl (hb hby d5_21) rfl (Steps.refl _)) ?_
      show own_Fin _ _ _ _ (T168.setTop (mkF m 22 #[rv a1, iv (0 : Int32), iv (1 : Int32), rv b167, iv (0 : Int32), .unset] [(.int (0 : Int32)), (.ref a1)]))
      refine own_go (XS.iloadN X168.here hx rfl (hb hby d5_22) rfl (Steps.refl _)) ?_
      show own_Fin _ _ _ _ (T168.setTop (mkF m 23 #[rv a1, iv (0 : Int32), iv (1 : Int32), rv b167, iv (0 : Int32), .unset] [(.int (1 : Int32)), (.int (0 : Int32)), (.ref a1)]))
      obtain ⟨_, _, ⟨T169, L169, k169, n169⟩, -, X169, ⟨Lc169, hQ169, l169, y169, z169⟩, st169⟩ := Jvm.LawKit.callS X168 hx (y := (⟨"java/lang/StringUTF16", "toBytes", "([CII)[B"⟩ : MethodName)) hown (mvT hZ (hw _ (List.mem_of_getElem? (i := 79) rfl))) (mvT hZ (hw _ (List.mem_of_getElem? (i := 80) rfl))) (mvT hZ (hw _ (List.mem_of_getElem? (i := 21) rfl))) (mvT hZ (hw _ (List.mem_of_getElem? (i := 81) rfl))) (by decide) (backOf (W := 0) (rmtb_1 l Z a0 hw [] a1 k c0 T168.heap n0 Z168 V_a1L_168 Od168 S__assertionsDisabled S_HI_BYTE_SHIFT S_LO_BYTE_SHIFT) hZ (hw _ (List.mem_of_getElem? (i := 81) rfl)) (hw _ (List.mem_of_getElem? (i := 21) rfl)) (by decide) (by decide)) (g := (mkF m 23 #[rv a1, iv (0 : Int32), iv (1 : Int32), rv b167, iv (0 : Int32), .unset] [(.int (1 : Int32)), (.int (0 : Int32)), (.ref a1)])) rfl (by rw [hml]; rfl) (argsL := [(.ref a1), (.int (0 : Int32)), (.int (1 : Int32))]) (rest := []) (lenOf pd__28__5b_CII_29__5b_B rfl) rfl (by show 2 * 0 + _ ≤ _; exact Nat.le_of_eq rfl) (hb hby d5_23) (fun _ hv => ⟨rfl, rfl, (by decide : 1 + 1 ≤ _), (by decide : 1 + 2 ≤ _)⟩)
      dsimp only [Pt.U, Pt.locs, Pt.cells, Pt.slots] at X169 l169 y169 z169 st169 hQ169
      subst l169 y169 z169
      refine own_by st169 ?_
      obtain ⟨b_169, kb_169, rfl, Nq169, K169, g_b_169, sb_b_169, r169_0⟩ := hQ169
      have ne_a1_b_169 : a1 ≠ b_169 := Nat.ne_of_lt (Nat.lt_of_lt_of_le V_a1L_168.lt sb_b_169)
      have sz_b_169 : h0.size ≤ b_169 := Nat.le_trans Kt168.1 sb_b_169
      have Od169 := Od168.keep K169 all0
      have V_a1L_169 := V_a1L_168.keep K169 nin0
      have Z169 : n0 ≤ T169.heap.size := Nat.le_trans Z168 K169.1
      have Kt169 := Kt168.trans K169 all0
      have N169 := Fr.app N168 Nq169
      show own_Fin _ _ _ _ (T169.setTop (mkF m 26 #[rv a1, iv (0 : Int32), iv (1 : Int32), rv b167, iv (0 : Int32), .unset] [(.ref b_169)]))
      refine own_go (XS.astore X169.here hx rfl (hb hby d5_26) rfl rfl rfl (Steps.refl _)) ?_
      show own_Fin _ _ _ _ (T169.setTop (mkF m 28 #[rv a1, iv (0 : Int32), iv (1 : Int32), rv b167, iv (0 : Int32), rv b_169] []))
      refine own_go (XS.aload X169.here hx rfl (hb hby d5_28) rfl rfl (Steps.refl _)) ?_
      show own_Fin _ _ _ _ (T169.setTop (mkF m 30 #[rv a1, iv (0 : Int32), iv (1 : Int32), rv b167, iv (0 : Int32), rv b_169] [(.ref b_169)]))
      refine own_go (XS.iload X169.here hx rfl (hb hby d5_30) rfl (Steps.refl _)) ?_
      show own_Fin _ _ _ _ (T169.setTop (mkF m 32 #[rv a1, iv (0 : Int32), iv (1 : Int32), rv b167, iv (0 : Int32), rv b_169] [(.int (0 : Int32)), (.ref b_169)]))
      obtain ⟨_, _, ⟨T170, L170, k170, n170⟩, -, X170, ⟨Lc170, hQ170, l170, y170, z170⟩, st170⟩ := Jvm.LawKit.callS X169 hx (y := (⟨"java/lang/StringUTF16", "getChar", "([BI)C"⟩ : MethodName)) hown (mvT hZ (hw _ (List.mem_of_getElem? (i := 95) rfl))) (mvT hZ (hw _ (List.mem_of_getElem? (i := 96) rfl))) (mvT hZ (hw _ (List.mem_of_getElem? (i := 21) rfl))) (mvT hZ (hw _ (List.mem_of_getElem? (i := 97) rfl))) (by decide) (backOf (W := 0) (rmgc_1_0 l Z a0 hw [] b_169 kb_169 c0 T169.heap n0 Z169 r169_0 hr0 Od169 S__assertionsDisabled S_HI_BYTE_SHIFT S_LO_BYTE_SHIFT) hZ (hw _ (List.mem_of_getElem? (i := 97) rfl)) (hw _ (List.mem_of_getElem? (i := 21) rfl)) (by decide) (by decide)) (g := (mkF m 32 #[rv a1, iv (0 : Int32), iv (1 : Int32), rv b167, iv (0 : Int32), rv b_169] [(.int (0 : Int32)), (.ref b_169)])) rfl (by rw [hml]; rfl) (argsL := [(.ref b_169), (.int (0 : Int32))]) (rest := []) (lenOf pd__28__5b_BI_29_C rfl) rfl (by show 2 * 0 + _ ≤ _; exact Nat.le_of_eq rfl) (hb hby d5_32) (fun _ hv => ⟨rfl, rfl, (by decide : 2 + 0 ≤ _), (by decide : 3 + 0 ≤ _)⟩)
      dsimp only [Pt.U, Pt.locs, Pt.cells, Pt.slots] at X170 l170 y170 z170 st170 hQ170
      subst l170 y170 z170
      obtain ⟨rfl, Nq170, e170⟩ := hQ170
      refine own_by st170 ?_
      have N170 := Fr.app N169 Nq170
      show own_Fin _ _ _ _ (T170.setTop (mkF m 35 #[rv a1, iv (0 : Int32), iv (1 : Int32), rv b167, iv (0 : Int32), rv b_169] [(.int c0)]))
      refine own_go (XS.sipush X170.here hx rfl (hb hby d5_35) (Steps.refl _)) ?_
      show own_Fin _ _ _ _ (T170.setTop (mkF m 38 #[rv a1, iv (0 : Int32), iv (1 : Int32), rv b167, iv (0 : Int32), rv b_169] [(.int (255 : Int32)), (.int c0)]))
      refine own_go (XS.icmpYes X170.here hx rfl (pc0 := 38) (pc' := 54) rfl (hb hby d5_38) rfl (tlt (show (255 : Int32) < c0 from hg0)).2.2.1 (by decide) (by decide) (Steps.refl _)) ?_
      show own_Fin _ _ _ _ (T170.setTop (mkF m 54 #[rv a1, iv (0 : Int32), iv (1 : Int32), rv b167, iv (0 : Int32), rv b_169] []))
      refine own_go (XS.aload X170.here hx rfl (hb hby d5_54) rfl rfl (Steps.refl _)) ?_
      show own_Fin _ _ _ _ (T170.setTop (mkF m 56 #[rv a1, iv (0 : Int32), iv (1 : Int32), rv b167, iv (0 : Int32), rv b_169] [(.ref b_169)]))
      obtain ⟨fs171, hr171, hrun171, hended171, hW171, hsame171⟩ := X170.leave (v := some (.ref b_169)) (fun h => by rw [Bd.returns] at h; cases h)
      refine own_done (retOut X170 hx Bd.returns rfl (Or.inr (Or.inr (Or.inr (Or.inr ⟨rfl, rfl, rfl⟩)))) (hb hby d5_56) hr171) hrun171 hended171 ⟨_, _, rfl, ?_, ⟨_, rfl⟩, hW171, hsame171.mono (by decide) (by decide)⟩
      show Qc3g Z a1 k (1 : Int32) c0 c1 c2 h0 n0 _ T170.heap _
      rw [e170]
      exact ⟨b_169, rfl, N170, Kt169, g_b_169, sz_b_169, ⟨1, kb_169, Or.inr ⟨rfl, r169_0⟩⟩⟩
    · show own_Fin _ _ _ _ (T167.setTop (mkF m 9 #[rv a1, iv (0 : Int32), iv (1 : Int32), rv b167, .unset, .unset] [(.int (1 : Int32)), (.int (0 : Int32)), (.ref b167), (.int (0 : Int32)), (.ref a1)]))
      obtain ⟨_, _, ⟨T172, L172, k172, n172⟩, -, X172, ⟨Lc172, hQ172, l172, y172, z172⟩, st172⟩ := Jvm.LawKit.callS X167 hx (y := (⟨"java/lang/StringUTF16", "compress", "([CI[BII)I"⟩ : MethodName)) hown (mvT hZ (hw _ (List.mem_of_getElem? (i := 24) rfl))) (mvT hZ (hw _ (List.mem_of_getElem? (i := 25) rfl))) (mvT hZ (hw _ (List.mem_of_getElem? (i := 21) rfl))) (mvT hZ (hw _ (List.mem_of_getElem? (i := 26) rfl))) (by decide) (backOf (W := 0) (rmcm_1 l Z a0 hw [] a1 k c0 b167 k167 h167 n0 Z167 V_a1L_167 V_b167 g_b167 ne_a1_b167 hg0) hZ (hw _ (List.mem_of_getElem? (i := 26) rfl)) (hw _ (List.mem_of_getElem? (i := 21) rfl)) (by decide) (by decide)) (g := (mkF m 9 #[rv a1, iv (0 : Int32), iv (1 : Int32), rv b167, .unset, .unset] [(.int (1 : Int32)), (.int (0 : Int32)), (.ref b167), (.int (0 : Int32)), (.ref a1)])) rfl (by rw [hml]; rfl) (argsL := [(.ref a1), (.int (0 : Int32)), (.ref b167), (.int (0 : Int32)), (.int (1 : Int32))]) (rest := []) (lenOf pd__28__5b_CI_5b_BII_29_I rfl) rfl (by show 2 * 0 + _ ≤ _; exact Nat.le_of_eq rfl) (hb hby d5_9) (fun _ hv => ⟨rfl, e167, (by decide : 1 + 0 ≤ _), (by decide : 1 + 0 ≤ _)⟩)
      dsimp only [Pt.U, Pt.locs, Pt.cells, Pt.slots] at X172 l172 y172 z172 st172 hQ172
      subst l172 y172 z172
      refine own_by st172 ?_
      obtain ⟨rfl, Nq172, K172, r172_0⟩ := hQ172
      have Od172 := Od167.keep K172 (allS g_b167 all0)
      have V_a1L_172 := V_a1L_167.keep K172 (ninS ne_a1_b167 nin0)
      have Z172 : n0 ≤ T172.heap.size := Nat.le_trans Z167 K172.1
      have Kt172 := K167.trans K172 (allS (P := fun x => x ∈ _ ∨ _ ≤ x) (Or.inr sz_b167) all0)
      have N172 := Fr.app N0 Nq172
      show own_Fin _ _ _ _ (T172.setTop (mkF m 12 #[rv a1, iv (0 : Int32), iv (1 : Int32), rv b167, .unset, .unset] [(.int (1 : Int32))]))
      refine own_go (XS.istore X172.here hx rfl (hb hby d5_12) rfl rfl (Steps.refl _)) ?_
      show own_Fin _ _ _ _ (T172.setTop (mkF m 14 #[rv a1, iv (0 : Int32), iv (1 : Int32), rv b167, iv (1 : Int32), .unset] []))
      refine own_go (XS.iload X172.here hx rfl (hb hby d5_14) rfl (Steps.refl _)) ?_
      show own_Fin _ _ _ _ (T172.setTop (mkF m 16 #[rv a1, iv (0 : Int32), iv (1 : Int32), rv b167, iv (1 : Int32), .unset] [(.int (1 : Int32))]))
      refine own_go (XS.iloadN X172.here hx rfl (hb hby d5_16) rfl (Steps.refl _)) ?_
      show own_Fin _ _ _ _ (T172.setTop (mkF m 17 #[rv a1, iv (0 : Int32), iv (1 : Int32), rv b167, iv (1 : Int32), .unset] [(.int (1 : Int32)), (.int (1 : Int32))]))
      refine own_go (XS.icmpYes X172.here hx rfl (pc0 := 17) (pc' := 57) rfl (hb hby d5_17) rfl (teq (by decide : (1 : Int32) = (1 : Int32))).1 (by decide) (by decide) (Steps.refl _)) ?_
      show own_Fin _ _ _ _ (T172.setTop (mkF m 57 #[rv a1, iv (0 : Int32), iv (1 : Int32), rv b167, iv (1 : Int32), .unset] []))
      refine own_go (XS.aloadN X172.here hx rfl (hb hby d5_57) rfl rfl (Steps.refl _)) ?_
      show own_Fin _ _ _ _ (T172.setTop (mkF m 58 #[rv a1, iv (0 : Int32), iv (1 : Int32), rv b167, iv (1 : Int32), .unset] [(.ref b167)]))
      obtain ⟨fs173, hr173, hrun173, hended173, hW173, hsame173⟩ := X172.leave (v := some (.ref b167)) (fun h => by rw [Bd.returns] at h; cases h)
      refine own_done (retOut X172 hx Bd.returns rfl (Or.inr (Or.inr (Or.inr (Or.inr ⟨rfl, rfl, rfl⟩)))) (hb hby d5_58) hr173) hrun173 hended173 ⟨_, _, rfl, ?_, ⟨_, rfl⟩, hW173, hsame173.mono (by decide) (by decide)⟩
      show Qc3g Z a1 k (1 : Int32) c0 c1 c2 h0 n0 _ T172.heap _
      exact ⟨b167, rfl, N172, Kt172, g_b167, sz_b167, ⟨0, k167, Or.inl ⟨rfl, own_all1 hg0, r172_0⟩⟩⟩
  · show own_Fin _ _ _ _ (s₁.setTop (mkF m 0 #[rv a1, iv (0 : Int32), iv (2 : Int32), .unset, .unset, .unset] []))
    have V_a1L : Arv Z h0 a1 k .char (2 : Int32) [(.int c0), (.int c1)] (.int (0 : Int32)) := V_a1
    refine own_go (XS.iloadN X0.here hx rfl (hb hby d5_0) rfl (Steps.refl _)) ?_
    show own_Fin _ _ _ _ (s₁.setTop (mkF m 1 #[rv a1, iv (0 : Int32), iv (2 : Int32), .unset, .unset, .unset] [(.int (2 : Int32))]))
    obtain ⟨T174, h174, k174, X174, e174, E174, A174, st174⟩ := newP X0 hx hZ (hw _ (List.mem_of_getElem? (i := 23) rfl)) e0 (g := (mkF m 1 #[rv a1, iv (0 : Int32), iv (2 : Int32), .unset, .unset, .unset] [(.int (2 : Int32))])) rfl (hb hby d5_1) rfl (by decide) (cap := 2) (by decide) (by decide) (by decide) (by decide)
    obtain ⟨b174, g174⟩ : ∃ z, z = h0.size := ⟨_, rfl⟩
    rw [← g174] at A174 st174
    refine own_by st174 ?_
    have ne_a1_b174 : a1 ≠ b174 := Nat.ne_of_lt (Nat.lt_of_lt_of_eq V_a1L.lt g174.symm)
    have Od174 := O0.ext E174
    have V_a1L_174 := V_a1L.ext E174
    have g_b174 : n0 ≤ b174 := Nat.le_trans Z0 (Nat.le_of_eq g174.symm)
    have sz_b174 : h0.size ≤ b174 := Nat.le_trans Kz.1 (Nat.le_of_eq g174.symm)
    have K174 := Kz.ext E174
    have Z174 : n0 ≤ h174.size := Nat.le_trans Z0 E174.1
    have V_b174 : Arv Z h174 b174 k174 .byte (2 : Int32) [(.int (0 : Int32)), (.int (0 : Int32))] (.int (0 : Int32)) := (Arv.new A174 (by decide)).pad (pad_rep [] (.int (0 : Int32)) 2)
    show own_Fin _ _ _ _ (T174.setTop (mkF m 3 #[rv a1, iv (0 : Int32), iv (2 : Int32), .unset, .unset, .unset] [(.ref b174)]))
    refine own_go (XS.astoreN X174.here hx rfl (hb hby d5_3) rfl rfl rfl (Steps.refl _)) ?_
    show own_Fin _ _ _ _ (T174.setTop (mkF m 4 #[rv a1, iv (0 : Int32), iv (2 : Int32), rv b174, .unset, .unset] []))
    refine own_go (XS.aloadN X174.here hx rfl (hb hby d5_4) rfl rfl (Steps.refl _)) ?_
    show own_Fin _ _ _ _ (T174.setTop (mkF m 5 #[rv a1, iv (0 : Int32), iv (2 : Int32), rv b174, .unset, .unset] [(.ref a1)]))
    refine own_go (XS.iloadN X174.here hx rfl (hb hby d5_5) rfl (Steps.refl _)) ?_
    show own_Fin _ _ _ _ (T174.setTop (mkF m 6 #[rv a1, iv (0 : Int32), iv (2 : Int32), rv b174, .unset, .unset] [(.int (0 : Int32)), (.ref a1)]))
    refine own_go (XS.aloadN X174.here hx rfl (hb hby d5_6) rfl rfl (Steps.refl _)) ?_
    show own_Fin _ _ _ _ (T174.setTop (mkF m 7 #[rv a1, iv (0 : Int32), iv (2 : Int32), rv b174, .unset, .unset] [(.ref b174), (.int (0 : Int32)), (.ref a1)]))
    refine own_go (XS.iconst X174.here hx rfl (hb hby d5_7) (Steps.refl _)) ?_
    show own_Fin _ _ _ _ (T174.setTop (mkF m 8 #[rv a1, iv (0 : Int32), iv (2 : Int32), rv b174, .unset, .unset] [(.int (0 : Int32)), (.ref b174), (.int (0 : Int32)), (.ref a1)]))
    refine own_go (XS.iloadN X174.here hx rfl (hb hby d5_8) rfl (Steps.refl _)) ?_
    show own_Fin _ _ _ _ (T174.setTop (mkF m 9 #[rv a1, iv (0 : Int32), iv (2 : Int32), rv b174, .unset, .unset] [(.int (2 : Int32)), (.int (0 : Int32)), (.ref b174), (.int (0 : Int32)), (.ref a1)]))
    by_cases hg0 : (255 : Int32) < c0
    · show own_Fin _ _ _ _ (T174.setTop (mkF m 9 #[rv a1, iv (0 : Int32), iv (2 : Int32), rv b174, .unset, .unset] [(.int (2 : Int32)), (.int (0 : Int32)), (.ref b174), (.int (0 : Int32)), (.ref a1)]))
      obtain ⟨_, _, ⟨T175, L175, k175, n175⟩, -, X175, ⟨Lc175, hQ175, l175, y175, z175⟩, st175⟩ := Jvm.LawKit.callS X174 hx (y := (⟨"java/lang/StringUTF16", "compress", "([CI[BII)I"⟩ : MethodName)) hown (mvT hZ (hw _ (List.mem_of_getElem? (i := 24) rfl))) (mvT hZ (hw _ (List.mem_of_getElem? (i := 25) rfl))) (mvT hZ (hw _ (List.mem_of_getElem? (i := 21) rfl))) (mvT hZ (hw _ (List.mem_of_getElem? (i := 26) rfl))) (by decide) (backOf (W := 0) (rmcmu_2_0 l Z a0 hw [] a1 k b174 k174 c0 c1 h174 n0 Z174 V_a1L_174 V_b174 g_b174 ne_a1_b174 hg0) hZ (hw _ (List.mem_of_getElem? (i := 26) rfl)) (hw _ (List.mem_of_getElem? (i := 21) rfl)) (by decide) (by decide)) (g := (mkF m 9 #[rv a1, iv (0 : Int32), iv (2 : Int32), rv b174, .unset, .unset] [(.int (2 : Int32)), (.int (0 : Int32)), (.ref b174), (.int (0 : Int32)), (.ref a1)])) rfl (by rw [hml]; rfl) (argsL := [(.ref a1), (.int (0 : Int32)), (.ref b174), (.int (0 : Int32)), (.int (2 : Int32))]) (rest := []) (lenOf pd__28__5b_CI_5b_BII_29_I rfl) rfl (by show 2 * 0 + _ ≤ _; exact Nat.le_of_eq rfl) (hb hby d5_9) (fun _ hv => ⟨rfl, e174, (by decide : 1 + 0 ≤ _), (by decide : 2 + 0 ≤ _)⟩)
      dsimp only [Pt.U, Pt.locs, Pt.cells, Pt.slots] at X175 l175 y175 z175 st175 hQ175
      subst l175 y175 z175
      refine own_by st175 ?_
      obtain ⟨rfl, Nq175, K175⟩ := hQ175
      have Od175 := Od174.keep K175 (allS g_b174 all0)
      have V_a1L_175 := V_a1L_174.keep K175 (ninS ne_a1_b174 nin0)
      have Z175 : n0 ≤ T175.heap.size := Nat.le_trans Z174 K175.1
      have Kt175 := K174.trans K175 (allS (P := fun x => x ∈ _ ∨ _ ≤ x) (Or.inr sz_b174) all0)
      have N175 := Fr.app N0 Nq175
      show own_Fin _ _ _ _ (T175.setTop (mkF m 12 #[rv a1, iv (0 : Int32), iv (2 : Int32), rv b174, .unset, .unset] [(.int (0 : Int32))]))
      refine own_go (XS.istore X175.here hx rfl (hb hby d5_12) rfl rfl (Steps.refl _)) ?_
      show own_Fin _ _ _ _ (T175.setTop (mkF m 14 #[rv a1, iv (0 : Int32), iv (2 : Int32), rv b174, iv (0 : Int32), .unset] []))
      refine own_go (XS.iload X175.here hx rfl (hb hby d5_14) rfl (Steps.refl _)) ?_
      show own_Fin _ _ _ _ (T175.setTop (mkF m 16 #[rv a1, iv (0 : Int32), iv (2 : Int32), rv b174, iv (0 : Int32), .unset] [(.int (0 : Int32))]))
      refine own_go (XS.iloadN X175.here hx rfl (hb hby d5_16) rfl (Steps.refl _)) ?_
      show own_Fin _ _ _ _ (T175.setTop (mkF m 17 #[rv a1, iv (0 : Int32), iv (2 : Int32), rv b174, iv (0 : Int32), .unset] [(.int (2 : Int32)), (.int (0 : Int32))]))
      refine own_go (XS.icmpNo X175.here hx rfl (hb hby d5_17) rfl (feq (by decide : ¬ ((0 : Int32) = (2 : Int32)))).1 (Steps.refl _)) ?_
      show own_Fin _ _ _ _ (T175.setTop (mkF m 20 #[rv a1, iv (0 : Int32), iv (2 : Int32), rv b174, iv (0 : Int32), .unset] []))
      refine own_go (XS.aloadN X175.here hx rfl (hb hby d5_20) rfl rfl (Steps.refl _)) ?_
      show own_Fin _ _ _ _ (T175.setTop (mkF m 21 #[rv a1, iv (0 : Int32), iv (2 : Int32), rv b174, iv (0 : Int32), .unset] [(.ref a1)]))
      refine own_go (XS.iloadN X175.here hx rfl (hb hby d5_21) rfl (Steps.refl _)) ?_
      show own_Fin _ _ _ _ (T175.setTop (mkF m 22 #[rv a1, iv (0 : Int32), iv (2 : Int32), rv b174, iv (0 : Int32), .unset] [(.int (0 : Int32)), (.ref a1)]))
      refine own_go (XS.iloadN X175.here hx rfl (hb hby d5_22) rfl (Steps.refl _)) ?_
      show own_Fin _ _ _ _ (T175.setTop (mkF m 23 #[rv a1, iv (0 : Int32), iv (2 : Int32), rv b174, iv (0 : Int32), .unset] [(.int (2 : Int32)), (.int (0 : Int32)), (.ref a1)]))
      obtain ⟨_, _, ⟨T176, L176, k176, n176⟩, -, X176, ⟨Lc176, hQ176, l176, y176, z176⟩, st176⟩ := Jvm.LawKit.callS X175 hx (y := (⟨"java/lang/StringUTF16", "toBytes", "([CII)[B"⟩ : MethodName)) hown (mvT hZ (hw _ (List.mem_of_getElem? (i := 79) rfl))) (mvT hZ (hw _ (List.mem_of_getElem? (i := 80) rfl))) (mvT hZ (hw _ (List.mem_of_getElem? (i := 21) rfl))) (mvT hZ (hw _ (List.mem_of_getElem? (i := 81) rfl))) (by decide) (backOf (W := 0) (rmtb_2 l Z a0 hw [] a1 k c0 c1 T175.heap n0 Z175 V_a1L_175 Od175 S__assertionsDisabled S_HI_BYTE_SHIFT S_LO_BYTE_SHIFT) hZ (hw _ (List.mem_of_getElem? (i := 81) rfl)) (hw _ (List.mem_of_getElem? (i := 21) rfl)) (by decide) (by decide)) (g := (mkF m 23 #[rv a1, iv (0 : Int32), iv (2 : Int32), rv b174, iv (0 : Int32), .unset] [(.int (2 : Int32)), (.int (0 : Int32)), (.ref a1)])) rfl (by rw [hml]; rfl) (argsL := [(.ref a1), (.int (0 : Int32)), (.int (2 : Int32))]) (rest := []) (lenOf pd__28__5b_CII_29__5b_B rfl) rfl (by show 2 * 0 + _ ≤ _; exact Nat.le_of_eq rfl) (hb hby d5_23) (fun _ hv => ⟨rfl, rfl, (by decide : 1 + 1 ≤ _), (by decide : 2 + 4 ≤ _)⟩)
      dsimp only [Pt.U, Pt.locs, Pt.cells, Pt.slots] at X176 l176 y176 z176 st176 hQ176
      subst l176 y176 z176
      refine own_by st176 ?_
      obtain ⟨b_176, kb_176, rfl, Nq176, K176, g_b_176, sb_b_176, r176_0⟩ := hQ176
      have ne_a1_b_176 : a1 ≠ b_176 := Nat.ne_of_lt (Nat.lt_of_lt_of_le V_a1L_175.lt sb_b_176)
      have sz_b_176 : h0.size ≤ b_176 := Nat.le_trans Kt175.1 sb_b_176
      have Od176 := Od175.keep K176 all0
      have V_a1L_176 := V_a1L_175.keep K176 nin0
      have Z176 : n0 ≤ T176.heap.size := Nat.le_trans Z175 K176.1
      have Kt176 := Kt175.trans K176 all0
      have N176 := Fr.app N175 Nq176
      show own_Fin _ _ _ _ (T176.setTop (mkF m 26 #[rv a1, iv (0 : Int32), iv (2 : Int32), rv b174, iv (0 : Int32), .unset] [(.ref b_176)]))
      refine own_go (XS.astore X176.here hx rfl (hb hby d5_26) rfl rfl rfl (Steps.refl _)) ?_
      show own_Fin _ _ _ _ (T176.setTop (mkF m 28 #[rv a1, iv (0 : Int32), iv (2 : Int32), rv b174, iv (0 : Int32), rv b_176] []))
      refine own_go (XS.aload X176.here hx rfl (hb hby d5_28) rfl rfl (Steps.refl _)) ?_
      show own_Fin _ _ _ _ (T176.setTop (mkF m 30 #[rv a1, iv (0 : Int32), iv (2 : Int32), rv b174, iv (0 : Int32), rv b_176] [(.ref b_176)]))
      refine own_go (XS.iload X176.here hx rfl (hb hby d5_30) rfl (Steps.refl _)) ?_
      show own_Fin _ _ _ _ (T176.setTop (mkF m 32 #[rv a1, iv (0 : Int32), iv (2 : Int32), rv b174, iv (0 : Int32), rv b_176] [(.int (0 : Int32)), (.ref b_176)]))
      obtain ⟨_, _, ⟨T177, L177, k177, n177⟩, -, X177, ⟨Lc177, hQ177, l177, y177, z177⟩, st177⟩ := Jvm.LawKit.callS X176 hx (y := (⟨"java/lang/StringUTF16", "getChar", "([BI)C"⟩ : MethodName)) hown (mvT hZ (hw _ (List.mem_of_getElem? (i := 95) rfl))) (mvT hZ (hw _ (List.mem_of_getElem? (i := 96) rfl))) (mvT hZ (hw _ (List.mem_of_getElem? (i := 21) rfl))) (mvT hZ (hw _ (List.mem_of_getElem? (i := 97) rfl))) (by decide) (backOf (W := 0) (rmgc_2_0 l Z a0 hw [] b_176 kb_176 c0 c1 T176.heap n0 Z176 r176_0 hr0 Od176 S__assertionsDisabled S_HI_BYTE_SHIFT S_LO_BYTE_SHIFT) hZ (hw _ (List.mem_of_getElem? (i := 97) rfl)) (hw _ (List.mem_of_getElem? (i := 21) rfl)) (by decide) (by decide)) (g := (mkF m 32 #[rv a1, iv (0 : Int32), iv (2 : Int32), rv b174, iv (0 : Int32), rv b_176] [(.int (0 : Int32)), (.ref b_176)])) rfl (by rw [hml]; rfl) (argsL := [(.ref b_176), (.int (0 : Int32))]) (rest := []) (lenOf pd__28__5b_BI_29_C rfl) rfl (by show 2 * 0 + _ ≤ _; exact Nat.le_of_eq rfl) (hb hby d5_32) (fun _ hv => ⟨rfl, rfl, (by decide : 2 + 0 ≤ _), (by decide : 6 + 0 ≤ _)⟩)
      dsimp only [Pt.U, Pt.locs, Pt.cells, Pt.slots] at X177 l177 y177 z177 st177 hQ177
      subst l177 y177 z177
      obtain ⟨rfl, Nq177, e177⟩ := hQ177
      refine own_by st177 ?_
      have N177 := Fr.app N176 Nq177
      show own_Fin _ _ _ _ (T177.setTop (mkF m 35 #[rv a1, iv (0 : Int32), iv (2 : Int32), rv b174, iv (0 : Int32), rv b_176] [(.int c0)]))
      refine own_go (XS.sipush X177.here hx rfl (hb hby d5_35) (Steps.refl _)) ?_
      show own_Fin _ _ _ _ (T177.setTop (mkF m 38 #[rv a1, iv (0 : Int32), iv (2 : Int32), rv b174, iv (0 : Int32), rv b_176] [(.int (255 : Int32)), (.int c0)]))
      refine own_go (XS.icmpYes X177.here hx rfl (pc0 := 38) (pc' := 54) rfl (hb hby d5_38) rfl (tlt (show (255 : Int32) < c0 from hg0)).2.2.1 (by decide) (by decide) (Steps.refl _)) ?_
      show own_Fin _ _ _ _ (T177.setTop (mkF m 54 #[rv a1, iv (0 : Int32), iv (2 : Int32), rv b174, iv (0 : Int32), rv b_176] []))
      refine own_go (XS.aload X177.here hx rfl (hb hby d5_54) rfl rfl (Steps.refl _)) ?_
      show own_Fin _ _ _ _ (T177.setTop (mkF m 56 #[rv a1, iv (0 : Int32), iv (2 : Int32), rv b174, iv (0 : Int32), rv b_176] [(.ref b_176)]))
      obtain ⟨fs178, hr178, hrun178, hended178, hW178, hsame178⟩ := X177.leave (v := some (.ref b_176)) (fun h => by rw [Bd.returns] at h; cases h)
      refine own_done (retOut X177 hx Bd.returns rfl (Or.inr (Or.inr (Or.inr (Or.inr ⟨rfl, rfl, rfl⟩)))) (hb hby d5_56) hr178) hrun178 hended178 ⟨_, _, rfl, ?_, ⟨_, rfl⟩, hW178, hsame178.mono (by decide) (by decide)⟩
      show Qc3g Z a1 k (2 : Int32) c0 c1 c2 h0 n0 _ T177.heap _
      rw [e177]
      exact ⟨b_176, rfl, N177, Kt176, g_b_176, sz_b_176, ⟨1, kb_176, Or.inr ⟨rfl, r176_0⟩⟩⟩
    · by_cases hg1 : (255 : Int32) < c1
      · show own_Fin _ _ _ _ (T174.setTop (mkF m 9 #[rv a1, iv (0 : Int32), iv (2 : Int32), rv b174, .unset, .unset] [(.int (2 : Int32)), (.int (0 : Int32)), (.ref b174), (.int (0 : Int32)), (.ref a1)]))
        obtain ⟨_, _, ⟨T179, L179, k179, n179⟩, -, X179, ⟨Lc179, hQ179, l179, y179, z179⟩, st179⟩ := Jvm.LawKit.callS X174 hx (y := (⟨"java/lang/StringUTF16", "compress", "([CI[BII)I"⟩ : MethodName)) hown (mvT hZ (hw _ (List.mem_of_getElem? (i := 24) rfl))) (mvT hZ (hw _ (List.mem_of_getElem? (i := 25) rfl))) (mvT hZ (hw _ (List.mem_of_getElem? (i := 21) rfl))) (mvT hZ (hw _ (List.mem_of_getElem? (i := 26) rfl))) (by decide) (backOf (W := 0) (rmcmu_2_1 l Z a0 hw [] a1 k b174 k174 c0 c1 h174 n0 Z174 V_a1L_174 V_b174 g_b174 ne_a1_b174 hg0 hg1) hZ (hw _ (List.mem_of_getElem? (i := 26) rfl)) (hw _ (List.mem_of_getElem? (i := 21) rfl)) (by decide) (by decide)) (g := (mkF m 9 #[rv a1, iv (0 : Int32), iv (2 : Int32), rv b174, .unset, .unset] [(.int (2 : Int32)), (.int (0 : Int32)), (.ref b174), (.int (0 : Int32)), (.ref a1)])) rfl (by rw [hml]; rfl) (argsL := [(.ref a1), (.int (0 : Int32)), (.ref b174), (.int (0 : Int32)), (.int (2 : Int32))]) (rest := []) (lenOf pd__28__5b_CI_5b_BII_29_I rfl) rfl (by show 2 * 0 + _ ≤ _; exact Nat.le_of_eq rfl) (hb hby d5_9) (fun _ hv => ⟨rfl, e174, (by decide : 1 + 0 ≤ _), (by decide : 2 + 0 ≤ _)⟩)
        dsimp only [Pt.U, Pt.locs, Pt.cells, Pt.slots] at X179 l179 y179 z179 st179 hQ179
        subst l179 y179 z179
        refine own_by st179 ?_
        obtain ⟨rfl, Nq179, K179⟩ := hQ179
        have Od179 := Od174.keep K179 (allS g_b174 all0)
        have V_a1L_179 := V_a1L_174.keep K179 (ninS ne_a1_b174 nin0)
        have Z179 : n0 ≤ T179.heap.size := Nat.le_trans Z174 K179.1
        have Kt179 := K174.trans K179 (allS (P := fun x => x ∈ _ ∨ _ ≤ x) (Or.inr sz_b174) all0)
        have N179 := Fr.app N0 Nq179
        show own_Fin _ _ _ _ (T179.setTop (mkF m 12 #[rv a1, iv (0 : Int32), iv (2 : Int32), rv b174, .unset, .unset] [(.int (1 : Int32))]))
        refine own_go (XS.istore X179.here hx rfl (hb hby d5_12) rfl rfl (Steps.refl _)) ?_
        show own_Fin _ _ _ _ (T179.setTop (mkF m 14 #[rv a1, iv (0 : Int32), iv (2 : Int32), rv b174, iv (1 : Int32), .unset] []))
        refine own_go (XS.iload X179.here hx rfl (hb hby d5_14) rfl (Steps.refl _)) ?_
        show own_Fin _ _ _ _ (T179.setTop (mkF m 16 #[rv a1, iv (0 : Int32), iv (2 : Int32), rv b174, iv (1 : Int32), .unset] [(.int (1 : Int32))]))
        refine own_go (XS.iloadN X179.here hx rfl (hb hby d5_16) rfl (Steps.refl _)) ?_
        show own_Fin _ _ _ _ (T179.setTop (mkF m 17 #[rv a1, iv (0 : Int32), iv (2 : Int32), rv b174, iv (1 : Int32), .unset] [(.int (2 : Int32)), (.int (1 : Int32))]))
        refine own_go (XS.icmpNo X179.here hx rfl (hb hby d5_17) rfl (feq (by decide : ¬ ((1 : Int32) = (2 : Int32)))).1 (Steps.refl _)) ?_
        show own_Fin _ _ _ _ (T179.setTop (mkF m 20 #[rv a1, iv (0 : Int32), iv (2 : Int32), rv b174, iv (1 : Int32), .unset] []))
        refine own_go (XS.aloadN X179.here hx rfl (hb hby d5_20) rfl rfl (Steps.refl _)) ?_
        show own_Fin _ _ _ _ (T179.setTop (mkF m 21 #[rv a1, iv (0 : Int32), iv (2 : Int32), rv b174, iv (1 : Int32), .unset] [(.ref a1)]))
        refine own_go (XS.iloadN X179.here hx rfl (hb hby d5_21) rfl (Steps.refl _)) ?_
        show own_Fin _ _ _ _ (T179.setTop (mkF m 22 #[rv a1, iv (0 : Int32), iv (2 : Int32), rv b174, iv (1 : Int32), .unset] [(.int (0 : Int32)), (.ref a1)]))
        refine own_go (XS.iloadN X179.here hx rfl (hb hby d5_22) rfl (Steps.refl _)) ?_
        show own_Fin _ _ _ _ (T179.setTop (mkF m 23 #[rv a1, iv (0 : Int32), iv (2 : Int32), rv b174, iv (1 : Int32), .unset] [(.int (2 : Int32)), (.int (0 : Int32)), (.ref a1)]))
        obtain ⟨_, _, ⟨T180, L180, k180, n180⟩, -, X180, ⟨Lc180, hQ180, l180, y180, z180⟩, st180⟩ := Jvm.LawKit.callS X179 hx (y := (⟨"java/lang/StringUTF16", "toBytes", "([CII)[B"⟩ : MethodName)) hown (mvT hZ (hw _ (List.mem_of_getElem? (i := 79) rfl))) (mvT hZ (hw _ (List.mem_of_getElem? (i := 80) rfl))) (mvT hZ (hw _ (List.mem_of_getElem? (i := 21) rfl))) (mvT hZ (hw _ (List.mem_of_getElem? (i := 81) rfl))) (by decide) (backOf (W := 0) (rmtb_2 l Z a0 hw [] a1 k c0 c1 T179.heap n0 Z179 V_a1L_179 Od179 S__assertionsDisabled S_HI_BYTE_SHIFT S_LO_BYTE_SHIFT) hZ (hw _ (List.mem_of_getElem? (i := 81) rfl)) (hw _ (List.mem_of_getElem? (i := 21) rfl)) (by decide) (by decide)) (g := (mkF m 23 #[rv a1, iv (0 : Int32), iv (2 : Int32), rv b174, iv (1 : Int32), .unset] [(.int (2 : Int32)), (.int (0 : Int32)), (.ref a1)])) rfl (by rw [hml]; rfl) (argsL := [(.ref a1), (.int (0 : Int32)), (.int (2 : Int32))]) (rest := []) (lenOf pd__28__5b_CII_29__5b_B rfl) rfl (by show 2 * 0 + _ ≤ _; exact Nat.le_of_eq rfl) (hb hby d5_23) (fun _ hv => ⟨rfl, rfl, (by decide : 1 + 1 ≤ _), (by decide : 2 + 4 ≤ _)⟩)
        dsimp only [Pt.U, Pt.locs, Pt.cells, Pt.slots] at X180 l180 y180 z180 st180 hQ180
        subst l180 y180 z180
        refine own_by st180 ?_
        obtain ⟨b_180, kb_180, rfl, Nq180, K180, g_b_180, sb_b_180, r180_0⟩ := hQ180
        have ne_a1_b_180 : a1 ≠ b_180 := Nat.ne_of_lt (Nat.lt_of_lt_of_le V_a1L_179.lt sb_b_180)
        have sz_b_180 : h0.size ≤ b_180 := Nat.le_trans Kt179.1 sb_b_180
        have Od180 := Od179.keep K180 all0
        have V_a1L_180 := V_a1L_179.keep K180 nin0
        have Z180 : n0 ≤ T180.heap.size := Nat.le_trans Z179 K180.1
        have Kt180 := Kt179.trans K180 all0
        have N180 := Fr.app N179 Nq180
        show own_Fin _ _ _ _ (T180.setTop (mkF m 26 #[rv a1, iv (0 : Int32), iv (2 : Int32), rv b174, iv (1 : Int32), .unset] [(.ref b_180)]))
        refine own_go (XS.astore X180.here hx rfl (hb hby d5_26) rfl rfl rfl (Steps.refl _)) ?_
        show own_Fin _ _ _ _ (T180.setTop (mkF m 28 #[rv a1, iv (0 : Int32), iv (2 : Int32), rv b174, iv (1 : Int32), rv b_180] []))
        refine own_go (XS.aload X180.here hx rfl (hb hby d5_28) rfl rfl (Steps.refl _)) ?_
        show own_Fin _ _ _ _ (T180.setTop (mkF m 30 #[rv a1, iv (0 : Int32), iv (2 : Int32), rv b174, iv (1 : Int32), rv b_180] [(.ref b_180)]))
        refine own_go (XS.iload X180.here hx rfl (hb hby d5_30) rfl (Steps.refl _)) ?_
        show own_Fin _ _ _ _ (T180.setTop (mkF m 32 #[rv a1, iv (0 : Int32), iv (2 : Int32), rv b174, iv (1 : Int32), rv b_180] [(.int (1 : Int32)), (.ref b_180)]))
        obtain ⟨_, _, ⟨T181, L181, k181, n181⟩, -, X181, ⟨Lc181, hQ181, l181, y181, z181⟩, st181⟩ := Jvm.LawKit.callS X180 hx (y := (⟨"java/lang/StringUTF16", "getChar", "([BI)C"⟩ : MethodName)) hown (mvT hZ (hw _ (List.mem_of_getElem? (i := 95) rfl))) (mvT hZ (hw _ (List.mem_of_getElem? (i := 96) rfl))) (mvT hZ (hw _ (List.mem_of_getElem? (i := 21) rfl))) (mvT hZ (hw _ (List.mem_of_getElem? (i := 97) rfl))) (by decide) (backOf (W := 0) (rmgc_2_1 l Z a0 hw [] b_180 kb_180 c0 c1 T180.heap n0 Z180 r180_0 hr1 Od180 S__assertionsDisabled S_HI_BYTE_SHIFT S_LO_BYTE_SHIFT) hZ (hw _ (List.mem_of_getElem? (i := 97) rfl)) (hw _ (List.mem_of_getElem? (i := 21) rfl)) (by decide) (by decide)) (g := (mkF m 32 #[rv a1, iv (0 : Int32), iv (2 : Int32), rv b174, iv (1 : Int32), rv b_180] [(.int (1 : Int32)), (.ref b_180)])) rfl (by rw [hml]; rfl) (argsL := [(.ref b_180), (.int (1 : Int32))]) (rest := []) (lenOf pd__28__5b_BI_29_C rfl) rfl (by show 2 * 0 + _ ≤ _; exact Nat.le_of_eq rfl) (hb hby d5_32) (fun _ hv => ⟨rfl, rfl, (by decide : 2 + 0 ≤ _), (by decide : 6 + 0 ≤ _)⟩)
        dsimp only [Pt.U, Pt.locs, Pt.cells, Pt.slots] at X181 l181 y181 z181 st181 hQ181
        subst l181 y181 z181
        obtain ⟨rfl, Nq181, e181⟩ := hQ181
        refine own_by st181 ?_
        have N181 := Fr.app N180 Nq181
        show own_Fin _ _ _ _ (T181.setTop (mkF m 35 #[rv a1, iv (0 : Int32), iv (2 : Int32), rv b174, iv (1 : Int32), rv b_180] [(.int c1)]))
        refine own_go (XS.sipush X181.here hx rfl (hb hby d5_35) (Steps.refl _)) ?_
        show own_Fin _ _ _ _ (T181.setTop (mkF m 38 #[rv a1, iv (0 : Int32), iv (2 : Int32), rv b174, iv (1 : Int32), rv b_180] [(.int (255 : Int32)), (.int c1)]))
        refine own_go (XS.icmpYes X181.here hx rfl (pc0 := 38) (pc' := 54) rfl (hb hby d5_38) rfl (tlt (show (255 : Int32) < c1 from hg1)).2.2.1 (by decide) (by decide) (Steps.refl _)) ?_
        show own_Fin _ _ _ _ (T181.setTop (mkF m 54 #[rv a1, iv (0 : Int32), iv (2 : Int32), rv b174, iv (1 : Int32), rv b_180] []))
        refine own_go (XS.aload X181.here hx rfl (hb hby d5_54) rfl rfl (Steps.refl _)) ?_
        show own_Fin _ _ _ _ (T181.setTop (mkF m 56 #[rv a1, iv (0 : Int32), iv (2 : Int32), rv b174, iv (1 : Int32), rv b_180] [(.ref b_180)]))
        obtain ⟨fs182, hr182, hrun182, hended182, hW182, hsame182⟩ := X181.leave (v := some (.ref b_180)) (fun h => by rw [Bd.returns] at h; cases h)
        refine own_done (retOut X181 hx Bd.returns rfl (Or.inr (Or.inr (Or.inr (Or.inr ⟨rfl, rfl, rfl⟩)))) (hb hby d5_56) hr182) hrun182 hended182 ⟨_, _, rfl, ?_, ⟨_, rfl⟩, hW182, hsame182.mono (by decide) (by decide)⟩
        show Qc3g Z a1 k (2 : Int32) c0 c1 c2 h0 n0 _ T181.heap _
        rw [e181]
        exact ⟨b_180, rfl, N181, Kt180, g_b_180, sz_b_180, ⟨1, kb_180, Or.inr ⟨rfl, r180_0⟩⟩⟩
      · show own_Fin _ _ _ _ (T174.setTop (mkF m 9 #[rv a1, iv (0 : Int32), iv (2 : Int32), rv b174, .unset, .unset] [(.int (2 : Int32)), (.int (0 : Int32)), (.ref b174), (.int (0 : Int32)), (.ref a1)]))
        obtain ⟨_, _, ⟨T183, L183, k183, n183⟩, -, X183, ⟨Lc183, hQ183, l183, y183, z183⟩, st183⟩ := Jvm.LawKit.callS X174 hx (y := (⟨"java/lang/StringUTF16", "compress", "([CI[BII)I"⟩ : MethodName)) hown (mvT hZ (hw _ (List.mem_of_getElem? (i := 24) rfl))) (mvT hZ (hw _ (List.mem_of_getElem? (i := 25) rfl))) (mvT hZ (hw _ (List.mem_of_getElem? (i := 21) rfl))) (mvT hZ (hw _ (List.mem_of_getElem? (i := 26) rfl))) (by decide) (backOf (W := 0) (rmcm_2 l Z a0 hw [] a1 k c0 c1 b174 k174 h174 n0 Z174 V_a1L_174 V_b174 g_b174 ne_a1_b174 hg0 hg1) hZ (hw _ (List.mem_of_getElem? (i := 26) rfl)) (hw _ (List.mem_of_getElem? (i := 21) rfl)) (by decide) (by decide)) (g := (mkF m 9 #[rv a1, iv (0 : Int32), iv (2 : Int32), rv b174, .unset, .unset] [(.int (2 : Int32)), (.int (0 : Int32)), (.ref b174), (.int (0 : Int32)), (.ref a1)])) rfl (by rw [hml]; rfl) (argsL := [(.ref a1), (.int (0 : Int32)), (.ref b174), (.int (0 : Int32)), (.int (2 : Int32))]) (rest := []) (lenOf pd__28__5b_CI_5b_BII_29_I rfl) rfl (by show 2 * 0 + _ ≤ _; exact Nat.le_of_eq rfl) (hb hby d5_9) (fun _ hv => ⟨rfl, e174, (by decide : 1 + 0 ≤ _), (by decide : 2 + 0 ≤ _)⟩)
        dsimp only [Pt.U, Pt.locs, Pt.cells, Pt.slots] at X183 l183 y183 z183 st183 hQ183
        subst l183 y183 z183
        refine own_by st183 ?_
        obtain ⟨rfl, Nq183, K183, r183_0⟩ := hQ183
        have Od183 := Od174.keep K183 (allS g_b174 all0)
        have V_a1L_183 := V_a1L_174.keep K183 (ninS ne_a1_b174 nin0)
        have Z183 : n0 ≤ T183.heap.size := Nat.le_trans Z174 K183.1
        have Kt183 := K174.trans K183 (allS (P := fun x => x ∈ _ ∨ _ ≤ x) (Or.inr sz_b174) all0)
        have N183 := Fr.app N0 Nq183
        show own_Fin _ _ _ _ (T183.setTop (mkF m 12 #[rv a1, iv (0 : Int32), iv (2 : Int32), rv b174, .unset, .unset] [(.int (2 : Int32))]))
        refine own_go (XS.istore X183.here hx rfl (hb hby d5_12) rfl rfl (Steps.refl _)) ?_
        show own_Fin _ _ _ _ (T183.setTop (mkF m 14 #[rv a1, iv (0 : Int32), iv (2 : Int32), rv b174, iv (2 : Int32), .unset] []))
        refine own_go (XS.iload X183.here hx rfl (hb hby d5_14) rfl (Steps.refl _)) ?_
        show own_Fin _ _ _ _ (T183.setTop (mkF m 16 #[rv a1, iv (0 : Int32), iv (2 : Int32), rv b174, iv (2 : Int32), .unset] [(.int (2 : Int32))]))
        refine own_go (XS.iloadN X183.here hx rfl (hb hby d5_16) rfl (Steps.refl _)) ?_
        show own_Fin _ _ _ _ (T183.setTop (mkF m 17 #[rv a1, iv (0 : Int32), iv (2 : Int32), rv b174, iv (2 : Int32), .unset] [(.int (2 : Int32)), (.int (2 : Int32))]))
        refine own_go (XS.icmpYes X183.here hx rfl (pc0 := 17) (pc' := 57) rfl (hb hby d5_17) rfl (teq (by decide : (2 : Int32) = (2 : Int32))).1 (by decide) (by decide) (Steps.refl _)) ?_
        show own_Fin _ _ _ _ (T183.setTop (mkF m 57 #[rv a1, iv (0 : Int32), iv (2 : Int32), rv b174, iv (2 : Int32), .unset] []))
        refine own_go (XS.aloadN X183.here hx rfl (hb hby d5_57) rfl rfl (Steps.refl _)) ?_
        show own_Fin _ _ _ _ (T183.setTop (mkF m 58 #[rv a1, iv (0 : Int32), iv (2 : Int32), rv b174, iv (2 : Int32), .unset] [(.ref b174)]))
        obtain ⟨fs184, hr184, hrun184, hended184, hW184, hsame184⟩ := X183.leave (v := some (.ref b174)) (fun h => by rw [Bd.returns] at h; cases h)
        refine own_done (retOut X183 hx Bd.returns rfl (Or.inr (Or.inr (Or.inr (Or.inr ⟨rfl, rfl, rfl⟩)))) (hb hby d5_58) hr184) hrun184 hended184 ⟨_, _, rfl, ?_, ⟨_, rfl⟩, hW184, hsame184.mono (by decide) (by decide)⟩
        show Qc3g Z a1 k (2 : Int32) c0 c1 c2 h0 n0 _ T183.heap _
        exact ⟨b174, rfl, N183, Kt183, g_b174, sz_b174, ⟨0, k174, Or.inl ⟨rfl, own_all2 hg0 hg1, r183_0⟩⟩⟩
  · show own_Fin _ _ _ _ (s₁.setTop (mkF m 0 #[rv a1, iv (0 : Int32), iv (3 : Int32), .unset, .unset, .unset] []))
    have V_a1L : Arv Z h0 a1 k .char (3 : Int32) [(.int c0), (.int c1), (.int c2)] (.int (0 : Int32)) := V_a1
    refine own_go (XS.iloadN X0.here hx rfl (hb hby d5_0) rfl (Steps.refl _)) ?_
    show own_Fin _ _ _ _ (s₁.setTop (mkF m 1 #[rv a1, iv (0 : Int32), iv (3 : Int32), .unset, .unset, .unset] [(.int (3 : Int32))]))
    obtain ⟨T185, h185, k185, X185, e185, E185, A185, st185⟩ := newP X0 hx hZ (hw _ (List.mem_of_getElem? (i := 23) rfl)) e0 (g := (mkF m 1 #[rv a1, iv (0 : Int32), iv (3 : Int32), .unset, .unset, .unset] [(.int (3 : Int32))])) rfl (hb hby d5_1) rfl (by decide) (cap := 3) (by decide) (by decide) (by decide) (by decide)
    obtain ⟨b185, g185⟩ : ∃ z, z = h0.size := ⟨_, rfl⟩
    rw [← g185] at A185 st185
    refine own_by st185 ?_
    have ne_a1_b185 : a1 ≠ b185 := Nat.ne_of_lt (Nat.lt_of_lt_of_eq V_a1L.lt g185.symm)
    have Od185 := O0.ext E185
    have V_a1L_185 := V_a1L.ext E185
    have g_b185 : n0 ≤ b185 := Nat.le_trans Z0 (Nat.le_of_eq g185.symm)
    have sz_b185 : h0.size ≤ b185 := Nat.le_trans Kz.1 (Nat.le_of_eq g185.symm)
    have K185 := Kz.ext E185
    have Z185 : n0 ≤ h185.size := Nat.le_trans Z0 E185.1
    have V_b185 : Arv Z h185 b185 k185 .byte (3 : Int32) [(.int (0 : Int32)), (.int (0 : Int32)), (.int (0 : Int32))] (.int (0 : Int32)) := (Arv.new A185 (by decide)).pad (pad_rep [] (.int (0 : Int32)) 3)
    show own_Fin _ _ _ _ (T185.setTop (mkF m 3 #[rv a1, iv (0 : Int32), iv (3 : Int32), .unset, .unset, .unset] [(.ref b185)]))
    refine own_go (XS.astoreN X185.here hx rfl (hb hby d5_3) rfl rfl rfl (Steps.refl _)) ?_
    show own_Fin _ _ _ _ (T185.setTop (mkF m 4 #[rv a1, iv (0 : Int32), iv (3 : Int32), rv b185, .unset, .unset] []))
    refine own_go (XS.aloadN X185.here hx rfl (hb hby d5_4) rfl rfl (Steps.refl _)) ?_
    show own_Fin _ _ _ _ (T185.setTop (mkF m 5 #[rv a1, iv (0 : Int32), iv (3 : Int32), rv b185, .unset, .unset] [(.ref a1)]))
    refine own_go (XS.iloadN X185.here hx rfl (hb hby d5_5) rfl (Steps.refl _)) ?_
    show own_Fin _ _ _ _ (T185.setTop (mkF m 6 #[rv a1, iv (0 : Int32), iv (3 : Int32), rv b185, .unset, .unset] [(.int (0 : Int32)), (.ref a1)]))
    refine own_go (XS.aloadN X185.here hx rfl (hb hby d5_6) rfl rfl (Steps.refl _)) ?_
    show own_Fin _ _ _ _ (T185.setTop (mkF m 7 #[rv a1, iv (0 : Int32), iv (3 : Int32), rv b185, .unset, .unset] [(.ref b185), (.int (0 : Int32)), (.ref a1)]))
    refine own_go (XS.iconst X185.here hx rfl (hb hby d5_7) (Steps.refl _)) ?_
    show own_Fin _ _ _ _ (T185.setTop (mkF m 8 #[rv a1, iv (0 : Int32), iv (3 : Int32), rv b185, .unset, .unset] [(.int (0 : Int32)), (.ref b185), (.int (0 : Int32)), (.ref a1)]))
    refine own_go (XS.iloadN X185.here hx rfl (hb hby d5_8) rfl (Steps.refl _)) ?_
    show own_Fin _ _ _ _ (T185.setTop (mkF m 9 #[rv a1, iv (0 : Int32), iv (3 : Int32), rv b185, .unset, .unset] [(.int (3 : Int32)), (.int (0 : Int32)), (.ref b185), (.int (0 : Int32)), (.ref a1)]))
    by_cases hg0 : (255 : Int32) < c0
    · show own_Fin _ _ _ _ (T185.setTop (mkF m 9 #[rv a1, iv (0 : Int32), iv (3 : Int32), rv b185, .unset, .unset] [(.int (3 : Int32)), (.int (0 : Int32)), (.ref b185), (.int (0 : Int32)), (.ref a1)]))
      obtain ⟨_, _, ⟨T186, L186, k186, n186⟩, -, X186, ⟨Lc186, hQ186, l186, y186, z186⟩, st186⟩ := Jvm.LawKit.callS X185 hx (y := (⟨"java/lang/StringUTF16", "compress", "([CI[BII)I"⟩ : MethodName)) hown (mvT hZ (hw _ (List.mem_of_getElem? (i := 24) rfl))) (mvT hZ (hw _ (List.mem_of_getElem? (i := 25) rfl))) (mvT hZ (hw _ (List.mem_of_getElem? (i := 21) rfl))) (mvT hZ (hw _ (List.mem_of_getElem? (i := 26) rfl))) (by decide) (backOf (W := 0) (rmcmu_3_0 l Z a0 hw [] a1 k b185 k185 c0 c1 c2 h185 n0 Z185 V_a1L_185 V_b185 g_b185 ne_a1_b185 hg0) hZ (hw _ (List.mem_of_getElem? (i := 26) rfl)) (hw _ (List.mem_of_getElem? (i := 21) rfl)) (by decide) (by decide)) (g := (mkF m 9 #[rv a1, iv (0 : Int32), iv (3 : Int32), rv b185, .unset, .unset] [(.int (3 : Int32)), (.int (0 : Int32)), (.ref b185), (.int (0 : Int32)), (.ref a1)])) rfl (by rw [hml]; rfl) (argsL := [(.ref a1), (.int (0 : Int32)), (.ref b185), (.int (0 : Int32)), (.int (3 : Int32))]) (rest := []) (lenOf pd__28__5b_CI_5b_BII_29_I rfl) rfl (by show 2 * 0 + _ ≤ _; exact Nat.le_of_eq rfl) (hb hby d5_9) (fun _ hv => ⟨rfl, e185, (by decide : 1 + 0 ≤ _), (by decide : 3 + 0 ≤ _)⟩)
      dsimp only [Pt.U, Pt.locs, Pt.cells, Pt.slots] at X186 l186 y186 z186 st186 hQ186
      subst l186 y186 z186
      refine own_by st186 ?_
      obtain ⟨rfl, Nq186, K186⟩ := hQ186
      have Od186 := Od185.keep K186 (allS g_b185 all0)
      have V_a1L_186 := V_a1L_185.keep K186 (ninS ne_a1_b185 nin0)
      have Z186 : n0 ≤ T186.heap.size := Nat.le_trans Z185 K186.1
      have Kt186 := K185.trans K186 (allS (P := fun x => x ∈ _ ∨ _ ≤ x) (Or.inr sz_b185) all0)
      have N186 := Fr.app N0 Nq186
      show own_Fin _ _ _ _ (T186.setTop (mkF m 12 #[rv a1, iv (0 : Int32), iv (3 : Int32), rv b185, .unset, .unset] [(.int (0 : Int32))]))
      refine own_go (XS.istore X186.here hx rfl (hb hby d5_12) rfl rfl (Steps.refl _)) ?_
      show own_Fin _ _ _ _ (T186.setTop (mkF m 14 #[rv a1, iv (0 : Int32), iv (3 : Int32), rv b185, iv (0 : Int32), .unset] []))
      refine own_go (XS.iload X186.here hx rfl (hb hby d5_14) rfl (Steps.refl _)) ?_
      show own_Fin _ _ _ _ (T186.setTop (mkF m 16 #[rv a1, iv (0 : Int32), iv (3 : Int32), rv b185, iv (0 : Int32), .unset] [(.int (0 : Int32))]))
      refine own_go (XS.iloadN X186.here hx rfl (hb hby d5_16) rfl (Steps.refl _)) ?_
      show own_Fin _ _ _ _ (T186.setTop (mkF m 17 #[rv a1, iv (0 : Int32), iv (3 : Int32), rv b185, iv (0 : Int32), .unset] [(.int (3 : Int32)), (.int (0 : Int32))]))
      refine own_go (XS.icmpNo X186.here hx rfl (hb hby d5_17) rfl (feq (by decide : ¬ ((0 : Int32) = (3 : Int32)))).1 (Steps.refl _)) ?_
      show own_Fin _ _ _ _ (T186.setTop (mkF m 20 #[rv a1, iv (0 : Int32), iv (3 : Int32), rv b185, iv (0 : Int32), .unset] []))
      refine own_go (XS.aloadN X186.here hx rfl (hb hby d5_20) rfl rfl (Steps.refl _)) ?_
      show own_Fin _ _ _ _ (T186.setTop (mkF m 21 #[rv a1, iv (0 : Int32), iv (3 : Int32), rv b185, iv (0 : Int32), .unset] [(.ref a1)]))
      refine own_go (XS.iloadN X186.here hx rfl (hb hby d5_21) rfl (Steps.refl _)) ?_
      show own_Fin _ _ _ _ (T186.setTop (mkF m 22 #[rv a1, iv (0 : Int32), iv (3 : Int32), rv b185, iv (0 : Int32), .unset] [(.int (0 : Int32)), (.ref a1)]))
      refine own_go (XS.iloadN X186.here hx rfl (hb hby d5_22) rfl (Steps.refl _)) ?_
      show own_Fin _ _ _ _ (T186.setTop (mkF m 23 #[rv a1, iv (0 : Int32), iv (3 : Int32), rv b185, iv (0 : Int32), .unset] [(.int (3 : Int32)), (.int (0 : Int32)), (.ref a1)]))
      obtain ⟨_, _, ⟨T187, L187, k187, n187⟩, -, X187, ⟨Lc187, hQ187, l187, y187, z187⟩, st187⟩ := Jvm.LawKit.callS X186 hx (y := (⟨"java/lang/StringUTF16", "toBytes", "([CII)[B"⟩ : MethodName)) hown (mvT hZ (hw _ (List.mem_of_getElem? (i := 79) rfl))) (mvT hZ (hw _ (List.mem_of_getElem? (i := 80) rfl))) (mvT hZ (hw _ (List.mem_of_getElem? (i := 21) rfl))) (mvT hZ (hw _ (List.mem_of_getElem? (i := 81) rfl))) (by decide) (backOf (W := 0) (rmtb_3 l Z a0 hw [] a1 k c0 c1 c2 T186.heap n0 Z186 V_a1L_186 Od186 S__assertionsDisabled S_HI_BYTE_SHIFT S_LO_BYTE_SHIFT) hZ (hw _ (List.mem_of_getElem? (i := 81) rfl)) (hw _ (List.mem_of_getElem? (i := 21) rfl)) (by decide) (by decide)) (g := (mkF m 23 #[rv a1, iv (0 : Int32), iv (3 : Int32), rv b185, iv (0 : Int32), .unset] [(.int (3 : Int32)), (.int (0 : Int32)), (.ref a1)])) rfl (by rw [hml]; rfl) (argsL := [(.ref a1), (.int (0 : Int32)), (.int (3 : Int32))]) (rest := []) (lenOf pd__28__5b_CII_29__5b_B rfl) rfl (by show 2 * 0 + _ ≤ _; exact Nat.le_of_eq rfl) (hb hby d5_23) (fun _ hv => ⟨rfl, rfl, (by decide : 1 + 1 ≤ _), (by decide : 3 + 6 ≤ _)⟩)
      dsimp only [Pt.U, Pt.locs, Pt.cells, Pt.slots] at X187 l187 y187 z187 st187 hQ187
      subst l187 y187 z187
      refine own_by st187 ?_
      obtain ⟨b_187, kb_187, rfl, Nq187, K187, g_b_187, sb_b_187, r187_0⟩ := hQ187
      have ne_a1_b_187 : a1 ≠ b_187 := Nat.ne_of_lt (Nat.lt_of_lt_of_le V_a1L_186.lt sb_b_187)
      have sz_b_187 : h0.size ≤ b_187 := Nat.le_trans Kt186.1 sb_b_187
      have Od187 := Od186.keep K187 all0
      have V_a1L_187 := V_a1L_186.keep K187 nin0
      have Z187 : n0 ≤ T187.heap.size := Nat.le_trans Z186 K187.1
      have Kt187 := Kt186.trans K187 all0
      have N187 := Fr.app N186 Nq187
      show own_Fin _ _ _ _ (T187.setTop (mkF m 26 #[rv a1, iv (0 : Int32), iv (3 : Int32), rv b185, iv (0 : Int32), .unset] [(.ref b_187)]))
      refine own_go (XS.astore X187.here hx rfl (hb hby d5_26) rfl rfl rfl (Steps.refl _)) ?_
      show own_Fin _ _ _ _ (T187.setTop (mkF m 28 #[rv a1, iv (0 : Int32), iv (3 : Int32), rv b185, iv (0 : Int32), rv b_187] []))
      refine own_go (XS.aload X187.here hx rfl (hb hby d5_28) rfl rfl (Steps.refl _)) ?_
      show own_Fin _ _ _ _ (T187.setTop (mkF m 30 #[rv a1, iv (0 : Int32), iv (3 : Int32), rv b185, iv (0 : Int32), rv b_187] [(.ref b_187)]))
      refine own_go (XS.iload X187.here hx rfl (hb hby d5_30) rfl (Steps.refl _)) ?_
      show own_Fin _ _ _ _ (T187.setTop (mkF m 32 #[rv a1, iv (0 : Int32), iv (3 : Int32), rv b185, iv (0 : Int32), rv b_187] [(.int (0 : Int32)), (.ref b_187)]))
      obtain ⟨_, _, ⟨T188, L188, k188, n188⟩, -, X188, ⟨Lc188, hQ188, l188, y188, z188⟩, st188⟩ := Jvm.LawKit.callS X187 hx (y := (⟨"java/lang/StringUTF16", "getChar", "([BI)C"⟩ : MethodName)) hown (mvT hZ (hw _ (List.mem_of_getElem? (i := 95) rfl))) (mvT hZ (hw _ (List.mem_of_getElem? (i := 96) rfl))) (mvT hZ (hw _ (List.mem_of_getElem? (i := 21) rfl))) (mvT hZ (hw _ (List.mem_of_getElem? (i := 97) rfl))) (by decide) (backOf (W := 0) (rmgc_3_0 l Z a0 hw [] b_187 kb_187 c0 c1 c2 T187.heap n0 Z187 r187_0 hr0 Od187 S__assertionsDisabled S_HI_BYTE_SHIFT S_LO_BYTE_SHIFT) hZ (hw _ (List.mem_of_getElem? (i := 97) rfl)) (hw _ (List.mem_of_getElem? (i := 21) rfl)) (by decide) (by decide)) (g := (mkF m 32 #[rv a1, iv (0 : Int32), iv (3 : Int32), rv b185, iv (0 : Int32), rv b_187] [(.int (0 : Int32)), (.ref b_187)])) rfl (by rw [hml]; rfl) (argsL := [(.ref b_187), (.int (0 : Int32))]) (rest := []) (lenOf pd__28__5b_BI_29_C rfl) rfl (by show 2 * 0 + _ ≤ _; exact Nat.le_of_eq rfl) (hb hby d5_32) (fun _ hv => ⟨rfl, rfl, (by decide : 2 + 0 ≤ _), (by decide : 9 + 0 ≤ _)⟩)
      dsimp only [Pt.U, Pt.locs, Pt.cells, Pt.slots] at X188 l188 y188 z188 st188 hQ188
      subst l188 y188 z188
      obtain ⟨rfl, Nq188, e188⟩ := hQ188
      refine own_by st188 ?_
      have N188 := Fr.app N187 Nq188
      show own_Fin _ _ _ _ (T188.setTop (mkF m 35 #[rv a1, iv (0 : Int32), iv (3 : Int32), rv b185, iv (0 : Int32), rv b_187] [(.int c0)]))
      refine own_go (XS.sipush X188.here hx rfl (hb hby d5_35) (Steps.refl _)) ?_
      show own_Fin _ _ _ _ (T188.setTop (mkF m 38 #[rv a1, iv (0 : Int32), iv (3 : Int32), rv b185, iv (0 : Int32), rv b_187] [(.int (255 : Int32)), (.int c0)]))
      refine own_go (XS.icmpYes X188.here hx rfl (pc0 := 38) (pc' := 54) rfl (hb hby d5_38) rfl (tlt (show (255 : Int32) < c0 from hg0)).2.2.1 (by decide) (by decide) (Steps.refl _)) ?_
      show own_Fin _ _ _ _ (T188.setTop (mkF m 54 #[rv a1, iv (0 : Int32), iv (3 : Int32), rv b185, iv (0 : Int32), rv b_187] []))
      refine own_go (XS.aload X188.here hx rfl (hb hby d5_54) rfl rfl (Steps.refl _)) ?_
      show own_Fin _ _ _ _ (T188.setTop (mkF m 56 #[rv a1, iv (0 : Int32), iv (3 : Int32), rv b185, iv (0 : Int32), rv b_187] [(.ref b_187)]))
      obtain ⟨fs189, hr189, hrun189, hended189, hW189, hsame189⟩ := X188.leave (v := some (.ref b_187)) (fun h => by rw [Bd.returns] at h; cases h)
      refine own_done (retOut X188 hx Bd.returns rfl (Or.inr (Or.inr (Or.inr (Or.inr ⟨rfl, rfl, rfl⟩)))) (hb hby d5_56) hr189) hrun189 hended189 ⟨_, _, rfl, ?_, ⟨_, rfl⟩, hW189, hsame189.mono (by decide) (by decide)⟩
      show Qc3g Z a1 k (3 : Int32) c0 c1 c2 h0 n0 _ T188.heap _
      rw [e188]
      exact ⟨b_187, rfl, N188, Kt187, g_b_187, sz_b_187, ⟨1, kb_187, Or.inr ⟨rfl, r187_0⟩⟩⟩
    · by_cases hg1 : (255 : Int32) < c1
      · show own_Fin _ _ _ _ (T185.setTop (mkF m 9 #[rv a1, iv (0 : Int32), iv (3 : Int32), rv b185, .unset, .unset] [(.int (3 : Int32)), (.int (0 : Int32)), (.ref b185), (.int (0 : Int32)), (.ref a1)]))
        obtain ⟨_, _, ⟨T190, L190, k190, n190⟩, -, X190, ⟨Lc190, hQ190, l190, y190, z190⟩, st190⟩ := Jvm.LawKit.callS X185 hx (y := (⟨"java/lang/StringUTF16", "compress", "([CI[BII)I"⟩ : MethodName)) hown (mvT hZ (hw _ (List.mem_of_getElem? (i := 24) rfl))) (mvT hZ (hw _ (List.mem_of_getElem? (i := 25) rfl))) (mvT hZ (hw _ (List.mem_of_getElem? (i := 21) rfl))) (mvT hZ (hw _ (List.mem_of_getElem? (i := 26) rfl))) (by decide) (backOf (W := 0) (rmcmu_3_1 l Z a0 hw [] a1 k b185 k185 c0 c1 c2 h185 n0 Z185 V_a1L_185 V_b185 g_b185 ne_a1_b185 hg0 hg1) hZ (hw _ (List.mem_of_getElem? (i := 26) rfl)) (hw _ (List.mem_of_getElem? (i := 21) rfl)) (by decide) (by decide)) (g := (mkF m 9 #[rv a1, iv (0 : Int32), iv (3 : Int32), rv b185, .unset, .unset] [(.int (3 : Int32)), (.int (0 : Int32)), (.ref b185), (.int (0 : Int32)), (.ref a1)])) rfl (by rw [hml]; rfl) (argsL := [(.ref a1), (.int (0 : Int32)), (.ref b185), (.int (0 : Int32)), (.int (3 : Int32))]) (rest := []) (lenOf pd__28__5b_CI_5b_BII_29_I rfl) rfl (by show 2 * 0 + _ ≤ _; exact Nat.le_of_eq rfl) (hb hby d5_9) (fun _ hv => ⟨rfl, e185, (by decide : 1 + 0 ≤ _), (by decide : 3 + 0 ≤ _)⟩)
        dsimp only [Pt.U, Pt.locs, Pt.cells, Pt.slots] at X190 l190 y190 z190 st190 hQ190
        subst l190 y190 z190
        refine own_by st190 ?_
        obtain ⟨rfl, Nq190, K190⟩ := hQ190
        have Od190 := Od185.keep K190 (allS g_b185 all0)
        have V_a1L_190 := V_a1L_185.keep K190 (ninS ne_a1_b185 nin0)
        have Z190 : n0 ≤ T190.heap.size := Nat.le_trans Z185 K190.1
        have Kt190 := K185.trans K190 (allS (P := fun x => x ∈ _ ∨ _ ≤ x) (Or.inr sz_b185) all0)
        have N190 := Fr.app N0 Nq190
        show own_Fin _ _ _ _ (T190.setTop (mkF m 12 #[rv a1, iv (0 : Int32), iv (3 : Int32), rv b185, .unset, .unset] [(.int (1 : Int32))]))
        refine own_go (XS.istore X190.here hx rfl (hb hby d5_12) rfl rfl (Steps.refl _)) ?_
        show own_Fin _ _ _ _ (T190.setTop (mkF m 14 #[rv a1, iv (0 : Int32), iv (3 : Int32), rv b185, iv (1 : Int32), .unset] []))
        refine own_go (XS.iload X190.here hx rfl (hb hby d5_14) rfl (Steps.refl _)) ?_
        show own_Fin _ _ _ _ (T190.setTop (mkF m 16 #[rv a1, iv (0 : Int32), iv (3 : Int32), rv b185, iv (1 : Int32), .unset] [(.int (1 : Int32))]))
        refine own_go (XS.iloadN X190.here hx rfl (hb hby d5_16) rfl (Steps.refl _)) ?_
        show own_Fin _ _ _ _ (T190.setTop (mkF m 17 #[rv a1, iv (0 : Int32), iv (3 : Int32), rv b185, iv (1 : Int32), .unset] [(.int (3 : Int32)), (.int (1 : Int32))]))
        refine own_go (XS.icmpNo X190.here hx rfl (hb hby d5_17) rfl (feq (by decide : ¬ ((1 : Int32) = (3 : Int32)))).1 (Steps.refl _)) ?_
        show own_Fin _ _ _ _ (T190.setTop (mkF m 20 #[rv a1, iv (0 : Int32), iv (3 : Int32), rv b185, iv (1 : Int32), .unset] []))
        refine own_go (XS.aloadN X190.here hx rfl (hb hby d5_20) rfl rfl (Steps.refl _)) ?_
        show own_Fin _ _ _ _ (T190.setTop (mkF m 21 #[rv a1, iv (0 : Int32), iv (3 : Int32), rv b185, iv (1 : Int32), .unset] [(.ref a1)]))
        refine own_go (XS.iloadN X190.here hx rfl (hb hby d5_21) rfl (Steps.refl _)) ?_
        show own_Fin _ _ _ _ (T190.setTop (mkF m 22 #[rv a1, iv (0 : Int32), iv (3 : Int32), rv b185, iv (1 : Int32), .unset] [(.int (0 : Int32)), (.ref a1)]))
        refine own_go (XS.iloadN X190.here hx rfl (hb hby d5_22) rfl (Steps.refl _)) ?_
        show own_Fin _ _ _ _ (T190.setTop (mkF m 23 #[rv a1, iv (0 : Int32), iv (3 : Int32), rv b185, iv (1 : Int32), .unset] [(.int (3 : Int32)), (.int (0 : Int32)), (.ref a1)]))
        obtain ⟨_, _, ⟨T191, L191, k191, n191⟩, -, X191, ⟨Lc191, hQ191, l191, y191, z191⟩, st191⟩ := Jvm.LawKit.callS X190 hx (y := (⟨"java/lang/StringUTF16", "toBytes", "([CII)[B"⟩ : MethodName)) hown (mvT hZ (hw _ (List.mem_of_getElem? (i := 79) rfl))) (mvT hZ (hw _ (List.mem_of_getElem? (i := 80) rfl))) (mvT hZ (hw _ (List.mem_of_getElem? (i := 21) rfl))) (mvT hZ (hw _ (List.mem_of_getElem? (i := 81) rfl))) (by decide) (backOf (W := 0) (rmtb_3 l Z a0 hw [] a1 k c0 c1 c2 T190.heap n0 Z190 V_a1L_190 Od190 S__assertionsDisabled S_HI_BYTE_SHIFT S_LO_BYTE_SHIFT) hZ (hw _ (List.mem_of_getElem? (i := 81) rfl)) (hw _ (List.mem_of_getElem? (i := 21) rfl)) (by decide) (by decide)) (g := (mkF m 23 #[rv a1, iv (0 : Int32), iv (3 : Int32), rv b185, iv (1 : Int32), .unset] [(.int (3 : Int32)), (.int (0 : Int32)), (.ref a1)])) rfl (by rw [hml]; rfl) (argsL := [(.ref a1), (.int (0 : Int32)), (.int (3 : Int32))]) (rest := []) (lenOf pd__28__5b_CII_29__5b_B rfl) rfl (by show 2 * 0 + _ ≤ _; exact Nat.le_of_eq rfl) (hb hby d5_23) (fun _ hv => ⟨rfl, rfl, (by decide : 1 + 1 ≤ _), (by decide : 3 + 6 ≤ _)⟩)
        dsimp only [Pt.U, Pt.locs, Pt.cells, Pt.slots] at X191 l191 y191 z191 st191 hQ191
        subst l191 y191 z191
        refine own_by st191 ?_
        obtain ⟨b_191, kb_191, rfl, Nq191, K191, g_b_191, sb_b_191, r191_0⟩ := hQ191
        have ne_a1_b_191 : a1 ≠ b_191 := Nat.ne_of_lt (Nat.lt_of_lt_of_le V_a1L_190.lt sb_b_191)
        have sz_b_191 : h0.size ≤ b_191 := Nat.le_trans Kt190.1 sb_b_191
        have Od191 := Od190.keep K191 all0
        have V_a1L_191 := V_a1L_190.keep K191 nin0
        have Z191 : n0 ≤ T191.heap.size := Nat.le_trans Z190 K191.1
        have Kt191 := Kt190.trans K191 all0
        have N191 := Fr.app N190 Nq191
        show own_Fin _ _ _ _ (T191.setTop (mkF m 26 #[rv a1, iv (0 : Int32), iv (3 : Int32), rv b185, iv (1 : Int32), .unset] [(.ref b_191)]))
        refine own_go (XS.astore X191.here hx rfl (hb hby d5_26) rfl rfl rfl (Steps.refl _)) ?_
        show own_Fin _ _ _ _ (T191.setTop (mkF m 28 #[rv a1, iv (0 : Int32), iv (3 : Int32), rv b185, iv (1 : Int32), rv b_191] []))
        refine own_go (XS.aload X191.here hx rfl (hb hby d5_28) rfl rfl (Steps.refl _)) ?_
        show own_Fin _ _ _ _ (T191.setTop (mkF m 30 #[rv a1, iv (0 : Int32), iv (3 : Int32), rv b185, iv (1 : Int32), rv b_191] [(.ref b_191)]))
        refine own_go (XS.iload X191.here hx rfl (hb hby d5_30) rfl (Steps.refl _)) ?_
        show own_Fin _ _ _ _ (T191.setTop (mkF m 32 #[rv a1, iv (0 : Int32), iv (3 : Int32), rv b185, iv (1 : Int32), rv b_191] [(.int (1 : Int32)), (.ref b_191)]))
        obtain ⟨_, _, ⟨T192, L192, k192, n192⟩, -, X192, ⟨Lc192, hQ192, l192, y192, z192⟩, st192⟩ := Jvm.LawKit.callS X191 hx (y := (⟨"java/lang/StringUTF16", "getChar", "([BI)C"⟩ : MethodName)) hown (mvT hZ (hw _ (List.mem_of_getElem? (i := 95) rfl))) (mvT hZ (hw _ (List.mem_of_getElem? (i := 96) rfl))) (mvT hZ (hw _ (List.mem_of_getElem? (i := 21) rfl))) (mvT hZ (hw _ (List.mem_of_getElem? (i := 97) rfl))) (by decide) (backOf (W := 0) (rmgc_3_1 l Z a0 hw [] b_191 kb_191 c0 c1 c2 T191.heap n0 Z191 r191_0 hr1 Od191 S__assertionsDisabled S_HI_BYTE_SHIFT S_LO_BYTE_SHIFT) hZ (hw _ (List.mem_of_getElem? (i := 97) rfl)) (hw _ (List.mem_of_getElem? (i := 21) rfl)) (by decide) (by decide)) (g := (mkF m 32 #[rv a1, iv (0 : Int32), iv (3 : Int32), rv b185, iv (1 : Int32), rv b_191] [(.int (1 : Int32)), (.ref b_191)])) rfl (by rw [hml]; rfl) (argsL := [(.ref b_191), (.int (1 : Int32))]) (rest := []) (lenOf pd__28__5b_BI_29_C rfl) rfl (by show 2 * 0 + _ ≤ _; exact Nat.le_of_eq rfl) (hb hby d5_32) (fun _ hv => ⟨rfl, rfl, (by decide : 2 + 0 ≤ _), (by decide : 9 + 0 ≤ _)⟩)
        dsimp only [Pt.U, Pt.locs, Pt.cells, Pt.slots] at X192 l192 y192 z192 st192 hQ192
        subst l192 y192 z192
        obtain ⟨rfl, Nq192, e192⟩ := hQ192
        refine own_by st192 ?_
        have N192 := Fr.app N191 Nq192
        show own_Fin _ _ _ _ (T192.setTop (mkF m 35 #[rv a1, iv (0 : Int32), iv (3 : Int32), rv b185, iv (1 : Int32), rv b_191] [(.int c1)]))
        refine own_go (XS.sipush X192.here hx rfl (hb hby d5_35) (Steps.refl _)) ?_
        show own_Fin _ _ _ _ (T192.setTop (mkF m 38 #[rv a1, iv (0 : Int32), iv (3 : Int32), rv b185, iv (1 : Int32), rv b_191] [(.int (255 : Int32)), (.int c1)]))
        refine own_go (XS.icmpYes X192.here hx rfl (pc0 := 38) (pc' := 54) rfl (hb hby d5_38) rfl (tlt (show (255 : Int32) < c1 from hg1)).2.2.1 (by decide) (by decide) (Steps.refl _)) ?_
        show own_Fin _ _ _ _ (T192.setTop (mkF m 54 #[rv a1, iv (0 : Int32), iv (3 : Int32), rv b185, iv (1 : Int32), rv b_191] []))
        refine own_go (XS.aload X192.here hx rfl (hb hby d5_54) rfl rfl (Steps.refl _)) ?_
        show own_Fin _ _ _ _ (T192.setTop (mkF m 56 #[rv a1, iv (0 : Int32), iv (3 : Int32), rv b185, iv (1 : Int32), rv b_191] [(.ref b_191)]))
        obtain ⟨fs193, hr193, hrun193, hended193, hW193, hsame193⟩ := X192.leave (v := some (.ref b_191)) (fun h => by rw [Bd.returns] at h; cases h)
        refine own_done (retOut X192 hx Bd.returns rfl (Or.inr (Or.inr (Or.inr (Or.inr ⟨rfl, rfl, rfl⟩)))) (hb hby d5_56) hr193) hrun193 hended193 ⟨_, _, rfl, ?_, ⟨_, rfl⟩, hW193, hsame193.mono (by decide) (by decide)⟩
        show Qc3g Z a1 k (3 : Int32) c0 c1 c2 h0 n0 _ T192.heap _
        rw [e192]
        exact ⟨b_191, rfl, N192, Kt191, g_b_191, sz_b_191, ⟨1, kb_191, Or.inr ⟨rfl, r191_0⟩⟩⟩
      · by_cases hg2 : (255 : Int32) < c2
        · show own_Fin _ _ _ _ (T185.setTop (mkF m 9 #[rv a1, iv (0 : Int32), iv (3 : Int32), rv b185, .unset, .unset] [(.int (3 : Int32)), (.int (0 : Int32)), (.ref b185), (.int (0 : Int32)), (.ref a1)]))
          obtain ⟨_, _, ⟨T194, L194, k194, n194⟩, -, X194, ⟨Lc194, hQ194, l194, y194, z194⟩, st194⟩ := Jvm.LawKit.callS X185 hx (y := (⟨"java/lang/StringUTF16", "compress", "([CI[BII)I"⟩ : MethodName)) hown (mvT hZ (hw _ (List.mem_of_getElem? (i := 24) rfl))) (mvT hZ (hw _ (List.mem_of_getElem? (i := 25) rfl))) (mvT hZ (hw _ (List.mem_of_getElem? (i := 21) rfl))) (mvT hZ (hw _ (List.mem_of_getElem? (i := 26) rfl))) (by decide) (backOf (W := 0) (rmcmu_3_2 l Z a0 hw [] a1 k b185 k185 c0 c1 c2 h185 n0 Z185 V_a1L_185 V_b185 g_b185 ne_a1_b185 hg0 hg1 hg2) hZ (hw _ (List.mem_of_getElem? (i := 26) rfl)) (hw _ (List.mem_of_getElem? (i := 21) rfl)) (by decide) (by decide)) (g := (mkF m 9 #[rv a1, iv (0 : Int32), iv (3 : Int32), rv b185, .unset, .unset] [(.int (3 : Int32)), (.int (0 : Int32)), (.ref b185), (.int (0 : Int32)), (.ref a1)])) rfl (by rw [hml]; rfl) (argsL := [(.ref a1), (.int (0 : Int32)), (.ref b185), (.int (0 : Int32)), (.int (3 : Int32))]) (rest := []) (lenOf pd__28__5b_CI_5b_BII_29_I rfl) rfl (by show 2 * 0 + _ ≤ _; exact Nat.le_of_eq rfl) (hb hby d5_9) (fun _ hv => ⟨rfl, e185, (by decide : 1 + 0 ≤ _), (by decide : 3 + 0 ≤ _)⟩)
          dsimp only [Pt.U, Pt.locs, Pt.cells, Pt.slots] at X194 l194 y194 z194 st194 hQ194
          subst l194 y194 z194
          refine own_by st194 ?_
          obtain ⟨rfl, Nq194, K194⟩ := hQ194
          have Od194 := Od185.keep K194 (allS g_b185 all0)
          have V_a1L_194 := V_a1L_185.keep K194 (ninS ne_a1_b185 nin0)
          have Z194 : n0 ≤ T194.heap.size := Nat.le_trans Z185 K194.1
          have Kt194 := K185.trans K194 (allS (P := fun x => x ∈ _ ∨ _ ≤ x) (Or.inr sz_b185) all0)
          have N194 := Fr.app N0 Nq194
          show own_Fin _ _ _ _ (T194.setTop (mkF m 12 #[rv a1, iv (0 : Int32), iv (3 : Int32), rv b185, .unset, .unset] [(.int (2 : Int32))]))
          refine own_go (XS.istore X194.here hx rfl (hb hby d5_12) rfl rfl (Steps.refl _)) ?_
          show own_Fin _ _ _ _ (T194.setTop (mkF m 14 #[rv a1, iv (0 : Int32), iv (3 : Int32), rv b185, iv (2 : Int32), .unset] []))
          refine own_go (XS.iload X194.here hx rfl (hb hby d5_14) rfl (Steps.refl _)) ?_
          show own_Fin _ _ _ _ (T194.setTop (mkF m 16 #[rv a1, iv (0 : Int32), iv (3 : Int32), rv b185, iv (2 : Int32), .unset] [(.int (2 : Int32))]))
          refine own_go (XS.iloadN X194.here hx rfl (hb hby d5_16) rfl (Steps.refl _)) ?_
          show own_Fin _ _ _ _ (T194.setTop (mkF m 17 #[rv a1, iv (0 : Int32), iv (3 : Int32), rv b185, iv (2 : Int32), .unset] [(.int (3 : Int32)), (.int (2 : Int32))]))
          refine own_go (XS.icmpNo X194.here hx rfl (hb hby d5_17) rfl (feq (by decide : ¬ ((2 : Int32) = (3 : Int32)))).1 (Steps.refl _)) ?_
          show own_Fin _ _ _ _ (T194.setTop (mkF m 20 #[rv a1, iv (0 : Int32), iv (3 : Int32), rv b185, iv (2 : Int32), .unset] []))
          refine own_go (XS.aloadN X194.here hx rfl (hb hby d5_20) rfl rfl (Steps.refl _)) ?_
          show own_Fin _ _ _ _ (T194.setTop (mkF m 21 #[rv a1, iv (0 : Int32), iv (3 : Int32), rv b185, iv (2 : Int32), .unset] [(.ref a1)]))
          refine own_go (XS.iloadN X194.here hx rfl (hb hby d5_21) rfl (Steps.refl _)) ?_
          show own_Fin _ _ _ _ (T194.setTop (mkF m 22 #[rv a1, iv (0 : Int32), iv (3 : Int32), rv b185, iv (2 : Int32), .unset] [(.int (0 : Int32)), (.ref a1)]))
          refine own_go (XS.iloadN X194.here hx rfl (hb hby d5_22) rfl (Steps.refl _)) ?_
          show own_Fin _ _ _ _ (T194.setTop (mkF m 23 #[rv a1, iv (0 : Int32), iv (3 : Int32), rv b185, iv (2 : Int32), .unset] [(.int (3 : Int32)), (.int (0 : Int32)), (.ref a1)]))
          obtain ⟨_, _, ⟨T195, L195, k195, n195⟩, -, X195, ⟨Lc195, hQ195, l195, y195, z195⟩, st195⟩ := Jvm.LawKit.callS X194 hx (y := (⟨"java/lang/StringUTF16", "toBytes", "([CII)[B"⟩ : MethodName)) hown (mvT hZ (hw _ (List.mem_of_getElem? (i := 79) rfl))) (mvT hZ (hw _ (List.mem_of_getElem? (i := 80) rfl))) (mvT hZ (hw _ (List.mem_of_getElem? (i := 21) rfl))) (mvT hZ (hw _ (List.mem_of_getElem? (i := 81) rfl))) (by decide) (backOf (W := 0) (rmtb_3 l Z a0 hw [] a1 k c0 c1 c2 T194.heap n0 Z194 V_a1L_194 Od194 S__assertionsDisabled S_HI_BYTE_SHIFT S_LO_BYTE_SHIFT) hZ (hw _ (List.mem_of_getElem? (i := 81) rfl)) (hw _ (List.mem_of_getElem? (i := 21) rfl)) (by decide) (by decide)) (g := (mkF m 23 #[rv a1, iv (0 : Int32), iv (3 : Int32), rv b185, iv (2 : Int32), .unset] [(.int (3 : Int32)), (.int (0 : Int32)), (.ref a1)])) rfl (by rw [hml]; rfl) (argsL := [(.ref a1), (.int (0 : Int32)), (.int (3 : Int32))]) (rest := []) (lenOf pd__28__5b_CII_29__5b_B rfl) rfl (by show 2 * 0 + _ ≤ _; exact Nat.le_of_eq rfl) (hb hby d5_23) (fun _ hv => ⟨rfl, rfl, (by decide : 1 + 1 ≤ _), (by decide : 3 + 6 ≤ _)⟩)
          dsimp only [Pt.U, Pt.locs, Pt.cells, Pt.slots] at X195 l195 y195 z195 st195 hQ195
          subst l195 y195 z195
          refine own_by st195 ?_
          obtain ⟨b_195, kb_195, rfl, Nq195, K195, g_b_195, sb_b_195, r195_0⟩ := hQ195
          have ne_a1_b_195 : a1 ≠ b_195 := Nat.ne_of_lt (Nat.lt_of_lt_of_le V_a1L_194.lt sb_b_195)
          have sz_b_195 : h0.size ≤ b_195 := Nat.le_trans Kt194.1 sb_b_195
          have Od195 := Od194.keep K195 all0
          have V_a1L_195 := V_a1L_194.keep K195 nin0
          have Z195 : n0 ≤ T195.heap.size := Nat.le_trans Z194 K195.1
          have Kt195 := Kt194.trans K195 all0
          have N195 := Fr.app N194 Nq195
          show own_Fin _ _ _ _ (T195.setTop (mkF m 26 #[rv a1, iv (0 : Int32), iv (3 : Int32), rv b185, iv (2 : Int32), .unset] [(.ref b_195)]))
          refine own_go (XS.astore X195.here hx rfl (hb hby d5_26) rfl rfl rfl (Steps.refl _)) ?_
          show own_Fin _ _ _ _ (T195.setTop (mkF m 28 #[rv a1, iv (0 : Int32), iv (3 : Int32), rv b185, iv (2 : Int32), rv b_195] []))
          refine own_go (XS.aload X195.here hx rfl (hb hby d5_28) rfl rfl (Steps.refl _)) ?_
          show own_Fin _ _ _ _ (T195.setTop (mkF m 30 #[rv a1, iv (0 : Int32), iv (3 : Int32), rv b185, iv (2 : Int32), rv b_195] [(.ref b_195)]))
          refine own_go (XS.iload X195.here hx rfl (hb hby d5_30) rfl (Steps.refl _)) ?_
          show own_Fin _ _ _ _ (T195.setTop (mkF m 32 #[rv a1, iv (0 : Int32), iv (3 : Int32), rv b185, iv (2 : Int32), rv b_195] [(.int (2 : Int32)), (.ref b_195)]))
          obtain ⟨_, _, ⟨T196, L196, k196, n196⟩, -, X196, ⟨Lc196, hQ196, l196, y196, z196⟩, st196⟩ := Jvm.LawKit.callS X195 hx (y := (⟨"java/lang/StringUTF16", "getChar", "([BI)C"⟩ : MethodName)) hown (mvT hZ (hw _ (List.mem_of_getElem? (i := 95) rfl))) (mvT hZ (hw _ (List.mem_of_getElem? (i := 96) rfl))) (mvT hZ (hw _ (List.mem_of_getElem? (i := 21) rfl))) (mvT hZ (hw _ (List.mem_of_getElem? (i := 97) rfl))) (by decide) (backOf (W := 0) (rmgc_3_2 l Z a0 hw [] b_195 kb_195 c0 c1 c2 T195.heap n0 Z195 r195_0 hr2 Od195 S__assertionsDisabled S_HI_BYTE_SHIFT S_LO_BYTE_SHIFT) hZ (hw _ (List.mem_of_getElem? (i := 97) rfl)) (hw _ (List.mem_of_getElem? (i := 21) rfl)) (by decide) (by decide)) (g := (mkF m 32 #[rv a1, iv (0 : Int32), iv (3 : Int32), rv b185, iv (2 : Int32), rv b_195] [(.int (2 : Int32)), (.ref b_195)])) rfl (by rw [hml]; rfl) (argsL := [(.ref b_195), (.int (2 : Int32))]) (rest := []) (lenOf pd__28__5b_BI_29_C rfl) rfl (by show 2 * 0 + _ ≤ _; exact Nat.le_of_eq rfl) (hb hby d5_32) (fun _ hv => ⟨rfl, rfl, (by decide : 2 + 0 ≤ _), (by decide : 9 + 0 ≤ _)⟩)
          dsimp only [Pt.U, Pt.locs, Pt.cells, Pt.slots] at X196 l196 y196 z196 st196 hQ196
          subst l196 y196 z196
          obtain ⟨rfl, Nq196, e196⟩ := hQ196
          refine own_by st196 ?_
          have N196 := Fr.app N195 Nq196
          show own_Fin _ _ _ _ (T196.setTop (mkF m 35 #[rv a1, iv (0 : Int32), iv (3 : Int32), rv b185, iv (2 : Int32), rv b_195] [(.int c2)]))
          refine own_go (XS.sipush X196.here hx rfl (hb hby d5_35) (Steps.refl _)) ?_
          show own_Fin _ _ _ _ (T196.setTop (mkF m 38 #[rv a1, iv (0 : Int32), iv (3 : Int32), rv b185, iv (2 : Int32), rv b_195] [(.int (255 : Int32)), (.int c2)]))
          refine own_go (XS.icmpYes X196.here hx rfl (pc0 := 38) (pc' := 54) rfl (hb hby d5_38) rfl (tlt (show (255 : Int32) < c2 from hg2)).2.2.1 (by decide) (by decide) (Steps.refl _)) ?_
          show own_Fin _ _ _ _ (T196.setTop (mkF m 54 #[rv a1, iv (0 : Int32), iv (3 : Int32), rv b185, iv (2 : Int32), rv b_195] []))
          refine own_go (XS.aload X196.here hx rfl (hb hby d5_54) rfl rfl (Steps.refl _)) ?_
          show own_Fin _ _ _ _ (T196.setTop (mkF m 56 #[rv a1, iv (0 : Int32), iv (3 : Int32), rv b185, iv (2 : Int32), rv b_195] [(.ref b_195)]))
          obtain ⟨fs197, hr197, hrun197, hended197, hW197, hsame197⟩ := X196.leave (v := some (.ref b_195)) (fun h => by rw [Bd.returns] at h; cases h)
          refine own_done (retOut X196 hx Bd.returns rfl (Or.inr (Or.inr (Or.inr (Or.inr ⟨rfl, rfl, rfl⟩)))) (hb hby d5_56) hr197) hrun197 hended197 ⟨_, _, rfl, ?_, ⟨_, rfl⟩, hW197, hsame197.mono (by decide) (by decide)⟩
          show Qc3g Z a1 k (3 : Int32) c0 c1 c2 h0 n0 _ T196.heap _
          rw [e196]
          exact ⟨b_195, rfl, N196, Kt195, g_b_195, sz_b_195, ⟨1, kb_195, Or.inr ⟨rfl, r195_0⟩⟩⟩
        · show own_Fin _ _ _ _ (T185.setTop (mkF m 9 #[rv a1, iv (0 : Int32), iv (3 : Int32), rv b185, .unset, .unset] [(.int (3 : Int32)), (.int (0 : Int32)), (.ref b185), (.int (0 : Int32)), (.ref a1)]))
          obtain ⟨_, _, ⟨T198, L198, k198, n198⟩, -, X198, ⟨Lc198, hQ198, l198, y198, z198⟩, st198⟩ := Jvm.LawKit.callS X185 hx (y := (⟨"java/lang/StringUTF16", "compress", "([CI[BII)I"⟩ : MethodName)) hown (mvT hZ (hw _ (List.mem_of_getElem? (i := 24) rfl))) (mvT hZ (hw _ (List.mem_of_getElem? (i := 25) rfl))) (mvT hZ (hw _ (List.mem_of_getElem? (i := 21) rfl))) (mvT hZ (hw _ (List.mem_of_getElem? (i := 26) rfl))) (by decide) (backOf (W := 0) (rmcm_3 l Z a0 hw [] a1 k c0 c1 c2 b185 k185 h185 n0 Z185 V_a1L_185 V_b185 g_b185 ne_a1_b185 hg0 hg1 hg2) hZ (hw _ (List.mem_of_getElem? (i := 26) rfl)) (hw _ (List.mem_of_getElem? (i := 21) rfl)) (by decide) (by decide)) (g := (mkF m 9 #[rv a1, iv (0 : Int32), iv (3 : Int32), rv b185, .unset, .unset] [(.int (3 : Int32)), (.int (0 : Int32)), (.ref b185), (.int (0 : Int32)), (.ref a1)])) rfl (by rw [hml]; rfl) (argsL := [(.ref a1), (.int (0 : Int32)), (.ref b185), (.int (0 : Int32)), (.int (3 : Int32))]) (rest := []) (lenOf pd__28__5b_CI_5b_BII_29_I rfl) rfl (by show 2 * 0 + _ ≤ _; exact Nat.le_of_eq rfl) (hb hby d5_9) (fun _ hv => ⟨rfl, e185, (by decide : 1 + 0 ≤ _), (by decide : 3 + 0 ≤ _)⟩)
          dsimp only [Pt.U, Pt.locs, Pt.cells, Pt.slots] at X198 l198 y198 z198 st198 hQ198
          subst l198 y198 z198
          refine own_by st198 ?_
          obtain ⟨rfl, Nq198, K198, r198_0⟩ := hQ198
          have Od198 := Od185.keep K198 (allS g_b185 all0)
          have V_a1L_198 := V_a1L_185.keep K198 (ninS ne_a1_b185 nin0)
          have Z198 : n0 ≤ T198.heap.size := Nat.le_trans Z185 K198.1
          have Kt198 := K185.trans K198 (allS (P := fun x => x ∈ _ ∨ _ ≤ x) (Or.inr sz_b185) all0)
          have N198 := Fr.app N0 Nq198
          show own_Fin _ _ _ _ (T198.setTop (mkF m 12 #[rv a1, iv (0 : Int32), iv (3 : Int32), rv b185, .unset, .unset] [(.int (3 : Int32))]))
          refine own_go (XS.istore X198.here hx rfl (hb hby d5_12) rfl rfl (Steps.refl _)) ?_
          show own_Fin _ _ _ _ (T198.setTop (mkF m 14 #[rv a1, iv (0 : Int32), iv (3 : Int32), rv b185, iv (3 : Int32), .unset] []))
          refine own_go (XS.iload X198.here hx rfl (hb hby d5_14) rfl (Steps.refl _)) ?_
          show own_Fin _ _ _ _ (T198.setTop (mkF m 16 #[rv a1, iv (0 : Int32), iv (3 : Int32), rv b185, iv (3 : Int32), .unset] [(.int (3 : Int32))]))
          refine own_go (XS.iloadN X198.here hx rfl (hb hby d5_16) rfl (Steps.refl _)) ?_
          show own_Fin _ _ _ _ (T198.setTop (mkF m 17 #[rv a1, iv (0 : Int32), iv (3 : Int32), rv b185, iv (3 : Int32), .unset] [(.int (3 : Int32)), (.int (3 : Int32))]))
          refine own_go (XS.icmpYes X198.here hx rfl (pc0 := 17) (pc' := 57) rfl (hb hby d5_17) rfl (teq (by decide : (3 : Int32) = (3 : Int32))).1 (by decide) (by decide) (Steps.refl _)) ?_
          show own_Fin _ _ _ _ (T198.setTop (mkF m 57 #[rv a1, iv (0 : Int32), iv (3 : Int32), rv b185, iv (3 : Int32), .unset] []))
          refine own_go (XS.aloadN X198.here hx rfl (hb hby d5_57) rfl rfl (Steps.refl _)) ?_
          show own_Fin _ _ _ _ (T198.setTop (mkF m 58 #[rv a1, iv (0 : Int32), iv (3 : Int32), rv b185, iv (3 : Int32), .unset] [(.ref b185)]))
          obtain ⟨fs199, hr199, hrun199, hended199, hW199, hsame199⟩ := X198.leave (v := some (.ref b185)) (fun h => by rw [Bd.returns] at h; cases h)
          refine own_done (retOut X198 hx Bd.returns rfl (Or.inr (Or.inr (Or.inr (Or.inr ⟨rfl, rfl, rfl⟩)))) (hb hby d5_58) hr199) hrun199 hended199 ⟨_, _, rfl, ?_, ⟨_, rfl⟩, hW199, hsame199.mono (by decide) (by decide)⟩
          show Qc3g Z a1 k (3 : Int32) c0 c1 c2 h0 n0 _ T198.heap _
          exact ⟨b185, rfl, N198, Kt198, g_b185, sz_b185, ⟨0, k185, Or.inl ⟨rfl, own_all3 hg0 hg1 hg2, r198_0⟩⟩⟩
theorem ef_cfL (m : MethodId) (x0 : Addr) (x1 : Int32) : entryFrame m #[(.ref x0), (.int x1)] 2 = mkF m 0 #[.val (.ref x0), .val (.int x1)] [] := by first | (simp [entryFrame, mkF, argsToLocals, Value.category]; done) | rfl
def QcfL (Z : State) (a1 : Addr) (k : ClassId) (n : Int32) (c0 : Int32) (c1 : Int32) (c2 : Int32) (h0 : Heap) (n0 : Nat) (v : Option Value) (h : Heap) (L : List Loc) : Prop := v = some (.int (0 : Int32)) ∧ Fr n0 L ∧ h = h0
abbrev GcfL (Z : State) (a1 : Addr) (k : ClassId) (n : Int32) (c0 : Int32) (c1 : Int32) (c2 : Int32) (h0 : Heap) (n0 : Nat) (s : State) : Outcome → State → Prop := fun o U' => ∃ v L, o = .returned v ∧ QcfL Z a1 k n c0 c1 c2 h0 n0 v U'.heap L ∧ FrameEnd s o U' L ({ frames := 0, cells := 0, slots := 0, locals := 0 } : Room).cells ({ frames := 0, cells := 0, slots := 0, locals := 0 } : Room).slots
set_option maxRecDepth 65536 in
set_option maxHeartbeats 40000000 in
theorem rmcfL (l : Launch) (Z : State) (a0 : Array Value) (hw : ∀ d ∈ tables_1, d.before a0 Z = true) (ws : List Jvm.Cond) (a1 : Addr) (k : ClassId) (n : Int32) (c0 : Int32) (c1 : Int32) (c2 : Int32) (h0 : Heap) (n0 : Nat) (Z0 : n0 ≤ h0.size) (V_a1 : Arv Z h0 a1 k .byte n (List.map Value.int (own_lo (own_ca n c0 c1 c2))) (.int (0 : Int32))) (hn : n = (1 : Int32) ∨ n = (2 : Int32) ∨ n = (3 : Int32)) :
    MetFree l (⟨"java/lang/StringUTF16", "coderFromArrayLen", "([BI)B"⟩ : MethodName) (head1 (Jvm.Cond.code (⟨"java/lang/StringUTF16", "coderFromArrayLen", "([BI)B"⟩ : MethodName) jdk_52_method_15_code 2 (some .byte) :: ws) ({ frames := 0, cells := 0, slots := 0, locals := 0 } : Room)) (fun a U => a = #[(.ref a1), (.int n)] ∧ Z.Warmed39 U.vm ∧ U.heap = h0) (fun _ _ _ _ _ => True) (fun _ U o U' => ∃ v L, o = .returned v ∧ QcfL Z a1 k n c0 c1 c2 h0 n0 v U'.heap L ∧ FrameEnd U o U' L ({ frames := 0, cells := 0, slots := 0, locals := 0 } : Room).cells ({ frames := 0, cells := 0, slots := 0, locals := 0 } : Room).slots) := by
  refine MetFree.of_bodySF (plainFor_of_name pn_java_lang_StringUTF16) hisR ?_
  intro p e s m args below meth c s₁ Bd hml0 hP hK
  obtain ⟨rfl, hZ, hh⟩ := hP
  have hx := Bd.exec
  have hby := Bd.bytes
  have hml : c.maxLocals = 2 := hml0
  have hown : s.vm.findClass "java/lang/StringUTF16" = some m.cls := findClass_of_methodNamed Bd.named
  have hnm := (name_of_methodNamed Bd.named Bd.method).1
  have X0 : Stand p l e ({ frames := 0, cells := 0, slots := 0, locals := 0 } : Room) s m #[(.ref a1), (.int n)] below meth c s₁ [] 0 0 := Stand.of_body Bd
  have e0 : s₁.heap = h0 := by rw [← hh, Bd.state]; rfl
  have es0 : s.heap = h0 := hh
  have N0 := Fr.nil n0
  show own_Fin p e below (GcfL Z a1 k n c0 c1 c2 h0 n0 s) (s₁.setTop (entryFrame m #[(.ref a1), (.int n)] 2))
  rw [ef_cfL m a1 n]
  refine own_go (XS.iloadN X0.here hx rfl (hb hby d7_0) rfl (Steps.refl _)) ?_
  show own_Fin _ _ _ _ (s₁.setTop (mkF m 1 #[rv a1, iv n] [(.int n)]))
  refine own_go (XS.aloadN X0.here hx rfl (hb hby d7_1) rfl rfl (Steps.refl _)) ?_
  show own_Fin _ _ _ _ (s₁.setTop (mkF m 2 #[rv a1, iv n] [(.ref a1), (.int n)]))
  obtain ⟨cl200, Ar200, qa200, Sa200, Na200, Ha200, Ga200⟩ := id V_a1
  refine own_by (X0.arraylength hx (by rw [e0]; exact Ar200.1) (State.isArrayOf_alike hZ.alike Ar200.2.1) (g := (mkF m 2 #[rv a1, iv n] [(.ref a1), (.int n)])) rfl rfl (hb hby d7_2)) ?_
  rw [len_of Sa200 Na200]
  show own_Fin _ _ _ _ (s₁.setTop (mkF m 3 #[rv a1, iv n] [(.int n), (.int n)]))
  refine own_go (XS.isub X0.here hx rfl (hb hby d7_3) rfl (Steps.refl _)) ?_
  show own_Fin _ _ _ _ (s₁.setTop (mkF m 4 #[rv a1, iv n] [(.int (n - n))]))
  refine own_go (XS.bipush X0.here hx rfl (hb hby d7_4) (Steps.refl _)) ?_
  show own_Fin _ _ _ _ (s₁.setTop (mkF m 6 #[rv a1, iv n] [(.int (31 : Int32)), (.int (n - n))]))
  refine own_go (XS.iushr X0.here hx rfl (hb hby d7_6) rfl (Steps.refl _)) ?_
  show own_Fin _ _ _ _ (s₁.setTop (mkF m 7 #[rv a1, iv n] [(.int (((n - n).toUInt32 >>> ((31 : Int32) &&& 31).toUInt32).toInt32))]))
  refine own_go (XS.i2b X0.here hx rfl (hb hby d7_7) rfl (Steps.refl _)) ?_
  show own_Fin _ _ _ _ (s₁.setTop (mkF m 8 #[rv a1, iv n] [(.int ((((n - n).toUInt32 >>> ((31 : Int32) &&& 31).toUInt32).toInt32).toInt8.toInt32))]))
  obtain ⟨fs201, hr201, hrun201, hended201, hW201, hsame201⟩ := X0.leave (v := some (.int (nar .byte ((((n - n).toUInt32 >>> ((31 : Int32) &&& 31).toUInt32).toInt32).toInt8.toInt32)))) (fun h => by rw [Bd.returns] at h; cases h)
  refine own_done (retN X0 hx (t := .byte) Bd.returns (by simp) (hb hby d7_8) hr201) hrun201 hended201 ⟨_, _, rfl, ?_, ⟨_, rfl⟩, hW201, hsame201.mono (by decide) (by decide)⟩
  show QcfL Z a1 k n c0 c1 c2 h0 n0 _ s₁.heap _
  rw [e0]
  exact ⟨(by rcases hn with rfl | rfl | rfl <;> decide), N0, rfl⟩
theorem ef_cfU (m : MethodId) (x0 : Addr) (x1 : Int32) : entryFrame m #[(.ref x0), (.int x1)] 2 = mkF m 0 #[.val (.ref x0), .val (.int x1)] [] := by first | (simp [entryFrame, mkF, argsToLocals, Value.category]; done) | rfl
def QcfU (Z : State) (a1 : Addr) (k : ClassId) (n : Int32) (c0 : Int32) (c1 : Int32) (c2 : Int32) (h0 : Heap) (n0 : Nat) (v : Option Value) (h : Heap) (L : List Loc) : Prop := v = some (.int (1 : Int32)) ∧ Fr n0 L ∧ h = h0
abbrev GcfU (Z : State) (a1 : Addr) (k : ClassId) (n : Int32) (c0 : Int32) (c1 : Int32) (c2 : Int32) (h0 : Heap) (n0 : Nat) (s : State) : Outcome → State → Prop := fun o U' => ∃ v L, o = .returned v ∧ QcfU Z a1 k n c0 c1 c2 h0 n0 v U'.heap L ∧ FrameEnd s o U' L ({ frames := 0, cells := 0, slots := 0, locals := 0 } : Room).cells ({ frames := 0, cells := 0, slots := 0, locals := 0 } : Room).slots
set_option maxRecDepth 65536 in
set_option maxHeartbeats 40000000 in
theorem rmcfU (l : Launch) (Z : State) (a0 : Array Value) (hw : ∀ d ∈ tables_1, d.before a0 Z = true) (ws : List Jvm.Cond) (a1 : Addr) (k : ClassId) (n : Int32) (c0 : Int32) (c1 : Int32) (c2 : Int32) (h0 : Heap) (n0 : Nat) (Z0 : n0 ≤ h0.size) (V_a1 : Arv Z h0 a1 k .byte (n + n) (List.map Value.int (own_u16 (own_ca n c0 c1 c2))) (.int (0 : Int32))) (hn : n = (1 : Int32) ∨ n = (2 : Int32) ∨ n = (3 : Int32)) :
    MetFree l (⟨"java/lang/StringUTF16", "coderFromArrayLen", "([BI)B"⟩ : MethodName) (head1 (Jvm.Cond.code (⟨"java/lang/StringUTF16", "coderFromArrayLen", "([BI)B"⟩ : MethodName) jdk_52_method_15_code 2 (some .byte) :: ws) ({ frames := 0, cells := 0, slots := 0, locals := 0 } : Room)) (fun a U => a = #[(.ref a1), (.int n)] ∧ Z.Warmed39 U.vm ∧ U.heap = h0) (fun _ _ _ _ _ => True) (fun _ U o U' => ∃ v L, o = .returned v ∧ QcfU Z a1 k n c0 c1 c2 h0 n0 v U'.heap L ∧ FrameEnd U o U' L ({ frames := 0, cells := 0, slots := 0, locals := 0 } : Room).cells ({ frames := 0, cells := 0, slots := 0, locals := 0 } : Room).slots) := by
  refine MetFree.of_bodySF (plainFor_of_name pn_java_lang_StringUTF16) hisR ?_
  intro p e s m args below meth c s₁ Bd hml0 hP hK
  obtain ⟨rfl, hZ, hh⟩ := hP
  have hx := Bd.exec
  have hby := Bd.bytes
  have hml : c.maxLocals = 2 := hml0
  have hown : s.vm.findClass "java/lang/StringUTF16" = some m.cls := findClass_of_methodNamed Bd.named
  have hnm := (name_of_methodNamed Bd.named Bd.method).1
  have X0 : Stand p l e ({ frames := 0, cells := 0, slots := 0, locals := 0 } : Room) s m #[(.ref a1), (.int n)] below meth c s₁ [] 0 0 := Stand.of_body Bd
  have e0 : s₁.heap = h0 := by rw [← hh, Bd.state]; rfl
  have es0 : s.heap = h0 := hh
  have N0 := Fr.nil n0
  show own_Fin p e below (GcfU Z a1 k n c0 c1 c2 h0 n0 s) (s₁.setTop (entryFrame m #[(.ref a1), (.int n)] 2))
  rw [ef_cfU m a1 n]
  refine own_go (XS.iloadN X0.here hx rfl (hb hby d7_0) rfl (Steps.refl _)) ?_
  show own_Fin _ _ _ _ (s₁.setTop (mkF m 1 #[rv a1, iv n] [(.int n)]))
  refine own_go (XS.aloadN X0.here hx rfl (hb hby d7_1) rfl rfl (Steps.refl _)) ?_
  show own_Fin _ _ _ _ (s₁.setTop (mkF m 2 #[rv a1, iv n] [(.ref a1), (.int n)]))
  obtain ⟨cl202, Ar202, qa202, Sa202, Na202, Ha202, Ga202⟩ := id V_a1
  refine own_by (X0.arraylength hx (by rw [e0]; exact Ar202.1) (State.isArrayOf_alike hZ.alike Ar202.2.1) (g := (mkF m 2 #[rv a1, iv n] [(.ref a1), (.int n)])) rfl rfl (hb hby d7_2)) ?_
  rw [len_of Sa202 Na202]
  show own_Fin _ _ _ _ (s₁.setTop (mkF m 3 #[rv a1, iv n] [(.int (n + n)), (.int n)]))
  refine own_go (XS.isub X0.here hx rfl (hb hby d7_3) rfl (Steps.refl _)) ?_
  show own_Fin _ _ _ _ (s₁.setTop (mkF m 4 #[rv a1, iv n] [(.int (n - (n + n)))]))
  refine own_go (XS.bipush X0.here hx rfl (hb hby d7_4) (Steps.refl _)) ?_
  show own_Fin _ _ _ _ (s₁.setTop (mkF m 6 #[rv a1, iv n] [(.int (31 : Int32)), (.int (n - (n + n)))]))
  refine own_go (XS.iushr X0.here hx rfl (hb hby d7_6) rfl (Steps.refl _)) ?_
  show own_Fin _ _ _ _ (s₁.setTop (mkF m 7 #[rv a1, iv n] [(.int (((n - (n + n)).toUInt32 >>> ((31 : Int32) &&& 31).toUInt32).toInt32))]))
  refine own_go (XS.i2b X0.here hx rfl (hb hby d7_7) rfl (Steps.refl _)) ?_
  show own_Fin _ _ _ _ (s₁.setTop (mkF m 8 #[rv a1, iv n] [(.int ((((n - (n + n)).toUInt32 >>> ((31 : Int32) &&& 31).toUInt32).toInt32).toInt8.toInt32))]))
  obtain ⟨fs203, hr203, hrun203, hended203, hW203, hsame203⟩ := X0.leave (v := some (.int (nar .byte ((((n - (n + n)).toUInt32 >>> ((31 : Int32) &&& 31).toUInt32).toInt32).toInt8.toInt32)))) (fun h => by rw [Bd.returns] at h; cases h)
  refine own_done (retN X0 hx (t := .byte) Bd.returns (by simp) (hb hby d7_8) hr203) hrun203 hended203 ⟨_, _, rfl, ?_, ⟨_, rfl⟩, hW203, hsame203.mono (by decide) (by decide)⟩
  show QcfU Z a1 k n c0 c1 c2 h0 n0 _ s₁.heap _
  rw [e0]
  exact ⟨(by rcases hn with rfl | rfl | rfl <;> decide), N0, rfl⟩
theorem d3_0 : decode jdk_42_method_149_code 0 = .ok (.aload_n 0, 1) := by decide +kernel
theorem d3_1 : decode jdk_42_method_149_code 1 = .ok (.invokespecial 1, 3) := by decide +kernel
theorem d3_4 : decode jdk_42_method_149_code 4 = .ok (.iload_n 3, 1) := by decide +kernel
theorem d3_5 : decode jdk_42_method_149_code 5 = .ok (.ifCond .ne 22, 3) := by decide +kernel
theorem d3_8 : decode jdk_42_method_149_code 8 = .ok (.aload_n 0, 1) := by decide +kernel
theorem d3_9 : decode jdk_42_method_149_code 9 = .ok (.ldc 7, 2) := by decide +kernel
theorem d3_11 : decode jdk_42_method_149_code 11 = .ok (.getfield 9, 3) := by decide +kernel
theorem d3_14 : decode jdk_42_method_149_code 14 = .ok (.putfield 9, 3) := by decide +kernel
theorem d3_17 : decode jdk_42_method_149_code 17 = .ok (.aload_n 0, 1) := by decide +kernel
theorem d3_18 : decode jdk_42_method_149_code 18 = .ok (.ldc 7, 2) := by decide +kernel
theorem d3_20 : decode jdk_42_method_149_code 20 = .ok (.getfield 15, 3) := by decide +kernel
theorem d3_23 : decode jdk_42_method_149_code 23 = .ok (.putfield 15, 3) := by decide +kernel
theorem d3_26 : decode jdk_42_method_149_code 26 = .ok (.return_, 1) := by decide +kernel
theorem d3_27 : decode jdk_42_method_149_code 27 = .ok (.getstatic 38, 3) := by decide +kernel
theorem d3_30 : decode jdk_42_method_149_code 30 = .ok (.ifCond .eq 28, 3) := by decide +kernel
theorem d3_33 : decode jdk_42_method_149_code 33 = .ok (.aload_n 1, 1) := by decide +kernel
theorem d3_34 : decode jdk_42_method_149_code 34 = .ok (.iload_n 2, 1) := by decide +kernel
theorem d3_35 : decode jdk_42_method_149_code 35 = .ok (.iload_n 3, 1) := by decide +kernel
theorem d3_36 : decode jdk_42_method_149_code 36 = .ok (.invokestatic 177, 3) := by decide +kernel
theorem d3_39 : decode jdk_42_method_149_code 39 = .ok (.astore 5, 2) := by decide +kernel
theorem d3_41 : decode jdk_42_method_149_code 41 = .ok (.aload_n 0, 1) := by decide +kernel
theorem d3_42 : decode jdk_42_method_149_code 42 = .ok (.aload 5, 2) := by decide +kernel
theorem d3_44 : decode jdk_42_method_149_code 44 = .ok (.iload_n 3, 1) := by decide +kernel
theorem d3_45 : decode jdk_42_method_149_code 45 = .ok (.invokestatic 47, 3) := by decide +kernel
theorem d3_48 : decode jdk_42_method_149_code 48 = .ok (.putfield 15, 3) := by decide +kernel
theorem d3_51 : decode jdk_42_method_149_code 51 = .ok (.aload_n 0, 1) := by decide +kernel
theorem d3_52 : decode jdk_42_method_149_code 52 = .ok (.aload 5, 2) := by decide +kernel
theorem d3_54 : decode jdk_42_method_149_code 54 = .ok (.putfield 9, 3) := by decide +kernel
theorem d3_57 : decode jdk_42_method_149_code 57 = .ok (.return_, 1) := by decide +kernel
theorem d3_58 : decode jdk_42_method_149_code 58 = .ok (.aload_n 0, 1) := by decide +kernel
theorem d3_59 : decode jdk_42_method_149_code 59 = .ok (.iconst 1, 1) := by decide +kernel
theorem d3_60 : decode jdk_42_method_149_code 60 = .ok (.putfield 15, 3) := by decide +kernel
theorem d3_63 : decode jdk_42_method_149_code 63 = .ok (.aload_n 0, 1) := by decide +kernel
theorem d3_64 : decode jdk_42_method_149_code 64 = .ok (.aload_n 1, 1) := by decide +kernel
theorem d3_65 : decode jdk_42_method_149_code 65 = .ok (.iload_n 2, 1) := by decide +kernel
theorem d3_66 : decode jdk_42_method_149_code 66 = .ok (.iload_n 3, 1) := by decide +kernel
theorem d3_67 : decode jdk_42_method_149_code 67 = .ok (.invokestatic 180, 3) := by decide +kernel
theorem d3_70 : decode jdk_42_method_149_code 70 = .ok (.putfield 9, 3) := by decide +kernel
theorem d3_73 : decode jdk_42_method_149_code 73 = .ok (.return_, 1) := by decide +kernel
theorem pn_java_lang_String : plainName "java/lang/String" = true := by first | (simp [plainName, overriddenIn]; done) | decide +kernel
theorem ef_i4g (m : MethodId) (x0 : Addr) (x1 : Addr) (x2 : Int32) (x3 : Int32) : entryFrame m #[(.ref x0), (.ref x1), (.int x2), (.int x3), .null] 6 = mkF m 0 #[.val (.ref x0), .val (.ref x1), .val (.int x2), .val (.int x3), .val .null, .unset] [] := by first | (simp [entryFrame, mkF, argsToLocals, Value.category]; done) | rfl
def Qi4g (Z : State) (a1 : Addr) (a2 : Addr) (k : ClassId) (cs : Int32) (n : Int32) (c0 : Int32) (c1 : Int32) (c2 : Int32) (h0 : Heap) (n0 : Nat) (v : Option Value) (h : Heap) (L : List Loc) : Prop := v = none ∧ Fr n0 L ∧ Keep h0 h [a1] ∧ own_Str Z h a1 n c0 c1 c2
abbrev Gi4g (Z : State) (a1 : Addr) (a2 : Addr) (k : ClassId) (cs : Int32) (n : Int32) (c0 : Int32) (c1 : Int32) (c2 : Int32) (h0 : Heap) (n0 : Nat) (s : State) : Outcome → State → Prop := fun o U' => ∃ v L, o = .returned v ∧ Qi4g Z a1 a2 k cs n c0 c1 c2 h0 n0 v U'.heap L ∧ FrameEnd s o U' L ({ frames := 4, cells := 2, slots := 9, locals := 88 } : Room).cells ({ frames := 4, cells := 2, slots := 9, locals := 88 } : Room).slots
theorem pd__28__5b_BI_29_B : parseMethodDescriptor "([BI)B" = some ⟨[(.array .byte), .int], some .byte⟩ := by decide +kernel
set_option maxRecDepth 65536 in
set_option maxHeartbeats 40000000 in
theorem rmi4g (l : Launch) (Z : State) (a0 : Array Value) (hw : ∀ d ∈ tables_1, d.before a0 Z = true) (ws : List Jvm.Cond) (a1 : Addr) (a2 : Addr) (k : ClassId) (cs : Int32) (n : Int32) (c0 : Int32) (c1 : Int32) (c2 : Int32) (h0 : Heap) (n0 : Nat) (Z0 : n0 ≤ h0.size) (E_a1 : Exa Z h0 a1 "java/lang/String") (F_value_a1 : Fld Z h0 a1 "java/lang/String" "value" "[B" .null) (F_coder_a1 : Fld Z h0 a1 "java/lang/String" "coder" "B" (.int (0 : Int32))) (g_a1 : n0 ≤ a1) (O0 : Old Z n0 h0) (S__assertionsDisabled : Sta Z Z.heap "java/lang/StringUTF16" "$assertionsDisabled" "Z" (.int (1 : Int32))) (S_HI_BYTE_SHIFT : Sta Z Z.heap "java/lang/StringUTF16" "HI_BYTE_SHIFT" "I" (.int (0 : Int32))) (S_LO_BYTE_SHIFT : Sta Z Z.heap "java/lang/StringUTF16" "LO_BYTE_SHIFT" "I" (.int (8 : Int32))) (S_COMPACT_STRINGS : Sta Z Z.heap "java/lang/String" "COMPACT_STRINGS" "Z" (.int cs)) (hcs : ¬ cs = (0 : Int32)) (V_a2 : Arv Z h0 a2 k .char n (List.map Value.int (own_ca n c0 c1 c2)) (.int (0 : Int32))) (hn : n = (1 : Int32) ∨ n = (2 : Int32) ∨ n = (3 : Int32)) (hr0 : own_ch c0) (hr1 : own_ch c1) (hr2 : own_ch c2) :
    MetFree l (⟨"java/lang/String", "<init>", "([CIILjava/lang/Void;)V"⟩ : MethodName) (head1 (Jvm.Cond.code (⟨"java/lang/String", "<init>", "([CIILjava/lang/Void;)V"⟩ : MethodName) jdk_42_method_149_code 6 none :: ws) ({ frames := 4, cells := 2, slots := 9, locals := 88 } : Room)) (fun a U => a = #[(.ref a1), (.ref a2), (.int (0 : Int32)), (.int n), .null] ∧ Z.Warmed39 U.vm ∧ U.heap = h0) (fun _ _ _ _ _ => True) (fun _ U o U' => ∃ v L, o = .returned v ∧ Qi4g Z a1 a2 k cs n c0 c1 c2 h0 n0 v U'.heap L ∧ FrameEnd U o U' L ({ frames := 4, cells := 2, slots := 9, locals := 88 } : Room).cells ({ frames := 4, cells := 2, slots := 9, locals := 88 } : Room).slots) := by
  refine MetFree.of_bodySF (plainFor_of_name pn_java_lang_String) hisR ?_
  intro p e s m args below meth c s₁ Bd hml0 hP hK
  obtain ⟨rfl, hZ, hh⟩ := hP
  have hx := Bd.exec
  have hby := Bd.bytes
  have hml : c.maxLocals = 6 := hml0
  have hown : s.vm.findClass "java/lang/String" = some m.cls := findClass_of_methodNamed Bd.named
  have hnm := (name_of_methodNamed Bd.named Bd.method).1
  have X0 : Stand p l e ({ frames := 4, cells := 2, slots := 9, locals := 88 } : Room) s m #[(.ref a1), (.ref a2), (.int (0 : Int32)), (.int n), .null] below meth c s₁ [] 0 0 := Stand.of_body Bd
  have e0 : s₁.heap = h0 := by rw [← hh, Bd.state]; rfl
  have es0 : s.heap = h0 := hh
  have N0 := Fr.nil n0
  show own_Fin p e below (Gi4g Z a1 a2 k cs n c0 c1 c2 h0 n0 s) (s₁.setTop (entryFrame m #[(.ref a1), (.ref a2), (.int (0 : Int32)), (.int n), .null] 6))
  rw [ef_i4g m a1 a2 (0 : Int32) n]
  have Kz := Keep.refl h0 [a1]
  refine own_go (XS.aloadN X0.here hx rfl (hb hby d3_0) rfl rfl (Steps.refl _)) ?_
  show own_Fin _ _ _ _ (s₁.setTop (mkF m 1 #[rv a1, rv a2, iv (0 : Int32), iv n, .val .null, .unset] [(.ref a1)]))
  obtain ⟨T204, X204, e204, st204⟩ := initO X0 hx hZ hown (hw _ (List.mem_of_getElem? (i := 15) rfl)) (hw _ (List.mem_of_getElem? (i := 16) rfl)) (hw _ (List.mem_of_getElem? (i := 17) rfl)) e0 (g := (mkF m 1 #[rv a1, rv a2, iv (0 : Int32), iv n, .val .null, .unset] [(.ref a1)])) rfl (by rw [hml]; rfl) rfl (hb hby d3_1) (by decide) (W := 0) (by show 2 * 0 + _ ≤ _; exact Nat.le_of_eq rfl) (by decide)
  refine own_by st204 ?_
  show own_Fin _ _ _ _ (T204.setTop (mkF m 4 #[rv a1, rv a2, iv (0 : Int32), iv n, .val .null, .unset] []))
  refine own_go (XS.iloadN X204.here hx rfl (hb hby d3_4) rfl (Steps.refl _)) ?_
  show own_Fin _ _ _ _ (T204.setTop (mkF m 5 #[rv a1, rv a2, iv (0 : Int32), iv n, .val .null, .unset] [(.int n)]))
  refine own_go (XS.ifYes X204.here hx rfl (pc0 := 5) (pc' := 27) rfl (hb hby d3_5) rfl ((if0 _ _).trans (feq (show ¬ (n = (0 : Int32)) from (by rcases hn with rfl | rfl | rfl <;> decide))).2) (by decide) (by decide) (Steps.refl _)) ?_
  show own_Fin _ _ _ _ (T204.setTop (mkF m 27 #[rv a1, rv a2, iv (0 : Int32), iv n, .val .null, .unset] []))
  obtain ⟨T205, X205, e205, st205⟩ := getS2 X204 hx hZ hown (host := "") (Or.inl (hw _ (List.mem_of_getElem? (i := 18) rfl))) Via.refl e204 (S_COMPACT_STRINGS.ext O0.2) (g := (mkF m 27 #[rv a1, rv a2, iv (0 : Int32), iv n, .val .null, .unset] [])) rfl (hb hby d3_27)
  refine own_by st205 ?_
  show own_Fin _ _ _ _ (T205.setTop (mkF m 30 #[rv a1, rv a2, iv (0 : Int32), iv n, .val .null, .unset] [(.int cs)]))
  refine own_go (XS.ifNo X205.here hx rfl (hb hby d3_30) rfl ((if0 _ _).trans (feq (show ¬ (cs = (0 : Int32)) from hcs)).1) (Steps.refl _)) ?_
  show own_Fin _ _ _ _ (T205.setTop (mkF m 33 #[rv a1, rv a2, iv (0 : Int32), iv n, .val .null, .unset] []))
  refine own_go (XS.aloadN X205.here hx rfl (hb hby d3_33) rfl rfl (Steps.refl _)) ?_
  show own_Fin _ _ _ _ (T205.setTop (mkF m 34 #[rv a1, rv a2, iv (0 : Int32), iv n, .val .null, .unset] [(.ref a2)]))
  refine own_go (XS.iloadN X205.here hx rfl (hb hby d3_34) rfl (Steps.refl _)) ?_
  show own_Fin _ _ _ _ (T205.setTop (mkF m 35 #[rv a1, rv a2, iv (0 : Int32), iv n, .val .null, .unset] [(.int (0 : Int32)), (.ref a2)]))
  refine own_go (XS.iloadN X205.here hx rfl (hb hby d3_35) rfl (Steps.refl _)) ?_
  show own_Fin _ _ _ _ (T205.setTop (mkF m 36 #[rv a1, rv a2, iv (0 : Int32), iv n, .val .null, .unset] [(.int n), (.int (0 : Int32)), (.ref a2)]))
  obtain ⟨_, _, ⟨T206, L206, k206, n206⟩, -, X206, ⟨Lc206, hQ206, l206, y206, z206⟩, st206⟩ := Jvm.LawKit.callS X205 hx (y := (⟨"java/lang/StringUTF16", "compress", "([CII)[B"⟩ : MethodName)) hown (mvT hZ (hw _ (List.mem_of_getElem? (i := 19) rfl))) (mvT hZ (hw _ (List.mem_of_getElem? (i := 20) rfl))) (mvT hZ (hw _ (List.mem_of_getElem? (i := 21) rfl))) (mvT hZ (hw _ (List.mem_of_getElem? (i := 22) rfl))) (by decide) (backOf (W := 0) (rmc3g l Z a0 hw [] a2 k n c0 c1 c2 h0 n0 Z0 V_a2 hn hr0 hr1 hr2 O0 S__assertionsDisabled S_HI_BYTE_SHIFT S_LO_BYTE_SHIFT) hZ (hw _ (List.mem_of_getElem? (i := 22) rfl)) (hw _ (List.mem_of_getElem? (i := 21) rfl)) (by decide) (by decide)) (g := (mkF m 36 #[rv a1, rv a2, iv (0 : Int32), iv n, .val .null, .unset] [(.int n), (.int (0 : Int32)), (.ref a2)])) rfl (by rw [hml]; rfl) (argsL := [(.ref a2), (.int (0 : Int32)), (.int n)]) (rest := []) (lenOf pd__28__5b_CII_29__5b_B rfl) rfl (by show 2 * 0 + _ ≤ _; exact Nat.le_of_eq rfl) (hb hby d3_36) (fun _ hv => ⟨rfl, e205, (by decide : 0 + 2 ≤ _), (by decide : 0 + 9 ≤ _)⟩)
  dsimp only [Pt.U, Pt.locs, Pt.cells, Pt.slots] at X206 l206 y206 z206 st206 hQ206
  subst l206 y206 z206
  refine own_by st206 ?_
  obtain ⟨b_206, rfl, Nq206, K206, g_b_206, sb_b_206, r206_0⟩ := hQ206
  have ne_a1_b_206 : a1 ≠ b_206 := Nat.ne_of_lt (Nat.lt_of_lt_of_le E_a1.lt sb_b_206)
  have ne_a2_b_206 : a2 ≠ b_206 := Nat.ne_of_lt (Nat.lt_of_lt_of_le V_a2.lt sb_b_206)
  have sz_b_206 : h0.size ≤ b_206 := Nat.le_trans Kz.1 sb_b_206
  have Od206 := O0.keep K206 all0
  have E_a1_206 := E_a1.keep K206
  have F_value_a1_206 := F_value_a1.keep K206 nin0
  have F_coder_a1_206 := F_coder_a1.keep K206 nin0
  have V_a2_206 := V_a2.keep K206 nin0
  have Z206 : n0 ≤ T206.heap.size := Nat.le_trans Z0 K206.1
  have Kt206 := Kz.trans K206 all0
  have N206 := Fr.app N0 Nq206
  show own_Fin _ _ _ _ (T206.setTop (mkF m 39 #[rv a1, rv a2, iv (0 : Int32), iv n, .val .null, .unset] [(.ref b_206)]))
  obtain ⟨co_, kq, ⟨rfl, hal, VqL⟩ | ⟨rfl, VqU⟩⟩ := r206_0
  · show own_Fin _ _ _ _ (T206.setTop (mkF m 39 #[rv a1, rv a2, iv (0 : Int32), iv n, .val .null, .unset] [(.ref b_206)]))
    refine own_go (XS.astore X206.here hx rfl (hb hby d3_39) rfl rfl rfl (Steps.refl _)) ?_
    show own_Fin _ _ _ _ (T206.setTop (mkF m 41 #[rv a1, rv a2, iv (0 : Int32), iv n, .val .null, rv b_206] []))
    refine own_go (XS.aloadN X206.here hx rfl (hb hby d3_41) rfl rfl (Steps.refl _)) ?_
    show own_Fin _ _ _ _ (T206.setTop (mkF m 42 #[rv a1, rv a2, iv (0 : Int32), iv n, .val .null, rv b_206] [(.ref a1)]))
    refine own_go (XS.aload X206.here hx rfl (hb hby d3_42) rfl rfl (Steps.refl _)) ?_
    show own_Fin _ _ _ _ (T206.setTop (mkF m 44 #[rv a1, rv a2, iv (0 : Int32), iv n, .val .null, rv b_206] [(.ref b_206), (.ref a1)]))
    refine own_go (XS.iloadN X206.here hx rfl (hb hby d3_44) rfl (Steps.refl _)) ?_
    show own_Fin _ _ _ _ (T206.setTop (mkF m 45 #[rv a1, rv a2, iv (0 : Int32), iv n, .val .null, rv b_206] [(.int n), (.ref b_206), (.ref a1)]))
    obtain ⟨_, _, ⟨T207, L207, k207, n207⟩, -, X207, ⟨Lc207, hQ207, l207, y207, z207⟩, st207⟩ := Jvm.LawKit.callS X206 hx (y := (⟨"java/lang/StringUTF16", "coderFromArrayLen", "([BI)B"⟩ : MethodName)) hown (mvT hZ (hw _ (List.mem_of_getElem? (i := 27) rfl))) (mvT hZ (hw _ (List.mem_of_getElem? (i := 28) rfl))) (mvT hZ (hw _ (List.mem_of_getElem? (i := 21) rfl))) (mvT hZ (hw _ (List.mem_of_getElem? (i := 29) rfl))) (by decide) (backOf (W := 1) (rmcfL l Z a0 hw [] b_206 kq n c0 c1 c2 T206.heap n0 Z206 VqL hn) hZ (hw _ (List.mem_of_getElem? (i := 29) rfl)) (hw _ (List.mem_of_getElem? (i := 21) rfl)) (by decide) (by decide)) (g := (mkF m 45 #[rv a1, rv a2, iv (0 : Int32), iv n, .val .null, rv b_206] [(.int n), (.ref b_206), (.ref a1)])) rfl (by rw [hml]; rfl) (argsL := [(.ref b_206), (.int n)]) (rest := [(.ref a1)]) (lenOf pd__28__5b_BI_29_B rfl) rfl (by show 2 * 0 + _ ≤ _; exact Nat.le_of_eq rfl) (hb hby d3_45) (fun _ hv => ⟨rfl, rfl, (by decide : 2 + 0 ≤ _), (by decide : 9 + 0 ≤ _)⟩)
    dsimp only [Pt.U, Pt.locs, Pt.cells, Pt.slots] at X207 l207 y207 z207 st207 hQ207
    subst l207 y207 z207
    obtain ⟨rfl, Nq207, e207⟩ := hQ207
    refine own_by st207 ?_
    have N207 := Fr.app N206 Nq207
    show own_Fin _ _ _ _ (T207.setTop (mkF m 48 #[rv a1, rv a2, iv (0 : Int32), iv n, .val .null, rv b_206] [(.int (0 : Int32)), (.ref a1)]))
    obtain ⟨T208, h208, X208, e208, W208, st208⟩ := putFN X207 hx hZ hown (hw _ (List.mem_of_getElem? (i := 30) rfl)) Via.refl e207 F_coder_a1_206 E_a1_206 (Or.inr ⟨(hw _ (List.mem_of_getElem? (i := 31) rfl)), rfl, hnm⟩) (hw _ (List.mem_of_getElem? (i := 6) rfl)) (ty := .byte) (v' := (.int (nar .byte (0 : Int32)))) (by decide) rfl (fits_nar_byte _) (g := (mkF m 48 #[rv a1, rv a2, iv (0 : Int32), iv n, .val .null, rv b_206] [(.int (0 : Int32)), (.ref a1)])) rfl rfl (hb hby d3_48)
    refine own_by st208 ?_
    have F_coder_a1_208 := F_coder_a1_206.same W208
    have Od208 := Od206.wr W208 g_a1
    have E_a1_208 := E_a1_206.wr W208
    have F_value_a1_208 := F_value_a1_206.other W208 (Or.inr (slot_ne (Or.inr (hw _ (List.mem_of_getElem? (i := 33) rfl))) (Or.inr (hw _ (List.mem_of_getElem? (i := 31) rfl))) (by decide) (t := (.array .byte)) (t' := .byte) (by decide) (by decide)))
    have V_a2_208 := V_a2_206.other W208 (Ne.symm (Exa.neArv E_a1_206 V_a2_206 (hw _ (List.mem_of_getElem? (i := 6) rfl))))
    have VqL_208 := VqL.other W208 (Ne.symm ne_a1_b_206)
    have N208 := Fr.snoc X208 N207 g_a1
    have Z208 : n0 ≤ h208.size := Nat.le_trans Z206 (Keep.of_wr W208).1
    have K208 := Kt206.wr W208 (Or.inl (List.mem_of_getElem? (i := 0) rfl))
    show own_Fin _ _ _ _ (T208.setTop (mkF m 51 #[rv a1, rv a2, iv (0 : Int32), iv n, .val .null, rv b_206] []))
    refine own_go (XS.aloadN X208.here hx rfl (hb hby d3_51) rfl rfl (Steps.refl _)) ?_
    show own_Fin _ _ _ _ (T208.setTop (mkF m 52 #[rv a1, rv a2, iv (0 : Int32), iv n, .val .null, rv b_206] [(.ref a1)]))
    refine own_go (XS.aload X208.here hx rfl (hb hby d3_52) rfl rfl (Steps.refl _)) ?_
    show own_Fin _ _ _ _ (T208.setTop (mkF m 54 #[rv a1, rv a2, iv (0 : Int32), iv n, .val .null, rv b_206] [(.ref b_206), (.ref a1)]))
    obtain ⟨T209, h209, X209, e209, W209, st209⟩ := putF X208 hx hZ hown (host := "") (Or.inl (hw _ (List.mem_of_getElem? (i := 32) rfl))) Via.refl e208 F_value_a1_208 E_a1_208 (Or.inr ⟨(hw _ (List.mem_of_getElem? (i := 33) rfl)), rfl, hnm⟩) (hw _ (List.mem_of_getElem? (i := 6) rfl)) (ty := (.array .byte)) (by decide) rfl rfl (g := (mkF m 54 #[rv a1, rv a2, iv (0 : Int32), iv n, .val .null, rv b_206] [(.ref b_206), (.ref a1)])) rfl rfl (hb hby d3_54)
    refine own_by st209 ?_
    have F_value_a1_209 := F_value_a1_208.same W209
    have Od209 := Od208.wr W209 g_a1
    have E_a1_209 := E_a1_208.wr W209
    have F_coder_a1_209 := F_coder_a1_208.other W209 (Or.inr (slot_ne (Or.inr (hw _ (List.mem_of_getElem? (i := 31) rfl))) (Or.inr (hw _ (List.mem_of_getElem? (i := 33) rfl))) (by decide) (t := .byte) (t' := (.array .byte)) (by decide) (by decide)))
    have V_a2_209 := V_a2_208.other W209 (Ne.symm (Exa.neArv E_a1_208 V_a2_208 (hw _ (List.mem_of_getElem? (i := 6) rfl))))
    have VqL_209 := VqL_208.other W209 (Ne.symm ne_a1_b_206)
    have N209 := Fr.snoc X209 N208 g_a1
    have Z209 : n0 ≤ h209.size := Nat.le_trans Z208 (Keep.of_wr W209).1
    have K209 := K208.wr W209 (Or.inl (List.mem_of_getElem? (i := 0) rfl))
    show own_Fin _ _ _ _ (T209.setTop (mkF m 57 #[rv a1, rv a2, iv (0 : Int32), iv n, .val .null, rv b_206] []))
    obtain ⟨fs210, hr210, hrun210, hended210, hW210, hsame210⟩ := X209.leave (v := none) (fun _ => rfl)
    refine own_done (X209.returnOut hx Bd.returns (hb hby d3_57) hr210) hrun210 hended210 ⟨_, _, rfl, ?_, ⟨_, rfl⟩, hW210, hsame210.mono (by decide) (by decide)⟩
    show Qi4g Z a1 a2 k cs n c0 c1 c2 h0 n0 _ T209.heap _
    rw [e209]
    exact ⟨rfl, N209, K209, ⟨E_a1_209, b_206, 0, F_value_a1_209, F_coder_a1_209, kq, Or.inl ⟨rfl, hal, VqL_209⟩⟩⟩
  · show own_Fin _ _ _ _ (T206.setTop (mkF m 39 #[rv a1, rv a2, iv (0 : Int32), iv n, .val .null, .unset] [(.ref b_206)]))
    refine own_go (XS.astore X206.here hx rfl (hb hby d3_39) rfl rfl rfl (Steps.refl _)) ?_
    show own_Fin _ _ _ _ (T206.setTop (mkF m 41 #[rv a1, rv a2, iv (0 : Int32), iv n, .val .null, rv b_206] []))
    refine own_go (XS.aloadN X206.here hx rfl (hb hby d3_41) rfl rfl (Steps.refl _)) ?_
    show own_Fin _ _ _ _ (T206.setTop (mkF m 42 #[rv a1, rv a2, iv (0 : Int32), iv n, .val .null, rv b_206] [(.ref a1)]))
    refine own_go (XS.aload X206.here hx rfl (hb hby d3_42) rfl rfl (Steps.refl _)) ?_
    show own_Fin _ _ _ _ (T206.setTop (mkF m 44 #[rv a1, rv a2, iv (0 : Int32), iv n, .val .null, rv b_206] [(.ref b_206), (.ref a1)]))
    refine own_go (XS.iloadN X206.here hx rfl (hb hby d3_44) rfl (Steps.refl _)) ?_
    show own_Fin _ _ _ _ (T206.setTop (mkF m 45 #[rv a1, rv a2, iv (0 : Int32), iv n, .val .null, rv b_206] [(.int n), (.ref b_206), (.ref a1)]))
    obtain ⟨_, _, ⟨T211, L211, k211, n211⟩, -, X211, ⟨Lc211, hQ211, l211, y211, z211⟩, st211⟩ := Jvm.LawKit.callS X206 hx (y := (⟨"java/lang/StringUTF16", "coderFromArrayLen", "([BI)B"⟩ : MethodName)) hown (mvT hZ (hw _ (List.mem_of_getElem? (i := 27) rfl))) (mvT hZ (hw _ (List.mem_of_getElem? (i := 28) rfl))) (mvT hZ (hw _ (List.mem_of_getElem? (i := 21) rfl))) (mvT hZ (hw _ (List.mem_of_getElem? (i := 29) rfl))) (by decide) (backOf (W := 1) (rmcfU l Z a0 hw [] b_206 kq n c0 c1 c2 T206.heap n0 Z206 VqU hn) hZ (hw _ (List.mem_of_getElem? (i := 29) rfl)) (hw _ (List.mem_of_getElem? (i := 21) rfl)) (by decide) (by decide)) (g := (mkF m 45 #[rv a1, rv a2, iv (0 : Int32), iv n, .val .null, rv b_206] [(.int n), (.ref b_206), (.ref a1)])) rfl (by rw [hml]; rfl) (argsL := [(.ref b_206), (.int n)]) (rest := [(.ref a1)]) (lenOf pd__28__5b_BI_29_B rfl) rfl (by show 2 * 0 + _ ≤ _; exact Nat.le_of_eq rfl) (hb hby d3_45) (fun _ hv => ⟨rfl, rfl, (by decide : 2 + 0 ≤ _), (by decide : 9 + 0 ≤ _)⟩)
    dsimp only [Pt.U, Pt.locs, Pt.cells, Pt.slots] at X211 l211 y211 z211 st211 hQ211
    subst l211 y211 z211
    obtain ⟨rfl, Nq211, e211⟩ := hQ211
    refine own_by st211 ?_
    have N211 := Fr.app N206 Nq211
    show own_Fin _ _ _ _ (T211.setTop (mkF m 48 #[rv a1, rv a2, iv (0 : Int32), iv n, .val .null, rv b_206] [(.int (1 : Int32)), (.ref a1)]))
    obtain ⟨T212, h212, X212, e212, W212, st212⟩ := putFN X211 hx hZ hown (hw _ (List.mem_of_getElem? (i := 30) rfl)) Via.refl e211 F_coder_a1_206 E_a1_206 (Or.inr ⟨(hw _ (List.mem_of_getElem? (i := 31) rfl)), rfl, hnm⟩) (hw _ (List.mem_of_getElem? (i := 6) rfl)) (ty := .byte) (v' := (.int (nar .byte (1 : Int32)))) (by decide) rfl (fits_nar_byte _) (g := (mkF m 48 #[rv a1, rv a2, iv (0 : Int32), iv n, .val .null, rv b_206] [(.int (1 : Int32)), (.ref a1)])) rfl rfl (hb hby d3_48)
    refine own_by st212 ?_
    have F_coder_a1_212 := F_coder_a1_206.same W212
    have Od212 := Od206.wr W212 g_a1
    have E_a1_212 := E_a1_206.wr W212
    have F_value_a1_212 := F_value_a1_206.other W212 (Or.inr (slot_ne (Or.inr (hw _ (List.mem_of_getElem? (i := 33) rfl))) (Or.inr (hw _ (List.mem_of_getElem? (i := 31) rfl))) (by decide) (t := (.array .byte)) (t' := .byte) (by decide) (by decide)))
    have V_a2_212 := V_a2_206.other W212 (Ne.symm (Exa.neArv E_a1_206 V_a2_206 (hw _ (List.mem_of_getElem? (i := 6) rfl))))
    have VqU_212 := VqU.other W212 (Ne.symm ne_a1_b_206)
    have N212 := Fr.snoc X212 N211 g_a1
    have Z212 : n0 ≤ h212.size := Nat.le_trans Z206 (Keep.of_wr W212).1
    have K212 := Kt206.wr W212 (Or.inl (List.mem_of_getElem? (i := 0) rfl))
    show own_Fin _ _ _ _ (T212.setTop (mkF m 51 #[rv a1, rv a2, iv (0 : Int32), iv n, .val .null, rv b_206] []))
    refine own_go (XS.aloadN X212.here hx rfl (hb hby d3_51) rfl rfl (Steps.refl _)) ?_
    show own_Fin _ _ _ _ (T212.setTop (mkF m 52 #[rv a1, rv a2, iv (0 : Int32), iv n, .val .null, rv b_206] [(.ref a1)]))
    refine own_go (XS.aload X212.here hx rfl (hb hby d3_52) rfl rfl (Steps.refl _)) ?_
    show own_Fin _ _ _ _ (T212.setTop (mkF m 54 #[rv a1, rv a2, iv (0 : Int32), iv n, .val .null, rv b_206] [(.ref b_206), (.ref a1)]))
    obtain ⟨T213, h213, X213, e213, W213, st213⟩ := putF X212 hx hZ hown (host := "") (Or.inl (hw _ (List.mem_of_getElem? (i := 32) rfl))) Via.refl e212 F_value_a1_212 E_a1_212 (Or.inr ⟨(hw _ (List.mem_of_getElem? (i := 33) rfl)), rfl, hnm⟩) (hw _ (List.mem_of_getElem? (i := 6) rfl)) (ty := (.array .byte)) (by decide) rfl rfl (g := (mkF m 54 #[rv a1, rv a2, iv (0 : Int32), iv n, .val .null, rv b_206] [(.ref b_206), (.ref a1)])) rfl rfl (hb hby d3_54)
    refine own_by st213 ?_
    have F_value_a1_213 := F_value_a1_212.same W213
    have Od213 := Od212.wr W213 g_a1
    have E_a1_213 := E_a1_212.wr W213
    have F_coder_a1_213 := F_coder_a1_212.other W213 (Or.inr (slot_ne (Or.inr (hw _ (List.mem_of_getElem? (i := 31) rfl))) (Or.inr (hw _ (List.mem_of_getElem? (i := 33) rfl))) (by decide) (t := .byte) (t' := (.array .byte)) (by decide) (by decide)))
    have V_a2_213 := V_a2_212.other W213 (Ne.symm (Exa.neArv E_a1_212 V_a2_212 (hw _ (List.mem_of_getElem? (i := 6) rfl))))
    have VqU_213 := VqU_212.other W213 (Ne.symm ne_a1_b_206)
    have N213 := Fr.snoc X213 N212 g_a1
    have Z213 : n0 ≤ h213.size := Nat.le_trans Z212 (Keep.of_wr W213).1
    have K213 := K212.wr W213 (Or.inl (List.mem_of_getElem? (i := 0) rfl))
    show own_Fin _ _ _ _ (T213.setTop (mkF m 57 #[rv a1, rv a2, iv (0 : Int32), iv n, .val .null, rv b_206] []))
    obtain ⟨fs214, hr214, hrun214, hended214, hW214, hsame214⟩ := X213.leave (v := none) (fun _ => rfl)
    refine own_done (X213.returnOut hx Bd.returns (hb hby d3_57) hr214) hrun214 hended214 ⟨_, _, rfl, ?_, ⟨_, rfl⟩, hW214, hsame214.mono (by decide) (by decide)⟩
    show Qi4g Z a1 a2 k cs n c0 c1 c2 h0 n0 _ T213.heap _
    rw [e213]
    exact ⟨rfl, N213, K213, ⟨E_a1_213, b_206, 1, F_value_a1_213, F_coder_a1_213, kq, Or.inr ⟨rfl, VqU_213⟩⟩⟩
theorem ef_i4z (m : MethodId) (x0 : Addr) (x1 : Addr) (x2 : Int32) (x3 : Int32) : entryFrame m #[(.ref x0), (.ref x1), (.int x2), (.int x3), .null] 6 = mkF m 0 #[.val (.ref x0), .val (.ref x1), .val (.int x2), .val (.int x3), .val .null, .unset] [] := by first | (simp [entryFrame, mkF, argsToLocals, Value.category]; done) | rfl
def Qi4z (Z : State) (a1 : Addr) (a2 : Addr) (k : ClassId) (cs : Int32) (c0 : Int32) (c1 : Int32) (c2 : Int32) (h0 : Heap) (n0 : Nat) (v : Option Value) (h : Heap) (L : List Loc) : Prop := v = none ∧ Fr n0 L ∧ Keep h0 h [a1] ∧ own_Str Z h a1 (0 : Int32) c0 c1 c2
abbrev Gi4z (Z : State) (a1 : Addr) (a2 : Addr) (k : ClassId) (cs : Int32) (c0 : Int32) (c1 : Int32) (c2 : Int32) (h0 : Heap) (n0 : Nat) (s : State) : Outcome → State → Prop := fun o U' => ∃ v L, o = .returned v ∧ (Qi4z Z a1 a2 k cs c0 c1 c2 h0 n0 v U'.heap L ∧ own_K Z U'.heap U'.vm) ∧ ReturnedEndW s o U' L ({ frames := 1, cells := 2, slots := 4, locals := 12 } : Room).cells ({ frames := 1, cells := 2, slots := 4, locals := 12 } : Room).slots
set_option maxRecDepth 65536 in
set_option maxHeartbeats 40000000 in
theorem rmi4z (l : Launch) (Z : State) (a0 : Array Value) (hw : ∀ d ∈ tables_1, d.before a0 Z = true) (ws : List Jvm.Cond) (a1 : Addr) (a2 : Addr) (k : ClassId) (cs : Int32) (c0 : Int32) (c1 : Int32) (c2 : Int32) (h0 : Heap) (n0 : Nat) (Z0 : n0 ≤ h0.size) (E_a1 : Exa Z h0 a1 "java/lang/String") (F_value_a1 : Fld Z h0 a1 "java/lang/String" "value" "[B" .null) (F_coder_a1 : Fld Z h0 a1 "java/lang/String" "coder" "B" (.int (0 : Int32))) (g_a1 : n0 ≤ a1) (O0 : Old Z n0 h0) (S__assertionsDisabled : Sta Z Z.heap "java/lang/StringUTF16" "$assertionsDisabled" "Z" (.int (1 : Int32))) (S_HI_BYTE_SHIFT : Sta Z Z.heap "java/lang/StringUTF16" "HI_BYTE_SHIFT" "I" (.int (0 : Int32))) (S_LO_BYTE_SHIFT : Sta Z Z.heap "java/lang/StringUTF16" "LO_BYTE_SHIFT" "I" (.int (8 : Int32))) (S_COMPACT_STRINGS : Sta Z Z.heap "java/lang/String" "COMPACT_STRINGS" "Z" (.int cs)) (V_a2 : Arv Z h0 a2 k .char (0 : Int32) [] (.int (0 : Int32))) (hh7 : Jvm.Lit.constHeld Z "java/lang/String" 7) (hcw : Jvm.Lit.compactW.before a0 Z = true) :
    MetFree l (⟨"java/lang/String", "<init>", "([CIILjava/lang/Void;)V"⟩ : MethodName) (head1 (Jvm.Cond.code (⟨"java/lang/String", "<init>", "([CIILjava/lang/Void;)V"⟩ : MethodName) jdk_42_method_149_code 6 none :: ws) ({ frames := 1, cells := 2, slots := 4, locals := 12 } : Room)) (fun a U => a = #[(.ref a1), (.ref a2), (.int (0 : Int32)), (.int (0 : Int32)), .null] ∧ (Z.Warmed39 U.vm ∧ own_K Z h0 U.vm) ∧ U.heap = h0) (fun _ _ _ _ _ => True) (fun _ U o U' => ∃ v L, o = .returned v ∧ (Qi4z Z a1 a2 k cs c0 c1 c2 h0 n0 v U'.heap L ∧ own_K Z U'.heap U'.vm) ∧ ReturnedEndW U o U' L ({ frames := 1, cells := 2, slots := 4, locals := 12 } : Room).cells ({ frames := 1, cells := 2, slots := 4, locals := 12 } : Room).slots) := by
  refine MetFree.of_bodySF (plainFor_of_name pn_java_lang_String) hisR ?_
  intro p e s m args below meth c s₁ Bd hml0 hP hK
  obtain ⟨rfl, ⟨hZ, hK0⟩, hh⟩ := hP
  have hx := Bd.exec
  have hby := Bd.bytes
  have hml : c.maxLocals = 6 := hml0
  have hown : s.vm.findClass "java/lang/String" = some m.cls := findClass_of_methodNamed Bd.named
  have hnm := (name_of_methodNamed Bd.named Bd.method).1
  have X0 : Stand p l e ({ frames := 1, cells := 2, slots := 4, locals := 12 } : Room) s m #[(.ref a1), (.ref a2), (.int (0 : Int32)), (.int (0 : Int32)), .null] below meth c s₁ [] 0 0 := Stand.of_body Bd
  have e0 : s₁.heap = h0 := by rw [← hh, Bd.state]; rfl
  have es0 : s.heap = h0 := hh
  have N0 := Fr.nil n0
  show own_Fin p e below (Gi4z Z a1 a2 k cs c0 c1 c2 h0 n0 s) (s₁.setTop (entryFrame m #[(.ref a1), (.ref a2), (.int (0 : Int32)), (.int (0 : Int32)), .null] 6))
  rw [ef_i4z m a1 a2 (0 : Int32) (0 : Int32)]
  have X0w : Stand p l e ({ frames := 1, cells := 2, slots := 4, locals := 12 } : Room) (s.setVm s.vm) m #[(.ref a1), (.ref a2), (.int (0 : Int32)), (.int (0 : Int32)), .null] below meth c s₁ [] 0 0 := X0
  have hS0 : s.Since s.vm 0 := (State.WarmedH.refl s).since 0
  have hk0 : 0 ≤ h0.size := Nat.zero_le _
  have Kz := Keep.refl h0 [a1]
  have wS : ∀ a ∈ Bundle.stringAtoms, a.before a0 Z = true := by
    intro d hd
    simp only [Bundle.stringAtoms, List.mem_cons, List.not_mem_nil, or_false] at hd
    rcases hd with rfl | rfl | rfl | rfl | rfl | rfl | rfl
    · exact (hw _ (List.mem_of_getElem? (i := 7) rfl))
    · exact (hw _ (List.mem_of_getElem? (i := 6) rfl))
    · exact (hw _ (List.mem_of_getElem? (i := 23) rfl))
    · exact (hw _ (List.mem_of_getElem? (i := 33) rfl))
    · exact (hw _ (List.mem_of_getElem? (i := 31) rfl))
    · exact (hw _ (List.mem_of_getElem? (i := 35) rfl))
    · exact (hw _ (List.mem_of_getElem? (i := 36) rfl))
  refine own_go (XS.aloadN X0w.here hx rfl (hb hby d3_0) rfl rfl (Steps.refl _)) ?_
  show own_Fin _ _ _ _ (s₁.setTop (mkF m 1 #[rv a1, rv a2, iv (0 : Int32), iv (0 : Int32), .val .null, .unset] [(.ref a1)]))
  obtain ⟨T215, X215, e215, st215⟩ := initO X0w hx hZ hown (hw _ (List.mem_of_getElem? (i := 15) rfl)) (hw _ (List.mem_of_getElem? (i := 16) rfl)) (hw _ (List.mem_of_getElem? (i := 17) rfl)) e0 (g := (mkF m 1 #[rv a1, rv a2, iv (0 : Int32), iv (0 : Int32), .val .null, .unset] [(.ref a1)])) rfl (by rw [hml]; rfl) rfl (hb hby d3_1) (by decide) (W := 0) (by show 2 * 0 + _ ≤ _; exact Nat.le_of_eq rfl) (by decide)
  refine own_by st215 ?_
  show own_Fin _ _ _ _ (T215.setTop (mkF m 4 #[rv a1, rv a2, iv (0 : Int32), iv (0 : Int32), .val .null, .unset] []))
  refine own_go (XS.iloadN X215.here hx rfl (hb hby d3_4) rfl (Steps.refl _)) ?_
  show own_Fin _ _ _ _ (T215.setTop (mkF m 5 #[rv a1, rv a2, iv (0 : Int32), iv (0 : Int32), .val .null, .unset] [(.int (0 : Int32))]))
  refine own_go (XS.ifNo X215.here hx rfl (hb hby d3_5) rfl ((if0 _ _).trans (teq (by decide : (0 : Int32) = (0 : Int32))).2) (Steps.refl _)) ?_
  show own_Fin _ _ _ _ (T215.setTop (mkF m 8 #[rv a1, rv a2, iv (0 : Int32), iv (0 : Int32), .val .null, .unset] []))
  refine own_go (XS.aloadN X215.here hx rfl (hb hby d3_8) rfl rfl (Steps.refl _)) ?_
  show own_Fin _ _ _ _ (T215.setTop (mkF m 9 #[rv a1, rv a2, iv (0 : Int32), iv (0 : Int32), .val .null, .unset] [(.ref a1)]))
  obtain ⟨a216, T216, h216, k216, b216, vm216, kc216, X216, e216, E216, hS216, hk216, hZ216, hown216, Ex216, Fc216, Fv216, Va216, Li216, st216⟩ := own_ldcK (s := s) (vm0 := s.vm) X215 hx hZ hown (hw _ (List.mem_of_getElem? (i := 34) rfl)) wS e215 hS0 hk0 (fun b cl q => by rw [es0]; exact O0.2.2 b cl q) hK0 hh7 hcw (g := (mkF m 9 #[rv a1, rv a2, iv (0 : Int32), iv (0 : Int32), .val .null, .unset] [(.ref a1)])) rfl (hb hby d3_9) (by decide) (by decide)
  refine own_by st216 ?_
  have Od216 := O0.ext E216
  have E_a1_216 := E_a1.ext E216
  have F_value_a1_216 := F_value_a1.ext E216
  have F_coder_a1_216 := F_coder_a1.ext E216
  have V_a2_216 := V_a2.ext E216
  have Z216 : n0 ≤ h216.size := Nat.le_trans Z0 E216.1
  have K216 := Kz.ext E216
  show own_Fin _ _ _ _ (T216.setTop (mkF m 11 #[rv a1, rv a2, iv (0 : Int32), iv (0 : Int32), .val .null, .unset] [(.ref a216), (.ref a1)]))
  have ne_a1_a216 : a1 ≠ a216 := Fld.ne F_value_a1_216 Fv216 (fun q => by cases q)
  have ne_a1_b216 : a1 ≠ b216 := Exa.neArv E_a1_216 Va216 (hw _ (List.mem_of_getElem? (i := 6) rfl))
  obtain ⟨T217, X217, e217, st217⟩ := getF X216 hx hZ216 hown216 (host := "") (Or.inl (hw _ (List.mem_of_getElem? (i := 32) rfl))) Via.refl e216 Fv216 (g := (mkF m 11 #[rv a1, rv a2, iv (0 : Int32), iv (0 : Int32), .val .null, .unset] [(.ref a216), (.ref a1)])) rfl rfl (hb hby d3_11)
  refine own_by st217 ?_
  show own_Fin _ _ _ _ (T217.setTop (mkF m 14 #[rv a1, rv a2, iv (0 : Int32), iv (0 : Int32), .val .null, .unset] [(.ref b216), (.ref a1)]))
  obtain ⟨T218, h218, X218, e218, W218, st218⟩ := putF X217 hx hZ216 hown216 (host := "") (Or.inl (hw _ (List.mem_of_getElem? (i := 32) rfl))) Via.refl e217 F_value_a1_216 E_a1_216 (Or.inr ⟨(hw _ (List.mem_of_getElem? (i := 33) rfl)), rfl, hnm⟩) (hw _ (List.mem_of_getElem? (i := 6) rfl)) (ty := (.array .byte)) (by decide) rfl rfl (g := (mkF m 14 #[rv a1, rv a2, iv (0 : Int32), iv (0 : Int32), .val .null, .unset] [(.ref b216), (.ref a1)])) rfl rfl (hb hby d3_14)
  refine own_by st218 ?_
  have F_value_a1_218 := F_value_a1_216.same W218
  have Od218 := Od216.wr W218 g_a1
  have E_a1_218 := E_a1_216.wr W218
  have F_coder_a1_218 := F_coder_a1_216.other W218 (Or.inr (slot_ne (Or.inr (hw _ (List.mem_of_getElem? (i := 31) rfl))) (Or.inr (hw _ (List.mem_of_getElem? (i := 33) rfl))) (by decide) (t := .byte) (t' := (.array .byte)) (by decide) (by decide)))
  have V_a2_218 := V_a2_216.other W218 (Ne.symm (Exa.neArv E_a1_216 V_a2_216 (hw _ (List.mem_of_getElem? (i := 6) rfl))))
  have Ex216_218 := Ex216.wr W218
  have Fc216_218 := Fc216.other W218 (Or.inl (Ne.symm ne_a1_a216))
  have Fv216_218 := Fv216.other W218 (Or.inl (Ne.symm ne_a1_a216))
  have Va216_218 := Va216.other W218 (Ne.symm ne_a1_b216)
  have N218 := Fr.snoc X218 N0 g_a1
  have Z218 : n0 ≤ h218.size := Nat.le_trans Z216 (Keep.of_wr W218).1
  have hk218 : k216 ≤ h218.size := Nat.le_trans hk216 (Keep.of_wr W218).1
  have K218 := K216.wr W218 (Or.inl (List.mem_of_getElem? (i := 0) rfl))
  show own_Fin _ _ _ _ (T218.setTop (mkF m 17 #[rv a1, rv a2, iv (0 : Int32), iv (0 : Int32), .val .null, .unset] []))
  refine own_go (XS.aloadN X218.here hx rfl (hb hby d3_17) rfl rfl (Steps.refl _)) ?_
  show own_Fin _ _ _ _ (T218.setTop (mkF m 18 #[rv a1, rv a2, iv (0 : Int32), iv (0 : Int32), .val .null, .unset] [(.ref a1)]))
  refine own_by (ldcAgain (s := s) (vm0 := vm216) X218 hx hZ216 hown216 (hw _ (List.mem_of_getElem? (i := 34) rfl)) Li216 (g := (mkF m 18 #[rv a1, rv a2, iv (0 : Int32), iv (0 : Int32), .val .null, .unset] [(.ref a1)])) rfl (hb hby d3_18)) ?_
  show own_Fin _ _ _ _ (T218.setTop (mkF m 20 #[rv a1, rv a2, iv (0 : Int32), iv (0 : Int32), .val .null, .unset] [(.ref a216), (.ref a1)]))
  obtain ⟨T219, X219, e219, st219⟩ := getF X218 hx hZ216 hown216 (host := "") (Or.inl (hw _ (List.mem_of_getElem? (i := 30) rfl))) Via.refl e218 Fc216_218 (g := (mkF m 20 #[rv a1, rv a2, iv (0 : Int32), iv (0 : Int32), .val .null, .unset] [(.ref a216), (.ref a1)])) rfl rfl (hb hby d3_20)
  refine own_by st219 ?_
  show own_Fin _ _ _ _ (T219.setTop (mkF m 23 #[rv a1, rv a2, iv (0 : Int32), iv (0 : Int32), .val .null, .unset] [(.int (0 : Int32)), (.ref a1)]))
  obtain ⟨T220, h220, X220, e220, W220, st220⟩ := putFN X219 hx hZ216 hown216 (hw _ (List.mem_of_getElem? (i := 30) rfl)) Via.refl e219 F_coder_a1_218 E_a1_218 (Or.inr ⟨(hw _ (List.mem_of_getElem? (i := 31) rfl)), rfl, hnm⟩) (hw _ (List.mem_of_getElem? (i := 6) rfl)) (ty := .byte) (v' := (.int (nar .byte (0 : Int32)))) (by decide) rfl (fits_nar_byte _) (g := (mkF m 23 #[rv a1, rv a2, iv (0 : Int32), iv (0 : Int32), .val .null, .unset] [(.int (0 : Int32)), (.ref a1)])) rfl rfl (hb hby d3_23)
  refine own_by st220 ?_
  have F_coder_a1_220 := F_coder_a1_218.same W220
  have Od220 := Od218.wr W220 g_a1
  have E_a1_220 := E_a1_218.wr W220
  have F_value_a1_220 := F_value_a1_218.other W220 (Or.inr (slot_ne (Or.inr (hw _ (List.mem_of_getElem? (i := 33) rfl))) (Or.inr (hw _ (List.mem_of_getElem? (i := 31) rfl))) (by decide) (t := (.array .byte)) (t' := .byte) (by decide) (by decide)))
  have V_a2_220 := V_a2_218.other W220 (Ne.symm (Exa.neArv E_a1_218 V_a2_218 (hw _ (List.mem_of_getElem? (i := 6) rfl))))
  have Ex216_220 := Ex216_218.wr W220
  have Fc216_220 := Fc216_218.other W220 (Or.inl (Ne.symm ne_a1_a216))
  have Fv216_220 := Fv216_218.other W220 (Or.inl (Ne.symm ne_a1_a216))
  have Va216_220 := Va216_218.other W220 (Ne.symm ne_a1_b216)
  have N220 := Fr.snoc X220 N218 g_a1
  have Z220 : n0 ≤ h220.size := Nat.le_trans Z218 (Keep.of_wr W220).1
  have hk220 : k216 ≤ h220.size := Nat.le_trans hk218 (Keep.of_wr W220).1
  have K220 := K218.wr W220 (Or.inl (List.mem_of_getElem? (i := 0) rfl))
  show own_Fin _ _ _ _ (T220.setTop (mkF m 26 #[rv a1, rv a2, iv (0 : Int32), iv (0 : Int32), .val .null, .unset] []))
  obtain ⟨fs221, hr221, hrun221, hended221, hRW221⟩ := X220.leaveW (s := s) hS216 (n := k216) (by rw [e220]; exact hk220) (v := none) (fun _ => rfl)
  refine own_done (X220.returnOut hx Bd.returns (hb hby d3_26) hr221) hrun221 hended221 ⟨_, _, rfl, ?_, hRW221.1, hRW221.2.1, hRW221.2.2.1, hRW221.2.2.2.mono (by decide) (by decide)⟩
  show (Qi4z Z a1 a2 k cs c0 c1 c2 h0 n0 _ T220.heap _ ∧ own_K Z T220.heap T220.vm)
  rw [e220]
  exact ⟨⟨rfl, N220, K220, ⟨E_a1_220, b216, 0, F_value_a1_220, F_coder_a1_220, kc216, Or.inl ⟨rfl, own_all0, Va216_220⟩⟩⟩, own_K.warm (s := s) (vm0 := vm216) (Or.inr ⟨a216, b216, kc216, Li216, Ex216_220, Fc216_220, Fv216_220, Va216_220⟩) X220.warmed⟩
theorem d2_0 : decode jdk_42_method_3_code 0 = .ok (.aload_n 0, 1) := by decide +kernel
theorem d2_1 : decode jdk_42_method_3_code 1 = .ok (.aload_n 1, 1) := by decide +kernel
theorem d2_2 : decode jdk_42_method_3_code 2 = .ok (.iconst 0, 1) := by decide +kernel
theorem d2_3 : decode jdk_42_method_3_code 3 = .ok (.aload_n 1, 1) := by decide +kernel
theorem d2_4 : decode jdk_42_method_3_code 4 = .ok (.arraylength, 1) := by decide +kernel
theorem d2_5 : decode jdk_42_method_3_code 5 = .ok (.aconst_null, 1) := by decide +kernel
theorem d2_6 : decode jdk_42_method_3_code 6 = .ok (.invokespecial 27, 3) := by decide +kernel
theorem d2_9 : decode jdk_42_method_3_code 9 = .ok (.return_, 1) := by decide +kernel
theorem ef_strS (m : MethodId) (x0 : Addr) (x1 : Addr) : entryFrame m #[(.ref x0), (.ref x1)] 2 = mkF m 0 #[.val (.ref x0), .val (.ref x1)] [] := by first | (simp [entryFrame, mkF, argsToLocals, Value.category]; done) | rfl
def QstrS (Z : State) (a1 : Addr) (a2 : Addr) (k : ClassId) (cs : Int32) (n : Int32) (c0 : Int32) (c1 : Int32) (c2 : Int32) (h0 : Heap) (n0 : Nat) (v : Option Value) (h : Heap) (L : List Loc) : Prop := v = none ∧ Fr n0 L ∧ Keep h0 h [a1] ∧ own_Str Z h a1 n c0 c1 c2
abbrev GstrS (Z : State) (a1 : Addr) (a2 : Addr) (k : ClassId) (cs : Int32) (n : Int32) (c0 : Int32) (c1 : Int32) (c2 : Int32) (h0 : Heap) (n0 : Nat) (s : State) : Outcome → State → Prop := fun o U' => ∃ v L, o = .returned v ∧ (QstrS Z a1 a2 k cs n c0 c1 c2 h0 n0 v U'.heap L ∧ own_K Z U'.heap U'.vm) ∧ ReturnedEndW s o U' L ({ frames := 5, cells := 2, slots := 9, locals := 112 } : Room).cells ({ frames := 5, cells := 2, slots := 9, locals := 112 } : Room).slots
theorem pd__28__5b_CIILjava_2f_lang_2f_Void_3b__29_V : parseMethodDescriptor "([CIILjava/lang/Void;)V" = some ⟨[(.array .char), .int, .int, (.object "java/lang/Void")], none⟩ := by decide +kernel
set_option maxRecDepth 65536 in
set_option maxHeartbeats 40000000 in
theorem rmstrS (l : Launch) (Z : State) (a0 : Array Value) (hw : ∀ d ∈ tables_1, d.before a0 Z = true) (ws : List Jvm.Cond) (a1 : Addr) (a2 : Addr) (k : ClassId) (cs : Int32) (n : Int32) (c0 : Int32) (c1 : Int32) (c2 : Int32) (h0 : Heap) (n0 : Nat) (Z0 : n0 ≤ h0.size) (E_a1 : Exa Z h0 a1 "java/lang/String") (F_value_a1 : Fld Z h0 a1 "java/lang/String" "value" "[B" .null) (F_coder_a1 : Fld Z h0 a1 "java/lang/String" "coder" "B" (.int (0 : Int32))) (g_a1 : n0 ≤ a1) (O0 : Old Z n0 h0) (S__assertionsDisabled : Sta Z Z.heap "java/lang/StringUTF16" "$assertionsDisabled" "Z" (.int (1 : Int32))) (S_HI_BYTE_SHIFT : Sta Z Z.heap "java/lang/StringUTF16" "HI_BYTE_SHIFT" "I" (.int (0 : Int32))) (S_LO_BYTE_SHIFT : Sta Z Z.heap "java/lang/StringUTF16" "LO_BYTE_SHIFT" "I" (.int (8 : Int32))) (S_COMPACT_STRINGS : Sta Z Z.heap "java/lang/String" "COMPACT_STRINGS" "Z" (.int cs)) (hcs : ¬ cs = (0 : Int32)) (V_a2 : Arv Z h0 a2 k .char n (List.map Value.int (own_ca n c0 c1 c2)) (.int (0 : Int32))) (hn4 : n = (0 : Int32) ∨ n = (1 : Int32) ∨ n = (2 : Int32) ∨ n = (3 : Int32)) (hr0 : own_ch c0) (hr1 : own_ch c1) (hr2 : own_ch c2) (hh7 : Jvm.Lit.constHeld Z "java/lang/String" 7) (hcw : Jvm.Lit.compactW.before a0 Z = true) :
    MetFree l (⟨"java/lang/String", "<init>", "([C)V"⟩ : MethodName) (head1 (Jvm.Cond.code (⟨"java/lang/String", "<init>", "([C)V"⟩ : MethodName) jdk_42_method_3_code 2 none :: ws) ({ frames := 5, cells := 2, slots := 9, locals := 112 } : Room)) (fun a U => a = #[(.ref a1), (.ref a2)] ∧ (Z.Warmed39 U.vm ∧ own_K Z h0 U.vm) ∧ U.heap = h0) (fun _ _ _ _ _ => True) (fun _ U o U' => ∃ v L, o = .returned v ∧ (QstrS Z a1 a2 k cs n c0 c1 c2 h0 n0 v U'.heap L ∧ own_K Z U'.heap U'.vm) ∧ ReturnedEndW U o U' L ({ frames := 5, cells := 2, slots := 9, locals := 112 } : Room).cells ({ frames := 5, cells := 2, slots := 9, locals := 112 } : Room).slots) := by
  refine MetFree.of_bodySF (plainFor_of_name pn_java_lang_String) hisR ?_
  intro p e s m args below meth c s₁ Bd hml0 hP hK
  obtain ⟨rfl, ⟨hZ, hK0⟩, hh⟩ := hP
  have hx := Bd.exec
  have hby := Bd.bytes
  have hml : c.maxLocals = 2 := hml0
  have hown : s.vm.findClass "java/lang/String" = some m.cls := findClass_of_methodNamed Bd.named
  have hnm := (name_of_methodNamed Bd.named Bd.method).1
  have X0 : Stand p l e ({ frames := 5, cells := 2, slots := 9, locals := 112 } : Room) s m #[(.ref a1), (.ref a2)] below meth c s₁ [] 0 0 := Stand.of_body Bd
  have e0 : s₁.heap = h0 := by rw [← hh, Bd.state]; rfl
  have es0 : s.heap = h0 := hh
  have N0 := Fr.nil n0
  show own_Fin p e below (GstrS Z a1 a2 k cs n c0 c1 c2 h0 n0 s) (s₁.setTop (entryFrame m #[(.ref a1), (.ref a2)] 2))
  rw [ef_strS m a1 a2]
  have X0w : Stand p l e ({ frames := 5, cells := 2, slots := 9, locals := 112 } : Room) (s.setVm s.vm) m #[(.ref a1), (.ref a2)] below meth c s₁ [] 0 0 := X0
  have hS0 : s.Since s.vm 0 := (State.WarmedH.refl s).since 0
  have hk0 : 0 ≤ h0.size := Nat.zero_le _
  have Kz := Keep.refl h0 [a1]
  refine own_go (XS.aloadN X0w.here hx rfl (hb hby d2_0) rfl rfl (Steps.refl _)) ?_
  show own_Fin _ _ _ _ (s₁.setTop (mkF m 1 #[rv a1, rv a2] [(.ref a1)]))
  refine own_go (XS.aloadN X0w.here hx rfl (hb hby d2_1) rfl rfl (Steps.refl _)) ?_
  show own_Fin _ _ _ _ (s₁.setTop (mkF m 2 #[rv a1, rv a2] [(.ref a2), (.ref a1)]))
  refine own_go (XS.iconst X0w.here hx rfl (hb hby d2_2) (Steps.refl _)) ?_
  show own_Fin _ _ _ _ (s₁.setTop (mkF m 3 #[rv a1, rv a2] [(.int (0 : Int32)), (.ref a2), (.ref a1)]))
  refine own_go (XS.aloadN X0w.here hx rfl (hb hby d2_3) rfl rfl (Steps.refl _)) ?_
  show own_Fin _ _ _ _ (s₁.setTop (mkF m 4 #[rv a1, rv a2] [(.ref a2), (.int (0 : Int32)), (.ref a2), (.ref a1)]))
  obtain ⟨cl222, Ar222, qa222, Sa222, Na222, Ha222, Ga222⟩ := id V_a2
  refine own_by (X0w.arraylength hx (by rw [e0]; exact Ar222.1) (State.isArrayOf_alike hZ.alike Ar222.2.1) (g := (mkF m 4 #[rv a1, rv a2] [(.ref a2), (.int (0 : Int32)), (.ref a2), (.ref a1)])) rfl rfl (hb hby d2_4)) ?_
  rw [len_of Sa222 Na222]
  show own_Fin _ _ _ _ (s₁.setTop (mkF m 5 #[rv a1, rv a2] [(.int n), (.int (0 : Int32)), (.ref a2), (.ref a1)]))
  refine own_go (XS.aconstNull X0w.here hx rfl (hb hby d2_5) (Steps.refl _)) ?_
  show own_Fin _ _ _ _ (s₁.setTop (mkF m 6 #[rv a1, rv a2] [.null, (.int n), (.int (0 : Int32)), (.ref a2), (.ref a1)]))
  rcases hn4 with rfl | hn
  · have V_a2z : Arv Z h0 a2 k .char (0 : Int32) [] (.int (0 : Int32)) := V_a2
    show own_Fin _ _ _ _ (s₁.setTop (mkF m 6 #[rv a1, rv a2] [.null, (.int (0 : Int32)), (.int (0 : Int32)), (.ref a2), (.ref a1)]))
    obtain ⟨_, _, ⟨T223, L223, k223, n223⟩, -, X223, hs2223, hgr223, ⟨Lc223, ⟨hQ223, hK223⟩, l223, y223, z223⟩, st223⟩ := X0w.specialBackS hx (y := (⟨"java/lang/String", "<init>", "([CIILjava/lang/Void;)V"⟩ : MethodName)) rfl hown (mvT hZ (hw _ (List.mem_of_getElem? (i := 11) rfl))) (mvT hZ (hw _ (List.mem_of_getElem? (i := 12) rfl))) (mvT hZ (hw _ (List.mem_of_getElem? (i := 14) rfl))) (by decide) (own_backK (W := 0) (rmi4z l Z a0 hw [] a1 a2 k cs c0 c1 c2 h0 n0 Z0 E_a1 F_value_a1 F_coder_a1 g_a1 O0 S__assertionsDisabled S_HI_BYTE_SHIFT S_LO_BYTE_SHIFT S_COMPACT_STRINGS V_a2z hh7 hcw) hZ (hw _ (List.mem_of_getElem? (i := 14) rfl)) (hw _ (List.mem_of_getElem? (i := 7) rfl)) (by decide) (by decide)) (g := (mkF m 6 #[rv a1, rv a2] [.null, (.int (0 : Int32)), (.int (0 : Int32)), (.ref a2), (.ref a1)])) rfl (by rw [hml]; rfl) (Steps.refl _) (a := a1) (argsL := [(.ref a2), (.int (0 : Int32)), (.int (0 : Int32)), .null]) (rest := []) (lenOf pd__28__5b_CIILjava_2f_lang_2f_Void_3b__29_V rfl) rfl (by show 2 * 0 + _ ≤ _; exact Nat.le_of_eq rfl) (hb hby d2_6) (fun _ hv => ⟨rfl, e0, (by decide : 0 + 2 ≤ _), (by decide : 0 + 4 ≤ _), own_K.warm hK0 hv⟩)
    dsimp only [Pt.U, Pt.locs, Pt.cells, Pt.slots] at X223 l223 y223 z223 st223 hQ223 hs2223 hgr223 hK223
    subst l223 y223 z223
    obtain ⟨Xr223, hS223, hZ223, hown223⟩ := rebS hS0 (show 0 ≤ s₁.heap.size by rw [e0]; exact hk0) X223 hs2223 hgr223 hZ hown
    refine own_go st223 ?_
    obtain ⟨rfl, Nq223, K223, r223_0⟩ := hQ223
    have Od223 := O0.keep K223 (allS g_a1 all0)
    have E_a1_223 := E_a1.keep K223
    have V_a2z_223 := V_a2z.keep K223 (ninS (Ne.symm (Exa.neArv E_a1 V_a2z (hw _ (List.mem_of_getElem? (i := 6) rfl)))) nin0)
    have Z223 : n0 ≤ T223.heap.size := Nat.le_trans Z0 K223.1
    have hk223 : 0 ≤ T223.heap.size := Nat.le_trans hk0 K223.1
    have Kt223 := Kz.trans K223 (allS (P := fun x => x ∈ _ ∨ _ ≤ x) (Or.inl (List.mem_of_getElem? (i := 0) rfl)) all0)
    have hkr223 : T223.heap.size ≤ T223.heap.size := Nat.le_refl _
    have N223 := Fr.app N0 Nq223
    show own_Fin _ _ _ _ (T223.setTop (mkF m 9 #[rv a1, rv a2] []))
    obtain ⟨fs224, hr224, hrun224, hended224, hRW224⟩ := Xr223.leaveW (s := s) hS223 (n := T223.heap.size) hkr223 (v := none) (fun _ => rfl)
    refine own_done (Xr223.returnOut hx Bd.returns (hb hby d2_9) hr224) hrun224 hended224 ⟨_, _, rfl, ?_, hRW224.1, hRW224.2.1, hRW224.2.2.1, hRW224.2.2.2.mono (by decide) (by decide)⟩
    show (QstrS Z a1 a2 k cs (0 : Int32) c0 c1 c2 h0 n0 _ T223.heap _ ∧ own_K Z T223.heap T223.vm)
    exact ⟨⟨rfl, N223, Kt223, r223_0⟩, own_K.warm (s := s) (vm0 := T223.vm) hK223 Xr223.warmed⟩
  · show own_Fin _ _ _ _ (s₁.setTop (mkF m 6 #[rv a1, rv a2] [.null, (.int n), (.int (0 : Int32)), (.ref a2), (.ref a1)]))
    obtain ⟨_, _, ⟨T225, L225, k225, n225⟩, -, X225, ⟨Lc225, hQ225, l225, y225, z225⟩, st225⟩ := X0w.specialBack hx (y := (⟨"java/lang/String", "<init>", "([CIILjava/lang/Void;)V"⟩ : MethodName)) rfl hown (mvT hZ (hw _ (List.mem_of_getElem? (i := 11) rfl))) (mvT hZ (hw _ (List.mem_of_getElem? (i := 12) rfl))) (mvT hZ (hw _ (List.mem_of_getElem? (i := 14) rfl))) (by decide) (backOf (W := 0) (rmi4g l Z a0 hw [] a1 a2 k cs n c0 c1 c2 h0 n0 Z0 E_a1 F_value_a1 F_coder_a1 g_a1 O0 S__assertionsDisabled S_HI_BYTE_SHIFT S_LO_BYTE_SHIFT S_COMPACT_STRINGS hcs V_a2 hn hr0 hr1 hr2) hZ (hw _ (List.mem_of_getElem? (i := 14) rfl)) (hw _ (List.mem_of_getElem? (i := 7) rfl)) (by decide) (by decide)) (g := (mkF m 6 #[rv a1, rv a2] [.null, (.int n), (.int (0 : Int32)), (.ref a2), (.ref a1)])) rfl (by rw [hml]; rfl) (Steps.refl _) (a := a1) (argsL := [(.ref a2), (.int (0 : Int32)), (.int n), .null]) (rest := []) (lenOf pd__28__5b_CIILjava_2f_lang_2f_Void_3b__29_V rfl) rfl (by show 2 * 0 + _ ≤ _; exact Nat.le_of_eq rfl) (hb hby d2_6) (fun _ hv => ⟨rfl, e0, (by decide : 0 + 2 ≤ _), (by decide : 0 + 9 ≤ _)⟩)
    dsimp only [Pt.U, Pt.locs, Pt.cells, Pt.slots] at X225 l225 y225 z225 st225 hQ225
    subst l225 y225 z225
    refine own_go st225 ?_
    obtain ⟨rfl, Nq225, K225, r225_0⟩ := hQ225
    have Od225 := O0.keep K225 (allS g_a1 all0)
    have E_a1_225 := E_a1.keep K225
    have V_a2_225 := V_a2.keep K225 (ninS (Ne.symm (Exa.neArv E_a1 V_a2 (hw _ (List.mem_of_getElem? (i := 6) rfl)))) nin0)
    have Z225 : n0 ≤ T225.heap.size := Nat.le_trans Z0 K225.1
    have hk225 : 0 ≤ T225.heap.size := Nat.le_trans hk0 K225.1
    have Kt225 := Kz.trans K225 (allS (P := fun x => x ∈ _ ∨ _ ≤ x) (Or.inl (List.mem_of_getElem? (i := 0) rfl)) all0)
    have N225 := Fr.app N0 Nq225
    show own_Fin _ _ _ _ (T225.setTop (mkF m 9 #[rv a1, rv a2] []))
    obtain ⟨fs226, hr226, hrun226, hended226, hRW226⟩ := X225.leaveW (s := s) hS0 (n := 0) hk225 (v := none) (fun _ => rfl)
    refine own_done (X225.returnOut hx Bd.returns (hb hby d2_9) hr226) hrun226 hended226 ⟨_, _, rfl, ?_, hRW226.1, hRW226.2.1, hRW226.2.2.1, hRW226.2.2.2.mono (by decide) (by decide)⟩
    show (QstrS Z a1 a2 k cs n c0 c1 c2 h0 n0 _ T225.heap _ ∧ own_K Z T225.heap T225.vm)
    exact ⟨⟨rfl, N225, Kt225, r225_0⟩, own_K.warm (s := s) (vm0 := s.vm) (own_K.keep1 hK0 E_a1 F_value_a1 (hw _ (List.mem_of_getElem? (i := 6) rfl)) Kt225) X225.warmed⟩
theorem own_chn {c : Int32} (h : own_ch c) : nar .char c = c := by
  obtain ⟨k, rfl⟩ := h
  exact (show ∀ k : Fin 512, nar .char (Int32.ofNat k.val) = Int32.ofNat k.val by decide +kernel) k
theorem own_latc {c : Int32} (h : own_ch c) (h2 : ¬ (255 : Int32) < c) : nar .char (((nar .byte (c.toInt8.toInt32)) &&& (255 : Int32)).toUInt32.toUInt16.toUInt32.toInt32) = c := by
  obtain ⟨k, rfl⟩ := h
  have q := (show ∀ k : Fin 512, ¬ (255 : Int32) < Int32.ofNat k.val → nar .char (((nar .byte ((Int32.ofNat k.val).toInt8.toInt32)) &&& (255 : Int32)).toUInt32.toUInt16.toUInt32.toInt32) = Int32.ofNat k.val by decide +kernel) k
  exact q h2
theorem own_getm {cs : List Int32} {i : Int32} (h : i.toNatClampNeg < cs.length) : own_get cs i ∈ cs := by
  unfold own_get; rw [List.getD_eq_getElem?_getD, List.getElem?_eq_getElem h]; exact List.getElem_mem h
theorem own_getf (f : Int32 → Int32) {cs : List Int32} {i : Int32} (h : i.toNatClampNeg < cs.length) : own_get (cs.map f) i = f (own_get cs i) := by
  unfold own_get; simp [List.getD_eq_getElem?_getD, List.getElem?_map, List.getElem?_eq_getElem h]
theorem own_cal {n c0 c1 c2 : Int32} (hn4 : n = (0 : Int32) ∨ n = (1 : Int32) ∨ n = (2 : Int32) ∨ n = (3 : Int32)) : (own_ca n c0 c1 c2).length = n.toNatClampNeg := by
  rcases hn4 with rfl | rfl | rfl | rfl <;> rfl
theorem own_chs {n c0 c1 c2 : Int32} (hn4 : n = (0 : Int32) ∨ n = (1 : Int32) ∨ n = (2 : Int32) ∨ n = (3 : Int32)) (h0 : own_ch c0) (h1 : own_ch c1) (h2 : own_ch c2) : ∀ c ∈ own_ca n c0 c1 c2, own_ch c := fun c hc => by
  rcases hn4 with rfl | rfl | rfl | rfl
  · have hc' : c ∈ ([] : List Int32) := hc
    simp at hc'
  · have hc' : c ∈ [c0] := hc
    simp only [List.mem_cons, List.not_mem_nil, or_false] at hc'
    subst hc'; exact h0
  · have hc' : c ∈ [c0, c1] := hc
    simp only [List.mem_cons, List.not_mem_nil, or_false] at hc'
    rcases hc' with rfl | rfl <;> assumption
  · have hc' : c ∈ [c0, c1, c2] := hc
    simp only [List.mem_cons, List.not_mem_nil, or_false] at hc'
    rcases hc' with rfl | rfl | rfl <;> assumption
theorem own_latg {cs : List Int32} {i : Int32} (hl : i.toNatClampNeg < cs.length) (hch : ∀ c ∈ cs, own_ch c) (hal : ∀ c ∈ cs, ¬ (255 : Int32) < c) : nar .char (((own_get (own_lo cs) i) &&& (255 : Int32)).toUInt32.toUInt16.toUInt32.toInt32) = own_get cs i := by
  rw [show own_lo cs = cs.map (fun c => nar .byte (c.toInt8.toInt32)) from rfl, own_getf _ hl]
  exact own_latc (hch _ (own_getm hl)) (hal _ (own_getm hl))
theorem own_ixl {i n : Int32} (h0 : ¬ i < (0 : Int32)) (h1 : i < n) : i.toNatClampNeg < n.toNatClampNeg := by
  rw [Int32.lt_iff_toInt_lt] at h0 h1
  have : (0 : Int32).toInt = 0 := rfl
  unfold Int32.toNatClampNeg; omega
theorem d10_0 : decode jdk_42_method_152_code 0 = .ok (.getstatic 38, 3) := by decide +kernel
theorem d10_3 : decode jdk_42_method_152_code 3 = .ok (.ifCond .eq 10, 3) := by decide +kernel
theorem d10_6 : decode jdk_42_method_152_code 6 = .ok (.aload_n 0, 1) := by decide +kernel
theorem d10_7 : decode jdk_42_method_152_code 7 = .ok (.getfield 15, 3) := by decide +kernel
theorem d10_10 : decode jdk_42_method_152_code 10 = .ok (.goto 4, 3) := by decide +kernel
theorem d10_13 : decode jdk_42_method_152_code 13 = .ok (.iconst 1, 1) := by decide +kernel
theorem d10_14 : decode jdk_42_method_152_code 14 = .ok (.ireturn, 1) := by decide +kernel
theorem ef_co_0 (m : MethodId) (x0 : Addr) : entryFrame m #[(.ref x0)] 1 = mkF m 0 #[.val (.ref x0)] [] := by first | (simp [entryFrame, mkF, argsToLocals, Value.category]; done) | rfl
def Qco_0 (Z : State) (a1 : Addr) (cs : Int32) (h0 : Heap) (n0 : Nat) (v : Option Value) (h : Heap) (L : List Loc) : Prop := v = some (.int (0 : Int32)) ∧ Fr n0 L ∧ h = h0
abbrev Gco_0 (Z : State) (a1 : Addr) (cs : Int32) (h0 : Heap) (n0 : Nat) (s : State) : Outcome → State → Prop := fun o U' => ∃ v L, o = .returned v ∧ Qco_0 Z a1 cs h0 n0 v U'.heap L ∧ FrameEnd s o U' L ({ frames := 0, cells := 0, slots := 0, locals := 0 } : Room).cells ({ frames := 0, cells := 0, slots := 0, locals := 0 } : Room).slots
set_option maxRecDepth 65536 in
set_option maxHeartbeats 40000000 in
theorem rmco_0 (l : Launch) (Z : State) (a0 : Array Value) (hw : ∀ d ∈ tables_1, d.before a0 Z = true) (ws : List Jvm.Cond) (a1 : Addr) (cs : Int32) (h0 : Heap) (n0 : Nat) (Z0 : n0 ≤ h0.size) (F_coder_a1 : Fld Z h0 a1 "java/lang/String" "coder" "B" (.int (0 : Int32))) (O0 : Old Z n0 h0) (S_COMPACT_STRINGS : Sta Z Z.heap "java/lang/String" "COMPACT_STRINGS" "Z" (.int cs)) (hcs : ¬ cs = (0 : Int32)) :
    MetFree l (⟨"java/lang/String", "coder", "()B"⟩ : MethodName) (head1 (Jvm.Cond.code (⟨"java/lang/String", "coder", "()B"⟩ : MethodName) jdk_42_method_152_code 1 (some .byte) :: ws) ({ frames := 0, cells := 0, slots := 0, locals := 0 } : Room)) (fun a U => a = #[(.ref a1)] ∧ Z.Warmed39 U.vm ∧ U.heap = h0) (fun _ _ _ _ _ => True) (fun _ U o U' => ∃ v L, o = .returned v ∧ Qco_0 Z a1 cs h0 n0 v U'.heap L ∧ FrameEnd U o U' L ({ frames := 0, cells := 0, slots := 0, locals := 0 } : Room).cells ({ frames := 0, cells := 0, slots := 0, locals := 0 } : Room).slots) := by
  refine MetFree.of_bodySF (plainFor_of_name pn_java_lang_String) hisR ?_
  intro p e s m args below meth c s₁ Bd hml0 hP hK
  obtain ⟨rfl, hZ, hh⟩ := hP
  have hx := Bd.exec
  have hby := Bd.bytes
  have hml : c.maxLocals = 1 := hml0
  have hown : s.vm.findClass "java/lang/String" = some m.cls := findClass_of_methodNamed Bd.named
  have hnm := (name_of_methodNamed Bd.named Bd.method).1
  have X0 : Stand p l e ({ frames := 0, cells := 0, slots := 0, locals := 0 } : Room) s m #[(.ref a1)] below meth c s₁ [] 0 0 := Stand.of_body Bd
  have e0 : s₁.heap = h0 := by rw [← hh, Bd.state]; rfl
  have es0 : s.heap = h0 := hh
  have N0 := Fr.nil n0
  show own_Fin p e below (Gco_0 Z a1 cs h0 n0 s) (s₁.setTop (entryFrame m #[(.ref a1)] 1))
  rw [ef_co_0 m a1]
  obtain ⟨T227, X227, e227, st227⟩ := getS2 X0 hx hZ hown (host := "") (Or.inl (hw _ (List.mem_of_getElem? (i := 18) rfl))) Via.refl e0 (S_COMPACT_STRINGS.ext O0.2) (g := (mkF m 0 #[rv a1] [])) rfl (hb hby d10_0)
  refine own_by st227 ?_
  show own_Fin _ _ _ _ (T227.setTop (mkF m 3 #[rv a1] [(.int cs)]))
  refine own_go (XS.ifNo X227.here hx rfl (hb hby d10_3) rfl ((if0 _ _).trans (feq (show ¬ (cs = (0 : Int32)) from hcs)).1) (Steps.refl _)) ?_
  show own_Fin _ _ _ _ (T227.setTop (mkF m 6 #[rv a1] []))
  refine own_go (XS.aloadN X227.here hx rfl (hb hby d10_6) rfl rfl (Steps.refl _)) ?_
  show own_Fin _ _ _ _ (T227.setTop (mkF m 7 #[rv a1] [(.ref a1)]))
  obtain ⟨T228, X228, e228, st228⟩ := getF X227 hx hZ hown (host := "") (Or.inl (hw _ (List.mem_of_getElem? (i := 30) rfl))) Via.refl e227 F_coder_a1 (g := (mkF m 7 #[rv a1] [(.ref a1)])) rfl rfl (hb hby d10_7)
  refine own_by st228 ?_
  show own_Fin _ _ _ _ (T228.setTop (mkF m 10 #[rv a1] [(.int (0 : Int32))]))
  refine own_go (XS.goto X228.here hx rfl (pc0 := 10) (pc' := 14) rfl (hb hby d10_10) (by decide) (by decide) (Steps.refl _)) ?_
  show own_Fin _ _ _ _ (T228.setTop (mkF m 14 #[rv a1] [(.int (0 : Int32))]))
  obtain ⟨fs229, hr229, hrun229, hended229, hW229, hsame229⟩ := X228.leave (v := some (.int (0 : Int32))) (fun h => by rw [Bd.returns] at h; cases h)
  refine own_done (retN X228 hx (t := .byte) Bd.returns (by simp) (hb hby d10_14) hr229) hrun229 hended229 ⟨_, _, rfl, ?_, ⟨_, rfl⟩, hW229, hsame229.mono (by decide) (by decide)⟩
  show Qco_0 Z a1 cs h0 n0 _ T228.heap _
  rw [e228]
  exact ⟨rfl, N0, rfl⟩
theorem d13_0 : decode jdk_42_method_154_code 0 = .ok (.getstatic 38, 3) := by decide +kernel
theorem d13_3 : decode jdk_42_method_154_code 3 = .ok (.ifCond .eq 14, 3) := by decide +kernel
theorem d13_6 : decode jdk_42_method_154_code 6 = .ok (.aload_n 0, 1) := by decide +kernel
theorem d13_7 : decode jdk_42_method_154_code 7 = .ok (.getfield 15, 3) := by decide +kernel
theorem d13_10 : decode jdk_42_method_154_code 10 = .ok (.ifCond .ne 7, 3) := by decide +kernel
theorem d13_13 : decode jdk_42_method_154_code 13 = .ok (.iconst 1, 1) := by decide +kernel
theorem d13_14 : decode jdk_42_method_154_code 14 = .ok (.goto 4, 3) := by decide +kernel
theorem d13_17 : decode jdk_42_method_154_code 17 = .ok (.iconst 0, 1) := by decide +kernel
theorem d13_18 : decode jdk_42_method_154_code 18 = .ok (.ireturn, 1) := by decide +kernel
theorem ef_il_0 (m : MethodId) (x0 : Addr) : entryFrame m #[(.ref x0)] 1 = mkF m 0 #[.val (.ref x0)] [] := by first | (simp [entryFrame, mkF, argsToLocals, Value.category]; done) | rfl
def Qil_0 (Z : State) (a1 : Addr) (cs : Int32) (h0 : Heap) (n0 : Nat) (v : Option Value) (h : Heap) (L : List Loc) : Prop := v = some (.int (1 : Int32)) ∧ Fr n0 L ∧ h = h0
abbrev Gil_0 (Z : State) (a1 : Addr) (cs : Int32) (h0 : Heap) (n0 : Nat) (s : State) : Outcome → State → Prop := fun o U' => ∃ v L, o = .returned v ∧ Qil_0 Z a1 cs h0 n0 v U'.heap L ∧ FrameEnd s o U' L ({ frames := 0, cells := 0, slots := 0, locals := 0 } : Room).cells ({ frames := 0, cells := 0, slots := 0, locals := 0 } : Room).slots
set_option maxRecDepth 65536 in
set_option maxHeartbeats 40000000 in
theorem rmil_0 (l : Launch) (Z : State) (a0 : Array Value) (hw : ∀ d ∈ tables_1, d.before a0 Z = true) (ws : List Jvm.Cond) (a1 : Addr) (cs : Int32) (h0 : Heap) (n0 : Nat) (Z0 : n0 ≤ h0.size) (F_coder_a1 : Fld Z h0 a1 "java/lang/String" "coder" "B" (.int (0 : Int32))) (O0 : Old Z n0 h0) (S_COMPACT_STRINGS : Sta Z Z.heap "java/lang/String" "COMPACT_STRINGS" "Z" (.int cs)) (hcs : ¬ cs = (0 : Int32)) :
    MetFree l (⟨"java/lang/String", "isLatin1", "()Z"⟩ : MethodName) (head1 (Jvm.Cond.code (⟨"java/lang/String", "isLatin1", "()Z"⟩ : MethodName) jdk_42_method_154_code 1 (some .boolean) :: ws) ({ frames := 0, cells := 0, slots := 0, locals := 0 } : Room)) (fun a U => a = #[(.ref a1)] ∧ Z.Warmed39 U.vm ∧ U.heap = h0) (fun _ _ _ _ _ => True) (fun _ U o U' => ∃ v L, o = .returned v ∧ Qil_0 Z a1 cs h0 n0 v U'.heap L ∧ FrameEnd U o U' L ({ frames := 0, cells := 0, slots := 0, locals := 0 } : Room).cells ({ frames := 0, cells := 0, slots := 0, locals := 0 } : Room).slots) := by
  refine MetFree.of_bodySF (plainFor_of_name pn_java_lang_String) hisR ?_
  intro p e s m args below meth c s₁ Bd hml0 hP hK
  obtain ⟨rfl, hZ, hh⟩ := hP
  have hx := Bd.exec
  have hby := Bd.bytes
  have hml : c.maxLocals = 1 := hml0
  have hown : s.vm.findClass "java/lang/String" = some m.cls := findClass_of_methodNamed Bd.named
  have hnm := (name_of_methodNamed Bd.named Bd.method).1
  have X0 : Stand p l e ({ frames := 0, cells := 0, slots := 0, locals := 0 } : Room) s m #[(.ref a1)] below meth c s₁ [] 0 0 := Stand.of_body Bd
  have e0 : s₁.heap = h0 := by rw [← hh, Bd.state]; rfl
  have es0 : s.heap = h0 := hh
  have N0 := Fr.nil n0
  show own_Fin p e below (Gil_0 Z a1 cs h0 n0 s) (s₁.setTop (entryFrame m #[(.ref a1)] 1))
  rw [ef_il_0 m a1]
  obtain ⟨T230, X230, e230, st230⟩ := getS2 X0 hx hZ hown (host := "") (Or.inl (hw _ (List.mem_of_getElem? (i := 18) rfl))) Via.refl e0 (S_COMPACT_STRINGS.ext O0.2) (g := (mkF m 0 #[rv a1] [])) rfl (hb hby d13_0)
  refine own_by st230 ?_
  show own_Fin _ _ _ _ (T230.setTop (mkF m 3 #[rv a1] [(.int cs)]))
  refine own_go (XS.ifNo X230.here hx rfl (hb hby d13_3) rfl ((if0 _ _).trans (feq (show ¬ (cs = (0 : Int32)) from hcs)).1) (Steps.refl _)) ?_
  show own_Fin _ _ _ _ (T230.setTop (mkF m 6 #[rv a1] []))
  refine own_go (XS.aloadN X230.here hx rfl (hb hby d13_6) rfl rfl (Steps.refl _)) ?_
  show own_Fin _ _ _ _ (T230.setTop (mkF m 7 #[rv a1] [(.ref a1)]))
  obtain ⟨T231, X231, e231, st231⟩ := getF X230 hx hZ hown (host := "") (Or.inl (hw _ (List.mem_of_getElem? (i := 30) rfl))) Via.refl e230 F_coder_a1 (g := (mkF m 7 #[rv a1] [(.ref a1)])) rfl rfl (hb hby d13_7)
  refine own_by st231 ?_
  show own_Fin _ _ _ _ (T231.setTop (mkF m 10 #[rv a1] [(.int (0 : Int32))]))
  refine own_go (XS.ifNo X231.here hx rfl (hb hby d13_10) rfl ((if0 _ _).trans (teq (by decide : (0 : Int32) = (0 : Int32))).2) (Steps.refl _)) ?_
  show own_Fin _ _ _ _ (T231.setTop (mkF m 13 #[rv a1] []))
  refine own_go (XS.iconst X231.here hx rfl (hb hby d13_13) (Steps.refl _)) ?_
  show own_Fin _ _ _ _ (T231.setTop (mkF m 14 #[rv a1] [(.int (1 : Int32))]))
  refine own_go (XS.goto X231.here hx rfl (pc0 := 14) (pc' := 18) rfl (hb hby d13_14) (by decide) (by decide) (Steps.refl _)) ?_
  show own_Fin _ _ _ _ (T231.setTop (mkF m 18 #[rv a1] [(.int (1 : Int32))]))
  obtain ⟨fs232, hr232, hrun232, hended232, hW232, hsame232⟩ := X231.leave (v := some (.int (1 : Int32))) (fun h => by rw [Bd.returns] at h; cases h)
  refine own_done (retN X231 hx (t := .boolean) Bd.returns (by simp) (hb hby d13_18) hr232) hrun232 hended232 ⟨_, _, rfl, ?_, ⟨_, rfl⟩, hW232, hsame232.mono (by decide) (by decide)⟩
  show Qil_0 Z a1 cs h0 n0 _ T231.heap _
  rw [e231]
  exact ⟨rfl, N0, rfl⟩
theorem ef_co_1 (m : MethodId) (x0 : Addr) : entryFrame m #[(.ref x0)] 1 = mkF m 0 #[.val (.ref x0)] [] := by first | (simp [entryFrame, mkF, argsToLocals, Value.category]; done) | rfl
def Qco_1 (Z : State) (a1 : Addr) (cs : Int32) (h0 : Heap) (n0 : Nat) (v : Option Value) (h : Heap) (L : List Loc) : Prop := v = some (.int (1 : Int32)) ∧ Fr n0 L ∧ h = h0
abbrev Gco_1 (Z : State) (a1 : Addr) (cs : Int32) (h0 : Heap) (n0 : Nat) (s : State) : Outcome → State → Prop := fun o U' => ∃ v L, o = .returned v ∧ Qco_1 Z a1 cs h0 n0 v U'.heap L ∧ FrameEnd s o U' L ({ frames := 0, cells := 0, slots := 0, locals := 0 } : Room).cells ({ frames := 0, cells := 0, slots := 0, locals := 0 } : Room).slots
set_option maxRecDepth 65536 in
set_option maxHeartbeats 40000000 in
theorem rmco_1 (l : Launch) (Z : State) (a0 : Array Value) (hw : ∀ d ∈ tables_1, d.before a0 Z = true) (ws : List Jvm.Cond) (a1 : Addr) (cs : Int32) (h0 : Heap) (n0 : Nat) (Z0 : n0 ≤ h0.size) (F_coder_a1 : Fld Z h0 a1 "java/lang/String" "coder" "B" (.int (1 : Int32))) (O0 : Old Z n0 h0) (S_COMPACT_STRINGS : Sta Z Z.heap "java/lang/String" "COMPACT_STRINGS" "Z" (.int cs)) (hcs : ¬ cs = (0 : Int32)) :
    MetFree l (⟨"java/lang/String", "coder", "()B"⟩ : MethodName) (head1 (Jvm.Cond.code (⟨"java/lang/String", "coder", "()B"⟩ : MethodName) jdk_42_method_152_code 1 (some .byte) :: ws) ({ frames := 0, cells := 0, slots := 0, locals := 0 } : Room)) (fun a U => a = #[(.ref a1)] ∧ Z.Warmed39 U.vm ∧ U.heap = h0) (fun _ _ _ _ _ => True) (fun _ U o U' => ∃ v L, o = .returned v ∧ Qco_1 Z a1 cs h0 n0 v U'.heap L ∧ FrameEnd U o U' L ({ frames := 0, cells := 0, slots := 0, locals := 0 } : Room).cells ({ frames := 0, cells := 0, slots := 0, locals := 0 } : Room).slots) := by
  refine MetFree.of_bodySF (plainFor_of_name pn_java_lang_String) hisR ?_
  intro p e s m args below meth c s₁ Bd hml0 hP hK
  obtain ⟨rfl, hZ, hh⟩ := hP
  have hx := Bd.exec
  have hby := Bd.bytes
  have hml : c.maxLocals = 1 := hml0
  have hown : s.vm.findClass "java/lang/String" = some m.cls := findClass_of_methodNamed Bd.named
  have hnm := (name_of_methodNamed Bd.named Bd.method).1
  have X0 : Stand p l e ({ frames := 0, cells := 0, slots := 0, locals := 0 } : Room) s m #[(.ref a1)] below meth c s₁ [] 0 0 := Stand.of_body Bd
  have e0 : s₁.heap = h0 := by rw [← hh, Bd.state]; rfl
  have es0 : s.heap = h0 := hh
  have N0 := Fr.nil n0
  show own_Fin p e below (Gco_1 Z a1 cs h0 n0 s) (s₁.setTop (entryFrame m #[(.ref a1)] 1))
  rw [ef_co_1 m a1]
  obtain ⟨T233, X233, e233, st233⟩ := getS2 X0 hx hZ hown (host := "") (Or.inl (hw _ (List.mem_of_getElem? (i := 18) rfl))) Via.refl e0 (S_COMPACT_STRINGS.ext O0.2) (g := (mkF m 0 #[rv a1] [])) rfl (hb hby d10_0)
  refine own_by st233 ?_
  show own_Fin _ _ _ _ (T233.setTop (mkF m 3 #[rv a1] [(.int cs)]))
  refine own_go (XS.ifNo X233.here hx rfl (hb hby d10_3) rfl ((if0 _ _).trans (feq (show ¬ (cs = (0 : Int32)) from hcs)).1) (Steps.refl _)) ?_
  show own_Fin _ _ _ _ (T233.setTop (mkF m 6 #[rv a1] []))
  refine own_go (XS.aloadN X233.here hx rfl (hb hby d10_6) rfl rfl (Steps.refl _)) ?_
  show own_Fin _ _ _ _ (T233.setTop (mkF m 7 #[rv a1] [(.ref a1)]))
  obtain ⟨T234, X234, e234, st234⟩ := getF X233 hx hZ hown (host := "") (Or.inl (hw _ (List.mem_of_getElem? (i := 30) rfl))) Via.refl e233 F_coder_a1 (g := (mkF m 7 #[rv a1] [(.ref a1)])) rfl rfl (hb hby d10_7)
  refine own_by st234 ?_
  show own_Fin _ _ _ _ (T234.setTop (mkF m 10 #[rv a1] [(.int (1 : Int32))]))
  refine own_go (XS.goto X234.here hx rfl (pc0 := 10) (pc' := 14) rfl (hb hby d10_10) (by decide) (by decide) (Steps.refl _)) ?_
  show own_Fin _ _ _ _ (T234.setTop (mkF m 14 #[rv a1] [(.int (1 : Int32))]))
  obtain ⟨fs235, hr235, hrun235, hended235, hW235, hsame235⟩ := X234.leave (v := some (.int (1 : Int32))) (fun h => by rw [Bd.returns] at h; cases h)
  refine own_done (retN X234 hx (t := .byte) Bd.returns (by simp) (hb hby d10_14) hr235) hrun235 hended235 ⟨_, _, rfl, ?_, ⟨_, rfl⟩, hW235, hsame235.mono (by decide) (by decide)⟩
  show Qco_1 Z a1 cs h0 n0 _ T234.heap _
  rw [e234]
  exact ⟨rfl, N0, rfl⟩
theorem ef_il_1 (m : MethodId) (x0 : Addr) : entryFrame m #[(.ref x0)] 1 = mkF m 0 #[.val (.ref x0)] [] := by first | (simp [entryFrame, mkF, argsToLocals, Value.category]; done) | rfl
def Qil_1 (Z : State) (a1 : Addr) (cs : Int32) (h0 : Heap) (n0 : Nat) (v : Option Value) (h : Heap) (L : List Loc) : Prop := v = some (.int (0 : Int32)) ∧ Fr n0 L ∧ h = h0
abbrev Gil_1 (Z : State) (a1 : Addr) (cs : Int32) (h0 : Heap) (n0 : Nat) (s : State) : Outcome → State → Prop := fun o U' => ∃ v L, o = .returned v ∧ Qil_1 Z a1 cs h0 n0 v U'.heap L ∧ FrameEnd s o U' L ({ frames := 0, cells := 0, slots := 0, locals := 0 } : Room).cells ({ frames := 0, cells := 0, slots := 0, locals := 0 } : Room).slots
set_option maxRecDepth 65536 in
set_option maxHeartbeats 40000000 in
theorem rmil_1 (l : Launch) (Z : State) (a0 : Array Value) (hw : ∀ d ∈ tables_1, d.before a0 Z = true) (ws : List Jvm.Cond) (a1 : Addr) (cs : Int32) (h0 : Heap) (n0 : Nat) (Z0 : n0 ≤ h0.size) (F_coder_a1 : Fld Z h0 a1 "java/lang/String" "coder" "B" (.int (1 : Int32))) (O0 : Old Z n0 h0) (S_COMPACT_STRINGS : Sta Z Z.heap "java/lang/String" "COMPACT_STRINGS" "Z" (.int cs)) (hcs : ¬ cs = (0 : Int32)) :
    MetFree l (⟨"java/lang/String", "isLatin1", "()Z"⟩ : MethodName) (head1 (Jvm.Cond.code (⟨"java/lang/String", "isLatin1", "()Z"⟩ : MethodName) jdk_42_method_154_code 1 (some .boolean) :: ws) ({ frames := 0, cells := 0, slots := 0, locals := 0 } : Room)) (fun a U => a = #[(.ref a1)] ∧ Z.Warmed39 U.vm ∧ U.heap = h0) (fun _ _ _ _ _ => True) (fun _ U o U' => ∃ v L, o = .returned v ∧ Qil_1 Z a1 cs h0 n0 v U'.heap L ∧ FrameEnd U o U' L ({ frames := 0, cells := 0, slots := 0, locals := 0 } : Room).cells ({ frames := 0, cells := 0, slots := 0, locals := 0 } : Room).slots) := by
  refine MetFree.of_bodySF (plainFor_of_name pn_java_lang_String) hisR ?_
  intro p e s m args below meth c s₁ Bd hml0 hP hK
  obtain ⟨rfl, hZ, hh⟩ := hP
  have hx := Bd.exec
  have hby := Bd.bytes
  have hml : c.maxLocals = 1 := hml0
  have hown : s.vm.findClass "java/lang/String" = some m.cls := findClass_of_methodNamed Bd.named
  have hnm := (name_of_methodNamed Bd.named Bd.method).1
  have X0 : Stand p l e ({ frames := 0, cells := 0, slots := 0, locals := 0 } : Room) s m #[(.ref a1)] below meth c s₁ [] 0 0 := Stand.of_body Bd
  have e0 : s₁.heap = h0 := by rw [← hh, Bd.state]; rfl
  have es0 : s.heap = h0 := hh
  have N0 := Fr.nil n0
  show own_Fin p e below (Gil_1 Z a1 cs h0 n0 s) (s₁.setTop (entryFrame m #[(.ref a1)] 1))
  rw [ef_il_1 m a1]
  obtain ⟨T236, X236, e236, st236⟩ := getS2 X0 hx hZ hown (host := "") (Or.inl (hw _ (List.mem_of_getElem? (i := 18) rfl))) Via.refl e0 (S_COMPACT_STRINGS.ext O0.2) (g := (mkF m 0 #[rv a1] [])) rfl (hb hby d13_0)
  refine own_by st236 ?_
  show own_Fin _ _ _ _ (T236.setTop (mkF m 3 #[rv a1] [(.int cs)]))
  refine own_go (XS.ifNo X236.here hx rfl (hb hby d13_3) rfl ((if0 _ _).trans (feq (show ¬ (cs = (0 : Int32)) from hcs)).1) (Steps.refl _)) ?_
  show own_Fin _ _ _ _ (T236.setTop (mkF m 6 #[rv a1] []))
  refine own_go (XS.aloadN X236.here hx rfl (hb hby d13_6) rfl rfl (Steps.refl _)) ?_
  show own_Fin _ _ _ _ (T236.setTop (mkF m 7 #[rv a1] [(.ref a1)]))
  obtain ⟨T237, X237, e237, st237⟩ := getF X236 hx hZ hown (host := "") (Or.inl (hw _ (List.mem_of_getElem? (i := 30) rfl))) Via.refl e236 F_coder_a1 (g := (mkF m 7 #[rv a1] [(.ref a1)])) rfl rfl (hb hby d13_7)
  refine own_by st237 ?_
  show own_Fin _ _ _ _ (T237.setTop (mkF m 10 #[rv a1] [(.int (1 : Int32))]))
  refine own_go (XS.ifYes X237.here hx rfl (pc0 := 10) (pc' := 17) rfl (hb hby d13_10) rfl ((if0 _ _).trans (feq (by decide : ¬ ((1 : Int32) = (0 : Int32)))).2) (by decide) (by decide) (Steps.refl _)) ?_
  show own_Fin _ _ _ _ (T237.setTop (mkF m 17 #[rv a1] []))
  refine own_go (XS.iconst X237.here hx rfl (hb hby d13_17) (Steps.refl _)) ?_
  show own_Fin _ _ _ _ (T237.setTop (mkF m 18 #[rv a1] [(.int (0 : Int32))]))
  obtain ⟨fs238, hr238, hrun238, hended238, hW238, hsame238⟩ := X237.leave (v := some (.int (0 : Int32))) (fun h => by rw [Bd.returns] at h; cases h)
  refine own_done (retN X237 hx (t := .boolean) Bd.returns (by simp) (hb hby d13_18) hr238) hrun238 hended238 ⟨_, _, rfl, ?_, ⟨_, rfl⟩, hW238, hsame238.mono (by decide) (by decide)⟩
  show Qil_1 Z a1 cs h0 n0 _ T237.heap _
  rw [e237]
  exact ⟨rfl, N0, rfl⟩
theorem d9_0 : decode jdk_42_method_54_code 0 = .ok (.aload_n 0, 1) := by decide +kernel
theorem d9_1 : decode jdk_42_method_54_code 1 = .ok (.getfield 9, 3) := by decide +kernel
theorem d9_4 : decode jdk_42_method_54_code 4 = .ok (.arraylength, 1) := by decide +kernel
theorem d9_5 : decode jdk_42_method_54_code 5 = .ok (.aload_n 0, 1) := by decide +kernel
theorem d9_6 : decode jdk_42_method_54_code 6 = .ok (.invokevirtual 335, 3) := by decide +kernel
theorem d9_9 : decode jdk_42_method_54_code 9 = .ok (.ishr, 1) := by decide +kernel
theorem d9_10 : decode jdk_42_method_54_code 10 = .ok (.ireturn, 1) := by decide +kernel
theorem ef_len (m : MethodId) (x0 : Addr) : entryFrame m #[(.ref x0)] 1 = mkF m 0 #[.val (.ref x0)] [] := by first | (simp [entryFrame, mkF, argsToLocals, Value.category]; done) | rfl
def Qlen (Z : State) (a1 : Addr) (cs : Int32) (n : Int32) (c0 : Int32) (c1 : Int32) (c2 : Int32) (h0 : Heap) (n0 : Nat) (v : Option Value) (h : Heap) (L : List Loc) : Prop := v = some (.int n) ∧ Fr n0 L ∧ h = h0
abbrev Glen (Z : State) (a1 : Addr) (cs : Int32) (n : Int32) (c0 : Int32) (c1 : Int32) (c2 : Int32) (h0 : Heap) (n0 : Nat) (s : State) : Outcome → State → Prop := fun o U' => ∃ v L, o = .returned v ∧ Qlen Z a1 cs n c0 c1 c2 h0 n0 v U'.heap L ∧ FrameEnd s o U' L ({ frames := 1, cells := 0, slots := 0, locals := 16 } : Room).cells ({ frames := 1, cells := 0, slots := 0, locals := 16 } : Room).slots
theorem pd__28__29_B : parseMethodDescriptor "()B" = some ⟨[], some .byte⟩ := by decide +kernel
set_option maxRecDepth 65536 in
set_option maxHeartbeats 40000000 in
theorem rmlen (l : Launch) (Z : State) (a0 : Array Value) (hw : ∀ d ∈ tables_1, d.before a0 Z = true) (ws : List Jvm.Cond) (a1 : Addr) (cs : Int32) (n : Int32) (c0 : Int32) (c1 : Int32) (c2 : Int32) (h0 : Heap) (n0 : Nat) (Z0 : n0 ≤ h0.size) (hS : own_Str Z h0 a1 n c0 c1 c2) (O0 : Old Z n0 h0) (S_COMPACT_STRINGS : Sta Z Z.heap "java/lang/String" "COMPACT_STRINGS" "Z" (.int cs)) (hcs : ¬ cs = (0 : Int32)) (hn4 : n = (0 : Int32) ∨ n = (1 : Int32) ∨ n = (2 : Int32) ∨ n = (3 : Int32)) :
    MetFree l (⟨"java/lang/String", "length", "()I"⟩ : MethodName) (head1 (Jvm.Cond.code (⟨"java/lang/String", "length", "()I"⟩ : MethodName) jdk_42_method_54_code 1 (some .int) :: ws) ({ frames := 1, cells := 0, slots := 0, locals := 16 } : Room)) (fun a U => a = #[(.ref a1)] ∧ Z.Warmed39 U.vm ∧ U.heap = h0) (fun _ _ _ _ _ => True) (fun _ U o U' => ∃ v L, o = .returned v ∧ Qlen Z a1 cs n c0 c1 c2 h0 n0 v U'.heap L ∧ FrameEnd U o U' L ({ frames := 1, cells := 0, slots := 0, locals := 16 } : Room).cells ({ frames := 1, cells := 0, slots := 0, locals := 16 } : Room).slots) := by
  refine MetFree.of_bodySF (plainFor_of_name pn_java_lang_String) hisR ?_
  intro p e s m args below meth c s₁ Bd hml0 hP hK
  obtain ⟨rfl, hZ, hh⟩ := hP
  have hx := Bd.exec
  have hby := Bd.bytes
  have hml : c.maxLocals = 1 := hml0
  have hown : s.vm.findClass "java/lang/String" = some m.cls := findClass_of_methodNamed Bd.named
  have hnm := (name_of_methodNamed Bd.named Bd.method).1
  have X0 : Stand p l e ({ frames := 1, cells := 0, slots := 0, locals := 16 } : Room) s m #[(.ref a1)] below meth c s₁ [] 0 0 := Stand.of_body Bd
  have e0 : s₁.heap = h0 := by rw [← hh, Bd.state]; rfl
  have es0 : s.heap = h0 := hh
  have N0 := Fr.nil n0
  show own_Fin p e below (Glen Z a1 cs n c0 c1 c2 h0 n0 s) (s₁.setTop (entryFrame m #[(.ref a1)] 1))
  rw [ef_len m a1]
  obtain ⟨E_a1, v_, co_, Fv_, Fc_, kq, ⟨rfl, hal, VqL⟩ | ⟨rfl, VqU⟩⟩ := hS
  · show own_Fin _ _ _ _ (s₁.setTop (mkF m 0 #[rv a1] []))
    refine own_go (XS.aloadN X0.here hx rfl (hb hby d9_0) rfl rfl (Steps.refl _)) ?_
    show own_Fin _ _ _ _ (s₁.setTop (mkF m 1 #[rv a1] [(.ref a1)]))
    obtain ⟨T239, X239, e239, st239⟩ := getF X0 hx hZ hown (host := "") (Or.inl (hw _ (List.mem_of_getElem? (i := 32) rfl))) Via.refl e0 Fv_ (g := (mkF m 1 #[rv a1] [(.ref a1)])) rfl rfl (hb hby d9_1)
    refine own_by st239 ?_
    show own_Fin _ _ _ _ (T239.setTop (mkF m 4 #[rv a1] [(.ref v_)]))
    obtain ⟨cl240, Ar240, qa240, Sa240, Na240, Ha240, Ga240⟩ := id VqL
    refine own_by (X239.arraylength hx (by rw [e239]; exact Ar240.1) (State.isArrayOf_alike hZ.alike Ar240.2.1) (g := (mkF m 4 #[rv a1] [(.ref v_)])) rfl rfl (hb hby d9_4)) ?_
    rw [len_of Sa240 Na240]
    show own_Fin _ _ _ _ (T239.setTop (mkF m 5 #[rv a1] [(.int n)]))
    refine own_go (XS.aloadN X239.here hx rfl (hb hby d9_5) rfl rfl (Steps.refl _)) ?_
    show own_Fin _ _ _ _ (T239.setTop (mkF m 6 #[rv a1] [(.ref a1), (.int n)]))
    obtain ⟨cq241, kq241, q241a, q241b, q241c⟩ := isOf hZ e239 E_a1
    obtain ⟨_, _, ⟨T241, L241, k241, n241⟩, -, X241, ⟨Lc241, hQ241, l241, y241, z241⟩, st241⟩ := X239.virtualBack hx (y := (⟨"java/lang/String", "coder", "()B"⟩ : MethodName)) (z := (⟨"java/lang/String", "coder", "()B"⟩ : MethodName)) hown (mvT hZ (hw _ (List.mem_of_getElem? (i := 46) rfl))) (mvT hZ (hw _ (List.mem_of_getElem? (i := 47) rfl))) (notFace_of_selects (args := #[]) (mvT hZ (hw _ (List.mem_of_getElem? (i := 49) rfl)))) (mvT hZ (hw _ (List.mem_of_getElem? (i := 49) rfl))) (mvT hZ (hw _ (List.mem_of_getElem? (i := 48) rfl))) (by decide) (backOf (W := 1) (rmco_0 l Z a0 hw [] a1 cs h0 n0 Z0 Fc_ O0 S_COMPACT_STRINGS hcs) hZ (hw _ (List.mem_of_getElem? (i := 50) rfl)) (hw _ (List.mem_of_getElem? (i := 7) rfl)) (by decide) (by decide)) q241a q241c (g := (mkF m 6 #[rv a1] [(.ref a1), (.int n)])) rfl (by rw [hml]; rfl) (Steps.refl _) (argsL := []) (rest := [(.int n)]) (lenOf pd__28__29_B rfl) rfl (by show 2 * 0 + _ ≤ _; exact Nat.le_of_eq rfl) (hb hby d9_6) (fun _ hv => ⟨rfl, e239, (by decide : 0 + 0 ≤ _), (by decide : 0 + 0 ≤ _)⟩)
    dsimp only [Pt.U, Pt.locs, Pt.cells, Pt.slots] at X241 l241 y241 z241 st241 hQ241
    subst l241 y241 z241
    obtain ⟨rfl, Nq241, e241⟩ := hQ241
    refine own_go st241 ?_
    have N241 := Fr.app N0 Nq241
    show own_Fin _ _ _ _ (T241.setTop (mkF m 9 #[rv a1] [(.int (0 : Int32)), (.int n)]))
    refine own_go (XS.ishr X241.here hx rfl (hb hby d9_9) rfl (Steps.refl _)) ?_
    show own_Fin _ _ _ _ (T241.setTop (mkF m 10 #[rv a1] [(.int (n >>> ((0 : Int32) &&& 31)))]))
    obtain ⟨fs242, hr242, hrun242, hended242, hW242, hsame242⟩ := X241.leave (v := some (.int (n >>> ((0 : Int32) &&& 31)))) (fun h => by rw [Bd.returns] at h; cases h)
    refine own_done (own_retI X241 hx Bd.returns (hb hby d9_10) hr242) hrun242 hended242 ⟨_, _, rfl, ?_, ⟨_, rfl⟩, hW242, hsame242.mono (by decide) (by decide)⟩
    show Qlen Z a1 cs n c0 c1 c2 h0 n0 _ T241.heap _
    rw [e241]
    exact ⟨(by rcases hn4 with rfl | rfl | rfl | rfl <;> decide), N241, rfl⟩
  · show own_Fin _ _ _ _ (s₁.setTop (mkF m 0 #[rv a1] []))
    refine own_go (XS.aloadN X0.here hx rfl (hb hby d9_0) rfl rfl (Steps.refl _)) ?_
    show own_Fin _ _ _ _ (s₁.setTop (mkF m 1 #[rv a1] [(.ref a1)]))
    obtain ⟨T243, X243, e243, st243⟩ := getF X0 hx hZ hown (host := "") (Or.inl (hw _ (List.mem_of_getElem? (i := 32) rfl))) Via.refl e0 Fv_ (g := (mkF m 1 #[rv a1] [(.ref a1)])) rfl rfl (hb hby d9_1)
    refine own_by st243 ?_
    show own_Fin _ _ _ _ (T243.setTop (mkF m 4 #[rv a1] [(.ref v_)]))
    obtain ⟨cl244, Ar244, qa244, Sa244, Na244, Ha244, Ga244⟩ := id VqU
    refine own_by (X243.arraylength hx (by rw [e243]; exact Ar244.1) (State.isArrayOf_alike hZ.alike Ar244.2.1) (g := (mkF m 4 #[rv a1] [(.ref v_)])) rfl rfl (hb hby d9_4)) ?_
    rw [len_of Sa244 Na244]
    show own_Fin _ _ _ _ (T243.setTop (mkF m 5 #[rv a1] [(.int (n + n))]))
    refine own_go (XS.aloadN X243.here hx rfl (hb hby d9_5) rfl rfl (Steps.refl _)) ?_
    show own_Fin _ _ _ _ (T243.setTop (mkF m 6 #[rv a1] [(.ref a1), (.int (n + n))]))
    obtain ⟨cq245, kq245, q245a, q245b, q245c⟩ := isOf hZ e243 E_a1
    obtain ⟨_, _, ⟨T245, L245, k245, n245⟩, -, X245, ⟨Lc245, hQ245, l245, y245, z245⟩, st245⟩ := X243.virtualBack hx (y := (⟨"java/lang/String", "coder", "()B"⟩ : MethodName)) (z := (⟨"java/lang/String", "coder", "()B"⟩ : MethodName)) hown (mvT hZ (hw _ (List.mem_of_getElem? (i := 46) rfl))) (mvT hZ (hw _ (List.mem_of_getElem? (i := 47) rfl))) (notFace_of_selects (args := #[]) (mvT hZ (hw _ (List.mem_of_getElem? (i := 49) rfl)))) (mvT hZ (hw _ (List.mem_of_getElem? (i := 49) rfl))) (mvT hZ (hw _ (List.mem_of_getElem? (i := 48) rfl))) (by decide) (backOf (W := 1) (rmco_1 l Z a0 hw [] a1 cs h0 n0 Z0 Fc_ O0 S_COMPACT_STRINGS hcs) hZ (hw _ (List.mem_of_getElem? (i := 50) rfl)) (hw _ (List.mem_of_getElem? (i := 7) rfl)) (by decide) (by decide)) q245a q245c (g := (mkF m 6 #[rv a1] [(.ref a1), (.int (n + n))])) rfl (by rw [hml]; rfl) (Steps.refl _) (argsL := []) (rest := [(.int (n + n))]) (lenOf pd__28__29_B rfl) rfl (by show 2 * 0 + _ ≤ _; exact Nat.le_of_eq rfl) (hb hby d9_6) (fun _ hv => ⟨rfl, e243, (by decide : 0 + 0 ≤ _), (by decide : 0 + 0 ≤ _)⟩)
    dsimp only [Pt.U, Pt.locs, Pt.cells, Pt.slots] at X245 l245 y245 z245 st245 hQ245
    subst l245 y245 z245
    obtain ⟨rfl, Nq245, e245⟩ := hQ245
    refine own_go st245 ?_
    have N245 := Fr.app N0 Nq245
    show own_Fin _ _ _ _ (T245.setTop (mkF m 9 #[rv a1] [(.int (1 : Int32)), (.int (n + n))]))
    refine own_go (XS.ishr X245.here hx rfl (hb hby d9_9) rfl (Steps.refl _)) ?_
    show own_Fin _ _ _ _ (T245.setTop (mkF m 10 #[rv a1] [(.int ((n + n) >>> ((1 : Int32) &&& 31)))]))
    obtain ⟨fs246, hr246, hrun246, hended246, hW246, hsame246⟩ := X245.leave (v := some (.int ((n + n) >>> ((1 : Int32) &&& 31)))) (fun h => by rw [Bd.returns] at h; cases h)
    refine own_done (own_retI X245 hx Bd.returns (hb hby d9_10) hr246) hrun246 hended246 ⟨_, _, rfl, ?_, ⟨_, rfl⟩, hW246, hsame246.mono (by decide) (by decide)⟩
    show Qlen Z a1 cs n c0 c1 c2 h0 n0 _ T245.heap _
    rw [e245]
    exact ⟨(by rcases hn4 with rfl | rfl | rfl | rfl <;> decide), N245, rfl⟩
theorem d16_0 : decode jdk_41_method_11_code 0 = .ok (.iload_n 0, 1) := by decide +kernel
theorem d16_1 : decode jdk_41_method_11_code 1 = .ok (.ifCond .lt 8, 3) := by decide +kernel
theorem d16_4 : decode jdk_41_method_11_code 4 = .ok (.iload_n 0, 1) := by decide +kernel
theorem d16_5 : decode jdk_41_method_11_code 5 = .ok (.iload_n 1, 1) := by decide +kernel
theorem d16_6 : decode jdk_41_method_11_code 6 = .ok (.if_icmp .lt 10, 3) := by decide +kernel
theorem d16_9 : decode jdk_41_method_11_code 9 = .ok (.aload_n 2, 1) := by decide +kernel
theorem d16_10 : decode jdk_41_method_11_code 10 = .ok (.iload_n 0, 1) := by decide +kernel
theorem d16_11 : decode jdk_41_method_11_code 11 = .ok (.iload_n 1, 1) := by decide +kernel
theorem d16_12 : decode jdk_41_method_11_code 12 = .ok (.invokestatic 95, 3) := by decide +kernel
theorem d16_15 : decode jdk_41_method_11_code 15 = .ok (.athrow, 1) := by decide +kernel
theorem d16_16 : decode jdk_41_method_11_code 16 = .ok (.iload_n 0, 1) := by decide +kernel
theorem d16_17 : decode jdk_41_method_11_code 17 = .ok (.ireturn, 1) := by decide +kernel
theorem pn_jdk_internal_util_Preconditions : plainName "jdk/internal/util/Preconditions" = true := by first | (simp [plainName, overriddenIn]; done) | decide +kernel
theorem ef_pci (m : MethodId) (x0 : Int32) (x1 : Int32) (x2 : Addr) : entryFrame m #[(.int x0), (.int x1), (.ref x2)] 3 = mkF m 0 #[.val (.int x0), .val (.int x1), .val (.ref x2)] [] := by first | (simp [entryFrame, mkF, argsToLocals, Value.category]; done) | rfl
def Qpci (Z : State) (p1 : Int32) (p2 : Int32) (a3 : Addr) (h0 : Heap) (n0 : Nat) (v : Option Value) (h : Heap) (L : List Loc) : Prop := v = some (.int p1) ∧ Fr n0 L ∧ h = h0
abbrev Gpci (Z : State) (p1 : Int32) (p2 : Int32) (a3 : Addr) (h0 : Heap) (n0 : Nat) (s : State) : Outcome → State → Prop := fun o U' => ∃ v L, o = .returned v ∧ Qpci Z p1 p2 a3 h0 n0 v U'.heap L ∧ FrameEnd s o U' L ({ frames := 0, cells := 0, slots := 0, locals := 0 } : Room).cells ({ frames := 0, cells := 0, slots := 0, locals := 0 } : Room).slots
set_option maxRecDepth 65536 in
set_option maxHeartbeats 40000000 in
theorem rmpci (l : Launch) (Z : State) (a0 : Array Value) (hw : ∀ d ∈ tables_1, d.before a0 Z = true) (ws : List Jvm.Cond) (p1 : Int32) (p2 : Int32) (a3 : Addr) (h0 : Heap) (n0 : Nat) (Z0 : n0 ≤ h0.size) (hi0 : ¬ p1 < (0 : Int32)) (hi1 : p1 < p2) :
    MetFree l (⟨"jdk/internal/util/Preconditions", "checkIndex", "(IILjava/util/function/BiFunction;)I"⟩ : MethodName) (head1 (Jvm.Cond.code (⟨"jdk/internal/util/Preconditions", "checkIndex", "(IILjava/util/function/BiFunction;)I"⟩ : MethodName) jdk_41_method_11_code 3 (some .int) :: ws) ({ frames := 0, cells := 0, slots := 0, locals := 0 } : Room)) (fun a U => a = #[(.int p1), (.int p2), (.ref a3)] ∧ Z.Warmed39 U.vm ∧ U.heap = h0) (fun _ _ _ _ _ => True) (fun _ U o U' => ∃ v L, o = .returned v ∧ Qpci Z p1 p2 a3 h0 n0 v U'.heap L ∧ FrameEnd U o U' L ({ frames := 0, cells := 0, slots := 0, locals := 0 } : Room).cells ({ frames := 0, cells := 0, slots := 0, locals := 0 } : Room).slots) := by
  refine MetFree.of_bodySF (plainFor_of_name pn_jdk_internal_util_Preconditions) hisR ?_
  intro p e s m args below meth c s₁ Bd hml0 hP hK
  obtain ⟨rfl, hZ, hh⟩ := hP
  have hx := Bd.exec
  have hby := Bd.bytes
  have hml : c.maxLocals = 3 := hml0
  have hown : s.vm.findClass "jdk/internal/util/Preconditions" = some m.cls := findClass_of_methodNamed Bd.named
  have hnm := (name_of_methodNamed Bd.named Bd.method).1
  have X0 : Stand p l e ({ frames := 0, cells := 0, slots := 0, locals := 0 } : Room) s m #[(.int p1), (.int p2), (.ref a3)] below meth c s₁ [] 0 0 := Stand.of_body Bd
  have e0 : s₁.heap = h0 := by rw [← hh, Bd.state]; rfl
  have es0 : s.heap = h0 := hh
  have N0 := Fr.nil n0
  show own_Fin p e below (Gpci Z p1 p2 a3 h0 n0 s) (s₁.setTop (entryFrame m #[(.int p1), (.int p2), (.ref a3)] 3))
  rw [ef_pci m p1 p2 a3]
  refine own_go (XS.iloadN X0.here hx rfl (hb hby d16_0) rfl (Steps.refl _)) ?_
  show own_Fin _ _ _ _ (s₁.setTop (mkF m 1 #[iv p1, iv p2, rv a3] [(.int p1)]))
  refine own_go (XS.ifNo X0.here hx rfl (hb hby d16_1) rfl ((if0 _ _).trans (flt (show ¬ (p1 < (0 : Int32)) from hi0)).1) (Steps.refl _)) ?_
  show own_Fin _ _ _ _ (s₁.setTop (mkF m 4 #[iv p1, iv p2, rv a3] []))
  refine own_go (XS.iloadN X0.here hx rfl (hb hby d16_4) rfl (Steps.refl _)) ?_
  show own_Fin _ _ _ _ (s₁.setTop (mkF m 5 #[iv p1, iv p2, rv a3] [(.int p1)]))
  refine own_go (XS.iloadN X0.here hx rfl (hb hby d16_5) rfl (Steps.refl _)) ?_
  show own_Fin _ _ _ _ (s₁.setTop (mkF m 6 #[iv p1, iv p2, rv a3] [(.int p2), (.int p1)]))
  refine own_go (XS.icmpYes X0.here hx rfl (pc0 := 6) (pc' := 16) rfl (hb hby d16_6) rfl (tlt (show p1 < p2 from hi1)).1 (by decide) (by decide) (Steps.refl _)) ?_
  show own_Fin _ _ _ _ (s₁.setTop (mkF m 16 #[iv p1, iv p2, rv a3] []))
  refine own_go (XS.iloadN X0.here hx rfl (hb hby d16_16) rfl (Steps.refl _)) ?_
  show own_Fin _ _ _ _ (s₁.setTop (mkF m 17 #[iv p1, iv p2, rv a3] [(.int p1)]))
  obtain ⟨fs247, hr247, hrun247, hended247, hW247, hsame247⟩ := X0.leave (v := some (.int p1)) (fun h => by rw [Bd.returns] at h; cases h)
  refine own_done (own_retI X0 hx Bd.returns (hb hby d16_17) hr247) hrun247 hended247 ⟨_, _, rfl, ?_, ⟨_, rfl⟩, hW247, hsame247.mono (by decide) (by decide)⟩
  show Qpci Z p1 p2 a3 h0 n0 _ s₁.heap _
  rw [e0]
  exact ⟨rfl, N0, rfl⟩
theorem ef_pcn (m : MethodId) (x0 : Int32) (x1 : Int32) : entryFrame m #[(.int x0), (.int x1), .null] 3 = mkF m 0 #[.val (.int x0), .val (.int x1), .val .null] [] := by first | (simp [entryFrame, mkF, argsToLocals, Value.category]; done) | rfl
def Qpcn (Z : State) (p1 : Int32) (p2 : Int32) (h0 : Heap) (n0 : Nat) (v : Option Value) (h : Heap) (L : List Loc) : Prop := v = some (.int p1) ∧ Fr n0 L ∧ h = h0
abbrev Gpcn (Z : State) (p1 : Int32) (p2 : Int32) (h0 : Heap) (n0 : Nat) (s : State) : Outcome → State → Prop := fun o U' => ∃ v L, o = .returned v ∧ Qpcn Z p1 p2 h0 n0 v U'.heap L ∧ FrameEnd s o U' L ({ frames := 0, cells := 0, slots := 0, locals := 0 } : Room).cells ({ frames := 0, cells := 0, slots := 0, locals := 0 } : Room).slots
set_option maxRecDepth 65536 in
set_option maxHeartbeats 40000000 in
theorem rmpcn (l : Launch) (Z : State) (a0 : Array Value) (hw : ∀ d ∈ tables_1, d.before a0 Z = true) (ws : List Jvm.Cond) (p1 : Int32) (p2 : Int32) (h0 : Heap) (n0 : Nat) (Z0 : n0 ≤ h0.size) (hi0 : ¬ p1 < (0 : Int32)) (hi1 : p1 < p2) :
    MetFree l (⟨"jdk/internal/util/Preconditions", "checkIndex", "(IILjava/util/function/BiFunction;)I"⟩ : MethodName) (head1 (Jvm.Cond.code (⟨"jdk/internal/util/Preconditions", "checkIndex", "(IILjava/util/function/BiFunction;)I"⟩ : MethodName) jdk_41_method_11_code 3 (some .int) :: ws) ({ frames := 0, cells := 0, slots := 0, locals := 0 } : Room)) (fun a U => a = #[(.int p1), (.int p2), .null] ∧ Z.Warmed39 U.vm ∧ U.heap = h0) (fun _ _ _ _ _ => True) (fun _ U o U' => ∃ v L, o = .returned v ∧ Qpcn Z p1 p2 h0 n0 v U'.heap L ∧ FrameEnd U o U' L ({ frames := 0, cells := 0, slots := 0, locals := 0 } : Room).cells ({ frames := 0, cells := 0, slots := 0, locals := 0 } : Room).slots) := by
  refine MetFree.of_bodySF (plainFor_of_name pn_jdk_internal_util_Preconditions) hisR ?_
  intro p e s m args below meth c s₁ Bd hml0 hP hK
  obtain ⟨rfl, hZ, hh⟩ := hP
  have hx := Bd.exec
  have hby := Bd.bytes
  have hml : c.maxLocals = 3 := hml0
  have hown : s.vm.findClass "jdk/internal/util/Preconditions" = some m.cls := findClass_of_methodNamed Bd.named
  have hnm := (name_of_methodNamed Bd.named Bd.method).1
  have X0 : Stand p l e ({ frames := 0, cells := 0, slots := 0, locals := 0 } : Room) s m #[(.int p1), (.int p2), .null] below meth c s₁ [] 0 0 := Stand.of_body Bd
  have e0 : s₁.heap = h0 := by rw [← hh, Bd.state]; rfl
  have es0 : s.heap = h0 := hh
  have N0 := Fr.nil n0
  show own_Fin p e below (Gpcn Z p1 p2 h0 n0 s) (s₁.setTop (entryFrame m #[(.int p1), (.int p2), .null] 3))
  rw [ef_pcn m p1 p2]
  refine own_go (XS.iloadN X0.here hx rfl (hb hby d16_0) rfl (Steps.refl _)) ?_
  show own_Fin _ _ _ _ (s₁.setTop (mkF m 1 #[iv p1, iv p2, .val .null] [(.int p1)]))
  refine own_go (XS.ifNo X0.here hx rfl (hb hby d16_1) rfl ((if0 _ _).trans (flt (show ¬ (p1 < (0 : Int32)) from hi0)).1) (Steps.refl _)) ?_
  show own_Fin _ _ _ _ (s₁.setTop (mkF m 4 #[iv p1, iv p2, .val .null] []))
  refine own_go (XS.iloadN X0.here hx rfl (hb hby d16_4) rfl (Steps.refl _)) ?_
  show own_Fin _ _ _ _ (s₁.setTop (mkF m 5 #[iv p1, iv p2, .val .null] [(.int p1)]))
  refine own_go (XS.iloadN X0.here hx rfl (hb hby d16_5) rfl (Steps.refl _)) ?_
  show own_Fin _ _ _ _ (s₁.setTop (mkF m 6 #[iv p1, iv p2, .val .null] [(.int p2), (.int p1)]))
  refine own_go (XS.icmpYes X0.here hx rfl (pc0 := 6) (pc' := 16) rfl (hb hby d16_6) rfl (tlt (show p1 < p2 from hi1)).1 (by decide) (by decide) (Steps.refl _)) ?_
  show own_Fin _ _ _ _ (s₁.setTop (mkF m 16 #[iv p1, iv p2, .val .null] []))
  refine own_go (XS.iloadN X0.here hx rfl (hb hby d16_16) rfl (Steps.refl _)) ?_
  show own_Fin _ _ _ _ (s₁.setTop (mkF m 17 #[iv p1, iv p2, .val .null] [(.int p1)]))
  obtain ⟨fs248, hr248, hrun248, hended248, hW248, hsame248⟩ := X0.leave (v := some (.int p1)) (fun h => by rw [Bd.returns] at h; cases h)
  refine own_done (own_retI X0 hx Bd.returns (hb hby d16_17) hr248) hrun248 hended248 ⟨_, _, rfl, ?_, ⟨_, rfl⟩, hW248, hsame248.mono (by decide) (by decide)⟩
  show Qpcn Z p1 p2 h0 n0 _ s₁.heap _
  rw [e0]
  exact ⟨rfl, N0, rfl⟩
theorem d15_0 : decode jdk_42_method_155_code 0 = .ok (.iload_n 0, 1) := by decide +kernel
theorem d15_1 : decode jdk_42_method_155_code 1 = .ok (.iload_n 1, 1) := by decide +kernel
theorem d15_2 : decode jdk_42_method_155_code 2 = .ok (.getstatic 1053, 3) := by decide +kernel
theorem d15_5 : decode jdk_42_method_155_code 5 = .ok (.invokestatic 1059, 3) := by decide +kernel
theorem d15_8 : decode jdk_42_method_155_code 8 = .ok (.pop, 1) := by decide +kernel
theorem d15_9 : decode jdk_42_method_155_code 9 = .ok (.return_, 1) := by decide +kernel
theorem ef_sci (m : MethodId) (x0 : Int32) (x1 : Int32) : entryFrame m #[(.int x0), (.int x1)] 2 = mkF m 0 #[.val (.int x0), .val (.int x1)] [] := by first | (simp [entryFrame, mkF, argsToLocals, Value.category]; done) | rfl
def Qsci (Z : State) (p1 : Int32) (p2 : Int32) (sv : Value) (h0 : Heap) (n0 : Nat) (v : Option Value) (h : Heap) (L : List Loc) : Prop := v = none ∧ Fr n0 L ∧ h = h0
abbrev Gsci (Z : State) (p1 : Int32) (p2 : Int32) (sv : Value) (h0 : Heap) (n0 : Nat) (s : State) : Outcome → State → Prop := fun o U' => ∃ v L, o = .returned v ∧ Qsci Z p1 p2 sv h0 n0 v U'.heap L ∧ FrameEnd s o U' L ({ frames := 1, cells := 0, slots := 0, locals := 16 } : Room).cells ({ frames := 1, cells := 0, slots := 0, locals := 16 } : Room).slots
theorem pd__28_IILjava_2f_util_2f_function_2f_BiFunction_3b__29_I : parseMethodDescriptor "(IILjava/util/function/BiFunction;)I" = some ⟨[.int, .int, (.object "java/util/function/BiFunction")], some .int⟩ := by decide +kernel
set_option maxRecDepth 65536 in
set_option maxHeartbeats 40000000 in
theorem rmsci (l : Launch) (Z : State) (a0 : Array Value) (hw : ∀ d ∈ tables_1, d.before a0 Z = true) (ws : List Jvm.Cond) (p1 : Int32) (p2 : Int32) (sv : Value) (h0 : Heap) (n0 : Nat) (Z0 : n0 ≤ h0.size) (hi0 : ¬ p1 < (0 : Int32)) (hi1 : p1 < p2) (O0 : Old Z n0 h0) (S_SIOOBE_FORMATTER : Sta Z Z.heap "jdk/internal/util/Preconditions" "SIOOBE_FORMATTER" "Ljava/util/function/BiFunction;" sv) (hsv : sv = Value.null ∨ ∃ sf : Addr, sv = Value.ref sf) :
    MetFree l (⟨"java/lang/String", "checkIndex", "(II)V"⟩ : MethodName) (head1 (Jvm.Cond.code (⟨"java/lang/String", "checkIndex", "(II)V"⟩ : MethodName) jdk_42_method_155_code 2 none :: ws) ({ frames := 1, cells := 0, slots := 0, locals := 16 } : Room)) (fun a U => a = #[(.int p1), (.int p2)] ∧ Z.Warmed39 U.vm ∧ U.heap = h0) (fun _ _ _ _ _ => True) (fun _ U o U' => ∃ v L, o = .returned v ∧ Qsci Z p1 p2 sv h0 n0 v U'.heap L ∧ FrameEnd U o U' L ({ frames := 1, cells := 0, slots := 0, locals := 16 } : Room).cells ({ frames := 1, cells := 0, slots := 0, locals := 16 } : Room).slots) := by
  refine MetFree.of_bodySF (plainFor_of_name pn_java_lang_String) hisR ?_
  intro p e s m args below meth c s₁ Bd hml0 hP hK
  obtain ⟨rfl, hZ, hh⟩ := hP
  have hx := Bd.exec
  have hby := Bd.bytes
  have hml : c.maxLocals = 2 := hml0
  have hown : s.vm.findClass "java/lang/String" = some m.cls := findClass_of_methodNamed Bd.named
  have hnm := (name_of_methodNamed Bd.named Bd.method).1
  have X0 : Stand p l e ({ frames := 1, cells := 0, slots := 0, locals := 16 } : Room) s m #[(.int p1), (.int p2)] below meth c s₁ [] 0 0 := Stand.of_body Bd
  have e0 : s₁.heap = h0 := by rw [← hh, Bd.state]; rfl
  have es0 : s.heap = h0 := hh
  have N0 := Fr.nil n0
  show own_Fin p e below (Gsci Z p1 p2 sv h0 n0 s) (s₁.setTop (entryFrame m #[(.int p1), (.int p2)] 2))
  rw [ef_sci m p1 p2]
  rcases hsv with rfl | ⟨sf, rfl⟩
  · show own_Fin _ _ _ _ (s₁.setTop (mkF m 0 #[iv p1, iv p2] []))
    refine own_go (XS.iloadN X0.here hx rfl (hb hby d15_0) rfl (Steps.refl _)) ?_
    show own_Fin _ _ _ _ (s₁.setTop (mkF m 1 #[iv p1, iv p2] [(.int p1)]))
    refine own_go (XS.iloadN X0.here hx rfl (hb hby d15_1) rfl (Steps.refl _)) ?_
    show own_Fin _ _ _ _ (s₁.setTop (mkF m 2 #[iv p1, iv p2] [(.int p2), (.int p1)]))
    obtain ⟨T249, X249, e249, st249⟩ := getS2 X0 hx hZ hown (host := "") (Or.inl (hw _ (List.mem_of_getElem? (i := 71) rfl))) Via.refl e0 (S_SIOOBE_FORMATTER.ext O0.2) (g := (mkF m 2 #[iv p1, iv p2] [(.int p2), (.int p1)])) rfl (hb hby d15_2)
    refine own_by st249 ?_
    show own_Fin _ _ _ _ (T249.setTop (mkF m 5 #[iv p1, iv p2] [.null, (.int p2), (.int p1)]))
    obtain ⟨_, _, ⟨T250, L250, k250, n250⟩, -, X250, ⟨Lc250, hQ250, l250, y250, z250⟩, st250⟩ := Jvm.LawKit.callS X249 hx (y := (⟨"jdk/internal/util/Preconditions", "checkIndex", "(IILjava/util/function/BiFunction;)I"⟩ : MethodName)) hown (mvT hZ (hw _ (List.mem_of_getElem? (i := 73) rfl))) (mvT hZ (hw _ (List.mem_of_getElem? (i := 74) rfl))) (mvT hZ (hw _ (List.mem_of_getElem? (i := 72) rfl))) (mvT hZ (hw _ (List.mem_of_getElem? (i := 75) rfl))) (by decide) (backOf (W := 0) (rmpcn l Z a0 hw [] p1 p2 h0 n0 Z0 hi0 hi1) hZ (hw _ (List.mem_of_getElem? (i := 75) rfl)) (hw _ (List.mem_of_getElem? (i := 72) rfl)) (by decide) (by decide)) (g := (mkF m 5 #[iv p1, iv p2] [.null, (.int p2), (.int p1)])) rfl (by rw [hml]; rfl) (argsL := [(.int p1), (.int p2), .null]) (rest := []) (lenOf pd__28_IILjava_2f_util_2f_function_2f_BiFunction_3b__29_I rfl) rfl (by show 2 * 0 + _ ≤ _; exact Nat.le_of_eq rfl) (hb hby d15_5) (fun _ hv => ⟨rfl, e249, (by decide : 0 + 0 ≤ _), (by decide : 0 + 0 ≤ _)⟩)
    dsimp only [Pt.U, Pt.locs, Pt.cells, Pt.slots] at X250 l250 y250 z250 st250 hQ250
    subst l250 y250 z250
    obtain ⟨rfl, Nq250, e250⟩ := hQ250
    refine own_by st250 ?_
    have N250 := Fr.app N0 Nq250
    show own_Fin _ _ _ _ (T250.setTop (mkF m 8 #[iv p1, iv p2] [(.int p1)]))
    refine own_go (XS.pop X250.here hx rfl (hb hby d15_8) rfl rfl (Steps.refl _)) ?_
    show own_Fin _ _ _ _ (T250.setTop (mkF m 9 #[iv p1, iv p2] []))
    obtain ⟨fs251, hr251, hrun251, hended251, hW251, hsame251⟩ := X250.leave (v := none) (fun _ => rfl)
    refine own_done (X250.returnOut hx Bd.returns (hb hby d15_9) hr251) hrun251 hended251 ⟨_, _, rfl, ?_, ⟨_, rfl⟩, hW251, hsame251.mono (by decide) (by decide)⟩
    show Qsci Z p1 p2 Value.null h0 n0 _ T250.heap _
    rw [e250]
    exact ⟨rfl, N250, rfl⟩
  · show own_Fin _ _ _ _ (s₁.setTop (mkF m 0 #[iv p1, iv p2] []))
    refine own_go (XS.iloadN X0.here hx rfl (hb hby d15_0) rfl (Steps.refl _)) ?_
    show own_Fin _ _ _ _ (s₁.setTop (mkF m 1 #[iv p1, iv p2] [(.int p1)]))
    refine own_go (XS.iloadN X0.here hx rfl (hb hby d15_1) rfl (Steps.refl _)) ?_
    show own_Fin _ _ _ _ (s₁.setTop (mkF m 2 #[iv p1, iv p2] [(.int p2), (.int p1)]))
    obtain ⟨T252, X252, e252, st252⟩ := getS2 X0 hx hZ hown (host := "") (Or.inl (hw _ (List.mem_of_getElem? (i := 71) rfl))) Via.refl e0 (S_SIOOBE_FORMATTER.ext O0.2) (g := (mkF m 2 #[iv p1, iv p2] [(.int p2), (.int p1)])) rfl (hb hby d15_2)
    refine own_by st252 ?_
    show own_Fin _ _ _ _ (T252.setTop (mkF m 5 #[iv p1, iv p2] [(.ref sf), (.int p2), (.int p1)]))
    obtain ⟨_, _, ⟨T253, L253, k253, n253⟩, -, X253, ⟨Lc253, hQ253, l253, y253, z253⟩, st253⟩ := Jvm.LawKit.callS X252 hx (y := (⟨"jdk/internal/util/Preconditions", "checkIndex", "(IILjava/util/function/BiFunction;)I"⟩ : MethodName)) hown (mvT hZ (hw _ (List.mem_of_getElem? (i := 73) rfl))) (mvT hZ (hw _ (List.mem_of_getElem? (i := 74) rfl))) (mvT hZ (hw _ (List.mem_of_getElem? (i := 72) rfl))) (mvT hZ (hw _ (List.mem_of_getElem? (i := 75) rfl))) (by decide) (backOf (W := 0) (rmpci l Z a0 hw [] p1 p2 sf h0 n0 Z0 hi0 hi1) hZ (hw _ (List.mem_of_getElem? (i := 75) rfl)) (hw _ (List.mem_of_getElem? (i := 72) rfl)) (by decide) (by decide)) (g := (mkF m 5 #[iv p1, iv p2] [(.ref sf), (.int p2), (.int p1)])) rfl (by rw [hml]; rfl) (argsL := [(.int p1), (.int p2), (.ref sf)]) (rest := []) (lenOf pd__28_IILjava_2f_util_2f_function_2f_BiFunction_3b__29_I rfl) rfl (by show 2 * 0 + _ ≤ _; exact Nat.le_of_eq rfl) (hb hby d15_5) (fun _ hv => ⟨rfl, e252, (by decide : 0 + 0 ≤ _), (by decide : 0 + 0 ≤ _)⟩)
    dsimp only [Pt.U, Pt.locs, Pt.cells, Pt.slots] at X253 l253 y253 z253 st253 hQ253
    subst l253 y253 z253
    obtain ⟨rfl, Nq253, e253⟩ := hQ253
    refine own_by st253 ?_
    have N253 := Fr.app N0 Nq253
    show own_Fin _ _ _ _ (T253.setTop (mkF m 8 #[iv p1, iv p2] [(.int p1)]))
    refine own_go (XS.pop X253.here hx rfl (hb hby d15_8) rfl rfl (Steps.refl _)) ?_
    show own_Fin _ _ _ _ (T253.setTop (mkF m 9 #[iv p1, iv p2] []))
    obtain ⟨fs254, hr254, hrun254, hended254, hW254, hsame254⟩ := X253.leave (v := none) (fun _ => rfl)
    refine own_done (X253.returnOut hx Bd.returns (hb hby d15_9) hr254) hrun254 hended254 ⟨_, _, rfl, ?_, ⟨_, rfl⟩, hW254, hsame254.mono (by decide) (by decide)⟩
    show Qsci Z p1 p2 (Value.ref sf) h0 n0 _ T253.heap _
    rw [e253]
    exact ⟨rfl, N253, rfl⟩
theorem d14_0 : decode jdk_43_method_2_code 0 = .ok (.iload_n 1, 1) := by decide +kernel
theorem d14_1 : decode jdk_43_method_2_code 1 = .ok (.aload_n 0, 1) := by decide +kernel
theorem d14_2 : decode jdk_43_method_2_code 2 = .ok (.arraylength, 1) := by decide +kernel
theorem d14_3 : decode jdk_43_method_2_code 3 = .ok (.invokestatic 9, 3) := by decide +kernel
theorem d14_6 : decode jdk_43_method_2_code 6 = .ok (.aload_n 0, 1) := by decide +kernel
theorem d14_7 : decode jdk_43_method_2_code 7 = .ok (.iload_n 1, 1) := by decide +kernel
theorem d14_8 : decode jdk_43_method_2_code 8 = .ok (.baload, 1) := by decide +kernel
theorem d14_9 : decode jdk_43_method_2_code 9 = .ok (.sipush 255, 3) := by decide +kernel
theorem d14_12 : decode jdk_43_method_2_code 12 = .ok (.iand, 1) := by decide +kernel
theorem d14_13 : decode jdk_43_method_2_code 13 = .ok (.i2c, 1) := by decide +kernel
theorem d14_14 : decode jdk_43_method_2_code 14 = .ok (.ireturn, 1) := by decide +kernel
theorem pn_java_lang_StringLatin1 : plainName "java/lang/StringLatin1" = true := by first | (simp [plainName, overriddenIn]; done) | decide +kernel
theorem ef_lch (m : MethodId) (x0 : Addr) (x1 : Int32) : entryFrame m #[(.ref x0), (.int x1)] 2 = mkF m 0 #[.val (.ref x0), .val (.int x1)] [] := by first | (simp [entryFrame, mkF, argsToLocals, Value.category]; done) | rfl
def Qlch (Z : State) (a1 : Addr) (k : ClassId) (p2 : Int32) (sv : Value) (n : Int32) (c0 : Int32) (c1 : Int32) (c2 : Int32) (h0 : Heap) (n0 : Nat) (v : Option Value) (h : Heap) (L : List Loc) : Prop := v = some (.int (own_get (own_ca n c0 c1 c2) p2)) ∧ Fr n0 L ∧ h = h0
abbrev Glch (Z : State) (a1 : Addr) (k : ClassId) (p2 : Int32) (sv : Value) (n : Int32) (c0 : Int32) (c1 : Int32) (c2 : Int32) (h0 : Heap) (n0 : Nat) (s : State) : Outcome → State → Prop := fun o U' => ∃ v L, o = .returned v ∧ Qlch Z a1 k p2 sv n c0 c1 c2 h0 n0 v U'.heap L ∧ FrameEnd s o U' L ({ frames := 2, cells := 0, slots := 0, locals := 36 } : Room).cells ({ frames := 2, cells := 0, slots := 0, locals := 36 } : Room).slots
theorem pd__28_II_29_V : parseMethodDescriptor "(II)V" = some ⟨[.int, .int], none⟩ := by decide +kernel
set_option maxRecDepth 65536 in
set_option maxHeartbeats 40000000 in
theorem rmlch (l : Launch) (Z : State) (a0 : Array Value) (hw : ∀ d ∈ tables_1, d.before a0 Z = true) (ws : List Jvm.Cond) (a1 : Addr) (k : ClassId) (p2 : Int32) (sv : Value) (n : Int32) (c0 : Int32) (c1 : Int32) (c2 : Int32) (h0 : Heap) (n0 : Nat) (Z0 : n0 ≤ h0.size) (V_a1 : Arv Z h0 a1 k .byte n (List.map Value.int (own_lo (own_ca n c0 c1 c2))) (.int (0 : Int32))) (O0 : Old Z n0 h0) (S_SIOOBE_FORMATTER : Sta Z Z.heap "jdk/internal/util/Preconditions" "SIOOBE_FORMATTER" "Ljava/util/function/BiFunction;" sv) (hsv : sv = Value.null ∨ ∃ sf : Addr, sv = Value.ref sf) (hn4 : n = (0 : Int32) ∨ n = (1 : Int32) ∨ n = (2 : Int32) ∨ n = (3 : Int32)) (hch : ∀ c ∈ (own_ca n c0 c1 c2), own_ch c) (hal : ∀ c ∈ (own_ca n c0 c1 c2), ¬ (255 : Int32) < c) (hi0 : ¬ p2 < (0 : Int32)) (hi1 : p2 < n) :
    MetFree l (⟨"java/lang/StringLatin1", "charAt", "([BI)C"⟩ : MethodName) (head1 (Jvm.Cond.code (⟨"java/lang/StringLatin1", "charAt", "([BI)C"⟩ : MethodName) jdk_43_method_2_code 2 (some .char) :: ws) ({ frames := 2, cells := 0, slots := 0, locals := 36 } : Room)) (fun a U => a = #[(.ref a1), (.int p2)] ∧ Z.Warmed39 U.vm ∧ U.heap = h0) (fun _ _ _ _ _ => True) (fun _ U o U' => ∃ v L, o = .returned v ∧ Qlch Z a1 k p2 sv n c0 c1 c2 h0 n0 v U'.heap L ∧ FrameEnd U o U' L ({ frames := 2, cells := 0, slots := 0, locals := 36 } : Room).cells ({ frames := 2, cells := 0, slots := 0, locals := 36 } : Room).slots) := by
  refine MetFree.of_bodySF (plainFor_of_name pn_java_lang_StringLatin1) hisR ?_
  intro p e s m args below meth c s₁ Bd hml0 hP hK
  obtain ⟨rfl, hZ, hh⟩ := hP
  have hx := Bd.exec
  have hby := Bd.bytes
  have hml : c.maxLocals = 2 := hml0
  have hown : s.vm.findClass "java/lang/StringLatin1" = some m.cls := findClass_of_methodNamed Bd.named
  have hnm := (name_of_methodNamed Bd.named Bd.method).1
  have X0 : Stand p l e ({ frames := 2, cells := 0, slots := 0, locals := 36 } : Room) s m #[(.ref a1), (.int p2)] below meth c s₁ [] 0 0 := Stand.of_body Bd
  have e0 : s₁.heap = h0 := by rw [← hh, Bd.state]; rfl
  have es0 : s.heap = h0 := hh
  have N0 := Fr.nil n0
  show own_Fin p e below (Glch Z a1 k p2 sv n c0 c1 c2 h0 n0 s) (s₁.setTop (entryFrame m #[(.ref a1), (.int p2)] 2))
  rw [ef_lch m a1 p2]
  refine own_go (XS.iloadN X0.here hx rfl (hb hby d14_0) rfl (Steps.refl _)) ?_
  show own_Fin _ _ _ _ (s₁.setTop (mkF m 1 #[rv a1, iv p2] [(.int p2)]))
  refine own_go (XS.aloadN X0.here hx rfl (hb hby d14_1) rfl rfl (Steps.refl _)) ?_
  show own_Fin _ _ _ _ (s₁.setTop (mkF m 2 #[rv a1, iv p2] [(.ref a1), (.int p2)]))
  obtain ⟨cl255, Ar255, qa255, Sa255, Na255, Ha255, Ga255⟩ := id V_a1
  refine own_by (X0.arraylength hx (by rw [e0]; exact Ar255.1) (State.isArrayOf_alike hZ.alike Ar255.2.1) (g := (mkF m 2 #[rv a1, iv p2] [(.ref a1), (.int p2)])) rfl rfl (hb hby d14_2)) ?_
  rw [len_of Sa255 Na255]
  show own_Fin _ _ _ _ (s₁.setTop (mkF m 3 #[rv a1, iv p2] [(.int n), (.int p2)]))
  obtain ⟨_, _, ⟨T256, L256, k256, n256⟩, -, X256, ⟨Lc256, hQ256, l256, y256, z256⟩, st256⟩ := Jvm.LawKit.callS X0 hx (y := (⟨"java/lang/String", "checkIndex", "(II)V"⟩ : MethodName)) hown (mvT hZ (hw _ (List.mem_of_getElem? (i := 68) rfl))) (mvT hZ (hw _ (List.mem_of_getElem? (i := 69) rfl))) (mvT hZ (hw _ (List.mem_of_getElem? (i := 7) rfl))) (mvT hZ (hw _ (List.mem_of_getElem? (i := 70) rfl))) (by decide) (backOf (W := 0) (rmsci l Z a0 hw [] p2 n sv h0 n0 Z0 hi0 hi1 O0 S_SIOOBE_FORMATTER hsv) hZ (hw _ (List.mem_of_getElem? (i := 70) rfl)) (hw _ (List.mem_of_getElem? (i := 7) rfl)) (by decide) (by decide)) (g := (mkF m 3 #[rv a1, iv p2] [(.int n), (.int p2)])) rfl (by rw [hml]; rfl) (argsL := [(.int p2), (.int n)]) (rest := []) (lenOf pd__28_II_29_V rfl) rfl (by show 2 * 0 + _ ≤ _; exact Nat.le_of_eq rfl) (hb hby d14_3) (fun _ hv => ⟨rfl, e0, (by decide : 0 + 0 ≤ _), (by decide : 0 + 0 ≤ _)⟩)
  dsimp only [Pt.U, Pt.locs, Pt.cells, Pt.slots] at X256 l256 y256 z256 st256 hQ256
  subst l256 y256 z256
  obtain ⟨rfl, Nq256, e256⟩ := hQ256
  refine own_by st256 ?_
  have N256 := Fr.app N0 Nq256
  show own_Fin _ _ _ _ (T256.setTop (mkF m 6 #[rv a1, iv p2] []))
  refine own_go (XS.aloadN X256.here hx rfl (hb hby d14_6) rfl rfl (Steps.refl _)) ?_
  show own_Fin _ _ _ _ (T256.setTop (mkF m 7 #[rv a1, iv p2] [(.ref a1)]))
  refine own_go (XS.iloadN X256.here hx rfl (hb hby d14_7) rfl (Steps.refl _)) ?_
  show own_Fin _ _ _ _ (T256.setTop (mkF m 8 #[rv a1, iv p2] [(.int p2), (.ref a1)]))
  obtain ⟨cl257, Ar257, qa257, Sa257, Na257, Ha257, Ga257⟩ := id V_a1
  have hin257 : ¬ (p2 < 0 ∨ cl257.slots.size ≤ (p2).toNatClampNeg) := inb_of Sa257 ⟨hi0, hi1⟩
  have hat257 : cl257.slots[(p2).toNatClampNeg]? = some (.int (own_get (own_lo (own_ca n c0 c1 c2)) p2)) := Has.at Ha257 hin257 (own_getD _ _)
  refine own_by (X256.baloadBytes hx (j := p2) (v := (.int (own_get (own_lo (own_ca n c0 c1 c2)) p2))) (by rw [e256]; exact Ar257.1) (State.isArrayOf_alike hZ.alike Ar257.2.1) Ar257.2.2 hin257 hat257 (g := (mkF m 8 #[rv a1, iv p2] [(.int p2), (.ref a1)])) rfl rfl (hb hby d14_8)) ?_
  show own_Fin _ _ _ _ (T256.setTop (mkF m 9 #[rv a1, iv p2] [(.int (own_get (own_lo (own_ca n c0 c1 c2)) p2))]))
  refine own_go (XS.sipush X256.here hx rfl (hb hby d14_9) (Steps.refl _)) ?_
  show own_Fin _ _ _ _ (T256.setTop (mkF m 12 #[rv a1, iv p2] [(.int (255 : Int32)), (.int (own_get (own_lo (own_ca n c0 c1 c2)) p2))]))
  refine own_go (XS.iand X256.here hx rfl (hb hby d14_12) rfl (Steps.refl _)) ?_
  show own_Fin _ _ _ _ (T256.setTop (mkF m 13 #[rv a1, iv p2] [(.int ((own_get (own_lo (own_ca n c0 c1 c2)) p2) &&& (255 : Int32)))]))
  refine own_go (XS.i2c X256.here hx rfl (hb hby d14_13) rfl (Steps.refl _)) ?_
  show own_Fin _ _ _ _ (T256.setTop (mkF m 14 #[rv a1, iv p2] [(.int (((own_get (own_lo (own_ca n c0 c1 c2)) p2) &&& (255 : Int32)).toUInt32.toUInt16.toUInt32.toInt32))]))
  obtain ⟨fs258, hr258, hrun258, hended258, hW258, hsame258⟩ := X256.leave (v := some (.int (nar .char (((own_get (own_lo (own_ca n c0 c1 c2)) p2) &&& (255 : Int32)).toUInt32.toUInt16.toUInt32.toInt32)))) (fun h => by rw [Bd.returns] at h; cases h)
  refine own_done (retN X256 hx (t := .char) Bd.returns (by simp) (hb hby d14_14) hr258) hrun258 hended258 ⟨_, _, rfl, ?_, ⟨_, rfl⟩, hW258, hsame258.mono (by decide) (by decide)⟩
  show Qlch Z a1 k p2 sv n c0 c1 c2 h0 n0 _ T256.heap _
  rw [e256]
  exact ⟨(by rw [own_latg (by rw [own_cal hn4]; exact own_ixl hi0 hi1) hch hal]), N256, rfl⟩
theorem own_ix1 {i : Int32} (h0 : ¬ i < (0 : Int32)) (h1 : i < (1 : Int32)) : i = (0 : Int32) := by
  rw [Int32.lt_iff_toInt_lt] at h0 h1
  apply Int32.toInt_inj.mp
  have a0 : (0 : Int32).toInt = 0 := rfl
  have a1 : (1 : Int32).toInt = 1 := rfl
  omega
theorem own_ix2 {i : Int32} (h0 : ¬ i < (0 : Int32)) (h1 : i < (2 : Int32)) : i = (0 : Int32) ∨ i = (1 : Int32) := by
  rw [Int32.lt_iff_toInt_lt] at h0 h1
  rw [← Int32.toInt_inj, ← Int32.toInt_inj]
  have a0 : (0 : Int32).toInt = 0 := rfl
  have a1 : (1 : Int32).toInt = 1 := rfl
  have a2 : (2 : Int32).toInt = 2 := rfl
  omega
theorem own_ix3 {i : Int32} (h0 : ¬ i < (0 : Int32)) (h1 : i < (3 : Int32)) : i = (0 : Int32) ∨ i = (1 : Int32) ∨ i = (2 : Int32) := by
  rw [Int32.lt_iff_toInt_lt] at h0 h1
  rw [← Int32.toInt_inj, ← Int32.toInt_inj, ← Int32.toInt_inj]
  have a0 : (0 : Int32).toInt = 0 := rfl
  have a1 : (1 : Int32).toInt = 1 := rfl
  have a2 : (2 : Int32).toInt = 2 := rfl
  have a3 : (3 : Int32).toInt = 3 := rfl
  omega
def own_low (c : Int32) : Int32 := if c < (65 : Int32) then nar .char c else if (90 : Int32) < c then nar .char c else nar .char ((c + (32 : Int32)).toUInt32.toUInt16.toUInt32.toInt32)
def own_same (c d : Int32) : Int32 := if c = d then 1 else if (¬ c < (65 : Int32) ∧ ¬ (90 : Int32) < c ∧ c + (32 : Int32) = d) then 1 else if (¬ d < (65 : Int32) ∧ ¬ (90 : Int32) < d ∧ d + (32 : Int32) = c) then 1 else 0
def own_oth (a m y : Int32) : Int32 := if m = (0 : Int32) then nar .char a else if m = (1 : Int32) then nar .char ((a ^^^ (32 : Int32)).toUInt32.toUInt16.toUInt32.toInt32) else if m = (2 : Int32) then nar .char (y.toUInt32.toUInt16.toUInt32.toInt32) else nar .char ((a + (256 : Int32)).toUInt32.toUInt16.toUInt32.toInt32)
def own_eqv (n q c0 c1 c2 d0 d1 d2 : Int32) : Int32 := if n = q then (if (0 : Int32) < n then (if own_low (own_get (own_ca n c0 c1 c2) (0 : Int32)) = own_low (own_get (own_ca q d0 d1 d2) (0 : Int32)) then (if (1 : Int32) < n then (if own_low (own_get (own_ca n c0 c1 c2) (1 : Int32)) = own_low (own_get (own_ca q d0 d1 d2) (1 : Int32)) then (if (2 : Int32) < n then (if own_low (own_get (own_ca n c0 c1 c2) (2 : Int32)) = own_low (own_get (own_ca q d0 d1 d2) (2 : Int32)) then 1 else 0) else 1) else 0) else 1) else 0) else 1) else 0
def own_exp (n q c0 c1 c2 d0 d1 d2 : Int32) : Int32 := if n = q then (if (n < (1 : Int32) ∨ ¬ own_same c0 d0 = (0 : Int32)) ∧ (n < (2 : Int32) ∨ ¬ own_same c1 d1 = (0 : Int32)) ∧ (n < (3 : Int32) ∨ ¬ own_same c2 d2 = (0 : Int32)) then 1 else 0) else 0
def own_sel (c a b : Int32) : Int32 := if c = (0 : Int32) then b else a
def own_c8 (c : Int32) : Prop := ∃ k : Fin 256, c = Int32.ofNat k.val
theorem own_c8a (x : Int32) : own_c8 ((x &&& (255 : Int32)).toUInt32.toUInt16.toUInt32.toInt32) := by
  obtain ⟨k, hk⟩ := own_and255 x
  rw [hk]
  exact ⟨k, (show ∀ k : Fin 256, (Int32.ofNat k.val).toUInt32.toUInt16.toUInt32.toInt32 = Int32.ofNat k.val by decide +kernel) k⟩
theorem own_c8b (x : Int32) : own_c8 (x &&& (255 : Int32)) := own_and255 x
theorem own_c8h {c : Int32} (h : own_c8 c) : own_ch c := by
  obtain ⟨k, rfl⟩ := h
  exact ⟨⟨k.val, by omega⟩, rfl⟩
theorem own_othc {a m y : Int32} (ha : own_c8 a) (hy : own_c8 y) : own_ch (own_oth a m y) := by
  obtain ⟨k, rfl⟩ := ha
  obtain ⟨j, rfl⟩ := hy
  unfold own_oth
  split
  · have q := (show ∀ k : Fin 256, nar .char (Int32.ofNat k.val) = Int32.ofNat k.val by decide +kernel) k
    exact ⟨⟨k.val, by omega⟩, q⟩
  · split
    · have q := (show ∀ k : Fin 256, nar .char (((Int32.ofNat k.val) ^^^ (32 : Int32)).toUInt32.toUInt16.toUInt32.toInt32) = Int32.ofNat (k.val ^^^ 32) ∧ k.val ^^^ 32 < 512 by decide +kernel) k
      exact ⟨⟨k.val ^^^ 32, q.2⟩, q.1⟩
    · split
      · have q := (show ∀ k : Fin 256, nar .char ((Int32.ofNat k.val).toUInt32.toUInt16.toUInt32.toInt32) = Int32.ofNat k.val by decide +kernel) j
        exact ⟨⟨j.val, by omega⟩, q⟩
      · have q := (show ∀ k : Fin 256, nar .char (((Int32.ofNat k.val) + (256 : Int32)).toUInt32.toUInt16.toUInt32.toInt32) = Int32.ofNat (k.val + 256) by decide +kernel) k
        exact ⟨⟨k.val + 256, by omega⟩, q⟩
theorem own_and3 (x : Int32) : x &&& (3 : Int32) = (0 : Int32) ∨ x &&& (3 : Int32) = (1 : Int32) ∨ x &&& (3 : Int32) = (2 : Int32) ∨ x &&& (3 : Int32) = (3 : Int32) := by
  have h1 : (x &&& (3 : Int32)).toInt = x.toInt % (2 ^ 2 : Nat) := c_mask x 3 2 (by decide) (by decide)
  generalize x &&& (3 : Int32) = y at h1 ⊢
  rw [← Int32.toInt_inj, ← Int32.toInt_inj, ← Int32.toInt_inj, ← Int32.toInt_inj]
  have a0 : (0 : Int32).toInt = 0 := rfl
  have a1 : (1 : Int32).toInt = 1 := rfl
  have a2 : (2 : Int32).toInt = 2 := rfl
  have a3 : (3 : Int32).toInt = 3 := rfl
  omega
abbrev own_r4 (n : Int32) : Prop := n = (0 : Int32) ∨ n = (1 : Int32) ∨ n = (2 : Int32) ∨ n = (3 : Int32)
theorem own_selr {c a b : Int32} (ha : own_r4 a) (hb : own_r4 b) : own_r4 (own_sel c a b) := by
  unfold own_sel; split <;> assumption
theorem own_inj {a b : Nat} (ha : a < 2 ^ 31) (hb : b < 2 ^ 31) : Int32.ofNat a = Int32.ofNat b ↔ a = b := by
  constructor
  · intro h
    have := congrArg Int32.toInt h
    rw [Int32.toInt_ofNat_of_lt ha, Int32.toInt_ofNat_of_lt hb] at this
    omega
  · rintro rfl; rfl
theorem own_ltn {a b : Nat} (ha : a < 2 ^ 31) (hb : b < 2 ^ 31) : Int32.ofNat a < Int32.ofNat b ↔ a < b := by
  rw [Int32.lt_iff_toInt_lt, Int32.toInt_ofNat_of_lt ha, Int32.toInt_ofNat_of_lt hb]; omega
theorem own_sm {c d : Int32} (hc : own_ch c) (hd : own_ch d) : own_low c = own_low d ↔ ¬ own_same c d = (0 : Int32) := by
  obtain ⟨k, rfl⟩ := hc
  obtain ⟨j, rfl⟩ := hd
  have lw : ∀ k : Fin 512, own_low (Int32.ofNat k.val) = Int32.ofNat (if 65 ≤ k.val ∧ k.val ≤ 90 then k.val + 32 else k.val) := by decide +kernel
  have ad : ∀ k : Fin 512, Int32.ofNat k.val + (32 : Int32) = Int32.ofNat (k.val + 32) := by decide +kernel
  have hk := k.isLt; have hj := j.isLt
  have z1 : ¬ (1 : Int32) = (0 : Int32) := by decide
  have p1 : Int32.ofNat k.val = Int32.ofNat j.val ↔ k.val = j.val := own_inj (by omega) (by omega)
  have p2 : (¬ Int32.ofNat k.val < (65 : Int32) ∧ ¬ (90 : Int32) < Int32.ofNat k.val ∧ Int32.ofNat k.val + (32 : Int32) = Int32.ofNat j.val) ↔ (¬ k.val < 65 ∧ ¬ 90 < k.val ∧ k.val + 32 = j.val) := by
    rw [ad k, show (65 : Int32) = Int32.ofNat 65 from rfl, show (90 : Int32) = Int32.ofNat 90 from rfl, own_ltn (by omega) (by omega), own_ltn (by omega) (by omega), own_inj (by omega) (by omega)]
  have p3 : (¬ Int32.ofNat j.val < (65 : Int32) ∧ ¬ (90 : Int32) < Int32.ofNat j.val ∧ Int32.ofNat j.val + (32 : Int32) = Int32.ofNat k.val) ↔ (¬ j.val < 65 ∧ ¬ 90 < j.val ∧ j.val + 32 = k.val) := by
    rw [ad j, show (65 : Int32) = Int32.ofNat 65 from rfl, show (90 : Int32) = Int32.ofNat 90 from rfl, own_ltn (by omega) (by omega), own_ltn (by omega) (by omega), own_inj (by omega) (by omega)]
  rw [lw k, lw j, own_inj (by split <;> omega) (by split <;> omega)]
  unfold own_same
  by_cases h1 : k.val = j.val
  · rw [if_pos (p1.mpr h1)]; exact ⟨fun _ => z1, fun _ => by rw [h1]⟩
  · rw [if_neg (fun q => h1 (p1.mp q))]
    by_cases h2 : ¬ k.val < 65 ∧ ¬ 90 < k.val ∧ k.val + 32 = j.val
    · rw [if_pos (p2.mpr h2)]; refine ⟨fun _ => z1, fun _ => ?_⟩
      split <;> split <;> omega
    · rw [if_neg (fun q => h2 (p2.mp q))]
      by_cases h3 : ¬ j.val < 65 ∧ ¬ 90 < j.val ∧ j.val + 32 = k.val
      · rw [if_pos (p3.mpr h3)]; refine ⟨fun _ => z1, fun _ => ?_⟩
        split <;> split <;> omega
      · rw [if_neg (fun q => h3 (p3.mp q))]; refine ⟨fun h => ?_, fun h => absurd rfl h⟩
        exfalso; revert h; split <;> split <;> omega
theorem own_law {n q c0 c1 c2 d0 d1 d2 : Int32} (hn : own_r4 n) (k0 : own_ch c0) (k1 : own_ch c1) (k2 : own_ch c2) (j0 : own_ch d0) (j1 : own_ch d1) (j2 : own_ch d2) : own_eqv n q c0 c1 c2 d0 d1 d2 = own_exp n q c0 c1 c2 d0 d1 d2 := by
  unfold own_eqv own_exp
  by_cases hq : n = q
  · subst hq
    rw [if_pos rfl, if_pos rfl]
    have s0 := own_sm k0 j0; have s1 := own_sm k1 j1; have s2 := own_sm k2 j2
    rcases hn with rfl | rfl | rfl | rfl
    · rw [if_neg (by decide), if_pos ⟨Or.inl (by decide), Or.inl (by decide), Or.inl (by decide)⟩]
    · rw [if_pos (by decide), if_neg (show ¬ (1 : Int32) < 1 by decide)]
      show (if own_low c0 = own_low d0 then (1 : Int32) else 0) = _
      by_cases h0 : own_low c0 = own_low d0
      · rw [if_pos h0, if_pos ⟨Or.inr (s0.mp h0), Or.inl (by decide), Or.inl (by decide)⟩]
      · rw [if_neg h0, if_neg (fun z => z.1.elim (by decide) (fun y => h0 (s0.mpr y)))]
    · rw [if_pos (show (0 : Int32) < 2 by decide), if_pos (show (1 : Int32) < 2 by decide), if_neg (show ¬ (2 : Int32) < 2 by decide)]
      show (if own_low c0 = own_low d0 then (if own_low c1 = own_low d1 then (1 : Int32) else 0) else 0) = _
      by_cases h0 : own_low c0 = own_low d0
      · rw [if_pos h0]
        by_cases h1 : own_low c1 = own_low d1
        · rw [if_pos h1, if_pos ⟨Or.inr (s0.mp h0), Or.inr (s1.mp h1), Or.inl (by decide)⟩]
        · rw [if_neg h1, if_neg (fun z => z.2.1.elim (by decide) (fun y => h1 (s1.mpr y)))]
      · rw [if_neg h0, if_neg (fun z => z.1.elim (by decide) (fun y => h0 (s0.mpr y)))]
    · rw [if_pos (show (0 : Int32) < 3 by decide), if_pos (show (1 : Int32) < 3 by decide), if_pos (show (2 : Int32) < 3 by decide)]
      show (if own_low c0 = own_low d0 then (if own_low c1 = own_low d1 then (if own_low c2 = own_low d2 then (1 : Int32) else 0) else 0) else 0) = _
      by_cases h0 : own_low c0 = own_low d0
      · rw [if_pos h0]
        by_cases h1 : own_low c1 = own_low d1
        · rw [if_pos h1]
          by_cases h2 : own_low c2 = own_low d2
          · rw [if_pos h2, if_pos ⟨Or.inr (s0.mp h0), Or.inr (s1.mp h1), Or.inr (s2.mp h2)⟩]
          · rw [if_neg h2, if_neg (fun z => z.2.2.elim (by decide) (fun y => h2 (s2.mpr y)))]
        · rw [if_neg h1, if_neg (fun z => z.2.1.elim (by decide) (fun y => h1 (s1.mpr y)))]
      · rw [if_neg h0, if_neg (fun z => z.1.elim (by decide) (fun y => h0 (s0.mpr y)))]
  · rw [if_neg hq, if_neg hq]
theorem own_llt {n a b : Int32} (h : n < a) (hab : a < b) : n < b := by
  rw [Int32.lt_iff_toInt_lt] at *; omega
theorem own_eqw {t : Term} {n : Int32} {args : Array Value} {s : State} (h : (Cond.eq t (.int n)).before args s = true) : t.eval args s none [] s = some (.int n) := by
  simp only [Cond.before, Cond.holds, Cond.value] at h
  have hn : (Term.int n).eval args s none [] s = some (.int n) := rfl
  rw [hn] at h
  cases hv : t.eval args s none [] s with
  | none => simp [hv] at h
  | some v =>
    cases v with
    | int x => simp [hv] at h; rw [h]
    | _ => simp [hv] at h
theorem own_refc {v : Value} (h : v.isRef = true) : v = Value.null ∨ ∃ sf : Addr, v = Value.ref sf := by
  cases v <;> simp_all [Value.isRef]
theorem d25_0 : decode jdk_52_method_6_code 0 = .ok (.aload_n 0, 1) := by decide +kernel
theorem d25_1 : decode jdk_52_method_6_code 1 = .ok (.arraylength, 1) := by decide +kernel
theorem d25_2 : decode jdk_52_method_6_code 2 = .ok (.iconst 1, 1) := by decide +kernel
theorem d25_3 : decode jdk_52_method_6_code 3 = .ok (.ishr, 1) := by decide +kernel
theorem d25_4 : decode jdk_52_method_6_code 4 = .ok (.ireturn, 1) := by decide +kernel
theorem ef_ul (m : MethodId) (x0 : Addr) : entryFrame m #[(.ref x0)] 1 = mkF m 0 #[.val (.ref x0)] [] := by first | (simp [entryFrame, mkF, argsToLocals, Value.category]; done) | rfl
def Qul (Z : State) (a1 : Addr) (k : ClassId) (n : Int32) (c0 : Int32) (c1 : Int32) (c2 : Int32) (h0 : Heap) (n0 : Nat) (v : Option Value) (h : Heap) (L : List Loc) : Prop := v = some (.int n) ∧ Fr n0 L ∧ h = h0
abbrev Gul (Z : State) (a1 : Addr) (k : ClassId) (n : Int32) (c0 : Int32) (c1 : Int32) (c2 : Int32) (h0 : Heap) (n0 : Nat) (s : State) : Outcome → State → Prop := fun o U' => ∃ v L, o = .returned v ∧ Qul Z a1 k n c0 c1 c2 h0 n0 v U'.heap L ∧ FrameEnd s o U' L ({ frames := 0, cells := 0, slots := 0, locals := 0 } : Room).cells ({ frames := 0, cells := 0, slots := 0, locals := 0 } : Room).slots
set_option maxRecDepth 65536 in
set_option maxHeartbeats 40000000 in
theorem rmul (l : Launch) (Z : State) (a0 : Array Value) (hw : ∀ d ∈ tables_1, d.before a0 Z = true) (ws : List Jvm.Cond) (a1 : Addr) (k : ClassId) (n : Int32) (c0 : Int32) (c1 : Int32) (c2 : Int32) (h0 : Heap) (n0 : Nat) (Z0 : n0 ≤ h0.size) (V_a1 : Arv Z h0 a1 k .byte (n + n) (List.map Value.int (own_u16 (own_ca n c0 c1 c2))) (.int (0 : Int32))) (hn4 : n = (0 : Int32) ∨ n = (1 : Int32) ∨ n = (2 : Int32) ∨ n = (3 : Int32)) :
    MetFree l (⟨"java/lang/StringUTF16", "length", "([B)I"⟩ : MethodName) (head1 (Jvm.Cond.code (⟨"java/lang/StringUTF16", "length", "([B)I"⟩ : MethodName) jdk_52_method_6_code 1 (some .int) :: ws) ({ frames := 0, cells := 0, slots := 0, locals := 0 } : Room)) (fun a U => a = #[(.ref a1)] ∧ Z.Warmed39 U.vm ∧ U.heap = h0) (fun _ _ _ _ _ => True) (fun _ U o U' => ∃ v L, o = .returned v ∧ Qul Z a1 k n c0 c1 c2 h0 n0 v U'.heap L ∧ FrameEnd U o U' L ({ frames := 0, cells := 0, slots := 0, locals := 0 } : Room).cells ({ frames := 0, cells := 0, slots := 0, locals := 0 } : Room).slots) := by
  refine MetFree.of_bodySF (plainFor_of_name pn_java_lang_StringUTF16) hisR ?_
  intro p e s m args below meth c s₁ Bd hml0 hP hK
  obtain ⟨rfl, hZ, hh⟩ := hP
  have hx := Bd.exec
  have hby := Bd.bytes
  have hml : c.maxLocals = 1 := hml0
  have hown : s.vm.findClass "java/lang/StringUTF16" = some m.cls := findClass_of_methodNamed Bd.named
  have hnm := (name_of_methodNamed Bd.named Bd.method).1
  have X0 : Stand p l e ({ frames := 0, cells := 0, slots := 0, locals := 0 } : Room) s m #[(.ref a1)] below meth c s₁ [] 0 0 := Stand.of_body Bd
  have e0 : s₁.heap = h0 := by rw [← hh, Bd.state]; rfl
  have es0 : s.heap = h0 := hh
  have N0 := Fr.nil n0
  show own_Fin p e below (Gul Z a1 k n c0 c1 c2 h0 n0 s) (s₁.setTop (entryFrame m #[(.ref a1)] 1))
  rw [ef_ul m a1]
  refine own_go (XS.aloadN X0.here hx rfl (hb hby d25_0) rfl rfl (Steps.refl _)) ?_
  show own_Fin _ _ _ _ (s₁.setTop (mkF m 1 #[rv a1] [(.ref a1)]))
  obtain ⟨cl259, Ar259, qa259, Sa259, Na259, Ha259, Ga259⟩ := id V_a1
  refine own_by (X0.arraylength hx (by rw [e0]; exact Ar259.1) (State.isArrayOf_alike hZ.alike Ar259.2.1) (g := (mkF m 1 #[rv a1] [(.ref a1)])) rfl rfl (hb hby d25_1)) ?_
  rw [len_of Sa259 Na259]
  show own_Fin _ _ _ _ (s₁.setTop (mkF m 2 #[rv a1] [(.int (n + n))]))
  refine own_go (XS.iconst X0.here hx rfl (hb hby d25_2) (Steps.refl _)) ?_
  show own_Fin _ _ _ _ (s₁.setTop (mkF m 3 #[rv a1] [(.int (1 : Int32)), (.int (n + n))]))
  refine own_go (XS.ishr X0.here hx rfl (hb hby d25_3) rfl (Steps.refl _)) ?_
  show own_Fin _ _ _ _ (s₁.setTop (mkF m 4 #[rv a1] [(.int ((n + n) >>> ((1 : Int32) &&& 31)))]))
  obtain ⟨fs260, hr260, hrun260, hended260, hW260, hsame260⟩ := X0.leave (v := some (.int ((n + n) >>> ((1 : Int32) &&& 31)))) (fun h => by rw [Bd.returns] at h; cases h)
  refine own_done (own_retI X0 hx Bd.returns (hb hby d25_4) hr260) hrun260 hended260 ⟨_, _, rfl, ?_, ⟨_, rfl⟩, hW260, hsame260.mono (by decide) (by decide)⟩
  show Qul Z a1 k n c0 c1 c2 h0 n0 _ s₁.heap _
  rw [e0]
  exact ⟨(by rcases hn4 with rfl | rfl | rfl | rfl <;> decide), N0, rfl⟩
theorem d24_0 : decode jdk_52_method_91_code 0 = .ok (.iload_n 0, 1) := by decide +kernel
theorem d24_1 : decode jdk_52_method_91_code 1 = .ok (.aload_n 1, 1) := by decide +kernel
theorem d24_2 : decode jdk_52_method_91_code 2 = .ok (.invokestatic 48, 3) := by decide +kernel
theorem d24_5 : decode jdk_52_method_91_code 5 = .ok (.invokestatic 414, 3) := by decide +kernel
theorem d24_8 : decode jdk_52_method_91_code 8 = .ok (.return_, 1) := by decide +kernel
theorem ef_uci (m : MethodId) (x0 : Int32) (x1 : Addr) : entryFrame m #[(.int x0), (.ref x1)] 2 = mkF m 0 #[.val (.int x0), .val (.ref x1)] [] := by first | (simp [entryFrame, mkF, argsToLocals, Value.category]; done) | rfl
def Quci (Z : State) (p1 : Int32) (a2 : Addr) (k : ClassId) (sv : Value) (n : Int32) (c0 : Int32) (c1 : Int32) (c2 : Int32) (h0 : Heap) (n0 : Nat) (v : Option Value) (h : Heap) (L : List Loc) : Prop := v = none ∧ Fr n0 L ∧ h = h0
abbrev Guci (Z : State) (p1 : Int32) (a2 : Addr) (k : ClassId) (sv : Value) (n : Int32) (c0 : Int32) (c1 : Int32) (c2 : Int32) (h0 : Heap) (n0 : Nat) (s : State) : Outcome → State → Prop := fun o U' => ∃ v L, o = .returned v ∧ Quci Z p1 a2 k sv n c0 c1 c2 h0 n0 v U'.heap L ∧ FrameEnd s o U' L ({ frames := 2, cells := 0, slots := 0, locals := 32 } : Room).cells ({ frames := 2, cells := 0, slots := 0, locals := 32 } : Room).slots
theorem pd__28__5b_B_29_I : parseMethodDescriptor "([B)I" = some ⟨[(.array .byte)], some .int⟩ := by decide +kernel
set_option maxRecDepth 65536 in
set_option maxHeartbeats 40000000 in
theorem rmuci (l : Launch) (Z : State) (a0 : Array Value) (hw : ∀ d ∈ tables_1, d.before a0 Z = true) (ws : List Jvm.Cond) (p1 : Int32) (a2 : Addr) (k : ClassId) (sv : Value) (n : Int32) (c0 : Int32) (c1 : Int32) (c2 : Int32) (h0 : Heap) (n0 : Nat) (Z0 : n0 ≤ h0.size) (V_a2 : Arv Z h0 a2 k .byte (n + n) (List.map Value.int (own_u16 (own_ca n c0 c1 c2))) (.int (0 : Int32))) (O0 : Old Z n0 h0) (S_SIOOBE_FORMATTER : Sta Z Z.heap "jdk/internal/util/Preconditions" "SIOOBE_FORMATTER" "Ljava/util/function/BiFunction;" sv) (hsv : sv = Value.null ∨ ∃ sf : Addr, sv = Value.ref sf) (hn4 : n = (0 : Int32) ∨ n = (1 : Int32) ∨ n = (2 : Int32) ∨ n = (3 : Int32)) (hi0 : ¬ p1 < (0 : Int32)) (hi1 : p1 < n) :
    MetFree l (⟨"java/lang/StringUTF16", "checkIndex", "(I[B)V"⟩ : MethodName) (head1 (Jvm.Cond.code (⟨"java/lang/StringUTF16", "checkIndex", "(I[B)V"⟩ : MethodName) jdk_52_method_91_code 2 none :: ws) ({ frames := 2, cells := 0, slots := 0, locals := 32 } : Room)) (fun a U => a = #[(.int p1), (.ref a2)] ∧ Z.Warmed39 U.vm ∧ U.heap = h0) (fun _ _ _ _ _ => True) (fun _ U o U' => ∃ v L, o = .returned v ∧ Quci Z p1 a2 k sv n c0 c1 c2 h0 n0 v U'.heap L ∧ FrameEnd U o U' L ({ frames := 2, cells := 0, slots := 0, locals := 32 } : Room).cells ({ frames := 2, cells := 0, slots := 0, locals := 32 } : Room).slots) := by
  refine MetFree.of_bodySF (plainFor_of_name pn_java_lang_StringUTF16) hisR ?_
  intro p e s m args below meth c s₁ Bd hml0 hP hK
  obtain ⟨rfl, hZ, hh⟩ := hP
  have hx := Bd.exec
  have hby := Bd.bytes
  have hml : c.maxLocals = 2 := hml0
  have hown : s.vm.findClass "java/lang/StringUTF16" = some m.cls := findClass_of_methodNamed Bd.named
  have hnm := (name_of_methodNamed Bd.named Bd.method).1
  have X0 : Stand p l e ({ frames := 2, cells := 0, slots := 0, locals := 32 } : Room) s m #[(.int p1), (.ref a2)] below meth c s₁ [] 0 0 := Stand.of_body Bd
  have e0 : s₁.heap = h0 := by rw [← hh, Bd.state]; rfl
  have es0 : s.heap = h0 := hh
  have N0 := Fr.nil n0
  show own_Fin p e below (Guci Z p1 a2 k sv n c0 c1 c2 h0 n0 s) (s₁.setTop (entryFrame m #[(.int p1), (.ref a2)] 2))
  rw [ef_uci m p1 a2]
  refine own_go (XS.iloadN X0.here hx rfl (hb hby d24_0) rfl (Steps.refl _)) ?_
  show own_Fin _ _ _ _ (s₁.setTop (mkF m 1 #[iv p1, rv a2] [(.int p1)]))
  refine own_go (XS.aloadN X0.here hx rfl (hb hby d24_1) rfl rfl (Steps.refl _)) ?_
  show own_Fin _ _ _ _ (s₁.setTop (mkF m 2 #[iv p1, rv a2] [(.ref a2), (.int p1)]))
  obtain ⟨_, _, ⟨T261, L261, k261, n261⟩, -, X261, ⟨Lc261, hQ261, l261, y261, z261⟩, st261⟩ := Jvm.LawKit.callS X0 hx (y := (⟨"java/lang/StringUTF16", "length", "([B)I"⟩ : MethodName)) hown (mvT hZ (hw _ (List.mem_of_getElem? (i := 104) rfl))) (mvT hZ (hw _ (List.mem_of_getElem? (i := 105) rfl))) (mvT hZ (hw _ (List.mem_of_getElem? (i := 21) rfl))) (mvT hZ (hw _ (List.mem_of_getElem? (i := 106) rfl))) (by decide) (backOf (W := 1) (rmul l Z a0 hw [] a2 k n c0 c1 c2 h0 n0 Z0 V_a2 hn4) hZ (hw _ (List.mem_of_getElem? (i := 106) rfl)) (hw _ (List.mem_of_getElem? (i := 21) rfl)) (by decide) (by decide)) (g := (mkF m 2 #[iv p1, rv a2] [(.ref a2), (.int p1)])) rfl (by rw [hml]; rfl) (argsL := [(.ref a2)]) (rest := [(.int p1)]) (lenOf pd__28__5b_B_29_I rfl) rfl (by show 2 * 0 + _ ≤ _; exact Nat.le_of_eq rfl) (hb hby d24_2) (fun _ hv => ⟨rfl, e0, (by decide : 0 + 0 ≤ _), (by decide : 0 + 0 ≤ _)⟩)
  dsimp only [Pt.U, Pt.locs, Pt.cells, Pt.slots] at X261 l261 y261 z261 st261 hQ261
  subst l261 y261 z261
  obtain ⟨rfl, Nq261, e261⟩ := hQ261
  refine own_by st261 ?_
  have N261 := Fr.app N0 Nq261
  show own_Fin _ _ _ _ (T261.setTop (mkF m 5 #[iv p1, rv a2] [(.int n), (.int p1)]))
  obtain ⟨_, _, ⟨T262, L262, k262, n262⟩, -, X262, ⟨Lc262, hQ262, l262, y262, z262⟩, st262⟩ := Jvm.LawKit.callS X261 hx (y := (⟨"java/lang/String", "checkIndex", "(II)V"⟩ : MethodName)) hown (mvT hZ (hw _ (List.mem_of_getElem? (i := 107) rfl))) (mvT hZ (hw _ (List.mem_of_getElem? (i := 69) rfl))) (mvT hZ (hw _ (List.mem_of_getElem? (i := 7) rfl))) (mvT hZ (hw _ (List.mem_of_getElem? (i := 70) rfl))) (by decide) (backOf (W := 0) (rmsci l Z a0 hw [] p1 n sv h0 n0 Z0 hi0 hi1 O0 S_SIOOBE_FORMATTER hsv) hZ (hw _ (List.mem_of_getElem? (i := 70) rfl)) (hw _ (List.mem_of_getElem? (i := 7) rfl)) (by decide) (by decide)) (g := (mkF m 5 #[iv p1, rv a2] [(.int n), (.int p1)])) rfl (by rw [hml]; rfl) (argsL := [(.int p1), (.int n)]) (rest := []) (lenOf pd__28_II_29_V rfl) rfl (by show 2 * 0 + _ ≤ _; exact Nat.le_of_eq rfl) (hb hby d24_5) (fun _ hv => ⟨rfl, e261, (by decide : 0 + 0 ≤ _), (by decide : 0 + 0 ≤ _)⟩)
  dsimp only [Pt.U, Pt.locs, Pt.cells, Pt.slots] at X262 l262 y262 z262 st262 hQ262
  subst l262 y262 z262
  obtain ⟨rfl, Nq262, e262⟩ := hQ262
  refine own_by st262 ?_
  have N262 := Fr.app N261 Nq262
  show own_Fin _ _ _ _ (T262.setTop (mkF m 8 #[iv p1, rv a2] []))
  obtain ⟨fs263, hr263, hrun263, hended263, hW263, hsame263⟩ := X262.leave (v := none) (fun _ => rfl)
  refine own_done (X262.returnOut hx Bd.returns (hb hby d24_8) hr263) hrun263 hended263 ⟨_, _, rfl, ?_, ⟨_, rfl⟩, hW263, hsame263.mono (by decide) (by decide)⟩
  show Quci Z p1 a2 k sv n c0 c1 c2 h0 n0 _ T262.heap _
  rw [e262]
  exact ⟨rfl, N262, rfl⟩
theorem d23_0 : decode jdk_52_method_83_code 0 = .ok (.iload_n 1, 1) := by decide +kernel
theorem d23_1 : decode jdk_52_method_83_code 1 = .ok (.aload_n 0, 1) := by decide +kernel
theorem d23_2 : decode jdk_52_method_83_code 2 = .ok (.invokestatic 67, 3) := by decide +kernel
theorem d23_5 : decode jdk_52_method_83_code 5 = .ok (.aload_n 0, 1) := by decide +kernel
theorem d23_6 : decode jdk_52_method_83_code 6 = .ok (.iload_n 1, 1) := by decide +kernel
theorem d23_7 : decode jdk_52_method_83_code 7 = .ok (.invokestatic 71, 3) := by decide +kernel
theorem d23_10 : decode jdk_52_method_83_code 10 = .ok (.ireturn, 1) := by decide +kernel
theorem ef_uch (m : MethodId) (x0 : Addr) (x1 : Int32) : entryFrame m #[(.ref x0), (.int x1)] 2 = mkF m 0 #[.val (.ref x0), .val (.int x1)] [] := by first | (simp [entryFrame, mkF, argsToLocals, Value.category]; done) | rfl
def Quch (Z : State) (a1 : Addr) (k : ClassId) (p2 : Int32) (sv : Value) (n : Int32) (c0 : Int32) (c1 : Int32) (c2 : Int32) (h0 : Heap) (n0 : Nat) (v : Option Value) (h : Heap) (L : List Loc) : Prop := v = some (.int (own_get (own_ca n c0 c1 c2) p2)) ∧ Fr n0 L ∧ h = h0
abbrev Guch (Z : State) (a1 : Addr) (k : ClassId) (p2 : Int32) (sv : Value) (n : Int32) (c0 : Int32) (c1 : Int32) (c2 : Int32) (h0 : Heap) (n0 : Nat) (s : State) : Outcome → State → Prop := fun o U' => ∃ v L, o = .returned v ∧ Quch Z a1 k p2 sv n c0 c1 c2 h0 n0 v U'.heap L ∧ FrameEnd s o U' L ({ frames := 3, cells := 0, slots := 0, locals := 48 } : Room).cells ({ frames := 3, cells := 0, slots := 0, locals := 48 } : Room).slots
theorem pd__28_I_5b_B_29_V : parseMethodDescriptor "(I[B)V" = some ⟨[.int, (.array .byte)], none⟩ := by decide +kernel
set_option maxRecDepth 65536 in
set_option maxHeartbeats 40000000 in
theorem rmuch (l : Launch) (Z : State) (a0 : Array Value) (hw : ∀ d ∈ tables_1, d.before a0 Z = true) (ws : List Jvm.Cond) (a1 : Addr) (k : ClassId) (p2 : Int32) (sv : Value) (n : Int32) (c0 : Int32) (c1 : Int32) (c2 : Int32) (h0 : Heap) (n0 : Nat) (Z0 : n0 ≤ h0.size) (V_a1 : Arv Z h0 a1 k .byte (n + n) (List.map Value.int (own_u16 (own_ca n c0 c1 c2))) (.int (0 : Int32))) (O0 : Old Z n0 h0) (S__assertionsDisabled : Sta Z Z.heap "java/lang/StringUTF16" "$assertionsDisabled" "Z" (.int (1 : Int32))) (S_HI_BYTE_SHIFT : Sta Z Z.heap "java/lang/StringUTF16" "HI_BYTE_SHIFT" "I" (.int (0 : Int32))) (S_LO_BYTE_SHIFT : Sta Z Z.heap "java/lang/StringUTF16" "LO_BYTE_SHIFT" "I" (.int (8 : Int32))) (S_SIOOBE_FORMATTER : Sta Z Z.heap "jdk/internal/util/Preconditions" "SIOOBE_FORMATTER" "Ljava/util/function/BiFunction;" sv) (hsv : sv = Value.null ∨ ∃ sf : Addr, sv = Value.ref sf) (hn4 : n = (0 : Int32) ∨ n = (1 : Int32) ∨ n = (2 : Int32) ∨ n = (3 : Int32)) (hch : ∀ c ∈ (own_ca n c0 c1 c2), own_ch c) (hi0 : ¬ p2 < (0 : Int32)) (hi1 : p2 < n) :
    MetFree l (⟨"java/lang/StringUTF16", "charAt", "([BI)C"⟩ : MethodName) (head1 (Jvm.Cond.code (⟨"java/lang/StringUTF16", "charAt", "([BI)C"⟩ : MethodName) jdk_52_method_83_code 2 (some .char) :: ws) ({ frames := 3, cells := 0, slots := 0, locals := 48 } : Room)) (fun a U => a = #[(.ref a1), (.int p2)] ∧ Z.Warmed39 U.vm ∧ U.heap = h0) (fun _ _ _ _ _ => True) (fun _ U o U' => ∃ v L, o = .returned v ∧ Quch Z a1 k p2 sv n c0 c1 c2 h0 n0 v U'.heap L ∧ FrameEnd U o U' L ({ frames := 3, cells := 0, slots := 0, locals := 48 } : Room).cells ({ frames := 3, cells := 0, slots := 0, locals := 48 } : Room).slots) := by
  refine MetFree.of_bodySF (plainFor_of_name pn_java_lang_StringUTF16) hisR ?_
  intro p e s m args below meth c s₁ Bd hml0 hP hK
  obtain ⟨rfl, hZ, hh⟩ := hP
  have hx := Bd.exec
  have hby := Bd.bytes
  have hml : c.maxLocals = 2 := hml0
  have hown : s.vm.findClass "java/lang/StringUTF16" = some m.cls := findClass_of_methodNamed Bd.named
  have hnm := (name_of_methodNamed Bd.named Bd.method).1
  have X0 : Stand p l e ({ frames := 3, cells := 0, slots := 0, locals := 48 } : Room) s m #[(.ref a1), (.int p2)] below meth c s₁ [] 0 0 := Stand.of_body Bd
  have e0 : s₁.heap = h0 := by rw [← hh, Bd.state]; rfl
  have es0 : s.heap = h0 := hh
  have N0 := Fr.nil n0
  show own_Fin p e below (Guch Z a1 k p2 sv n c0 c1 c2 h0 n0 s) (s₁.setTop (entryFrame m #[(.ref a1), (.int p2)] 2))
  rw [ef_uch m a1 p2]
  refine own_go (XS.iloadN X0.here hx rfl (hb hby d23_0) rfl (Steps.refl _)) ?_
  show own_Fin _ _ _ _ (s₁.setTop (mkF m 1 #[rv a1, iv p2] [(.int p2)]))
  refine own_go (XS.aloadN X0.here hx rfl (hb hby d23_1) rfl rfl (Steps.refl _)) ?_
  show own_Fin _ _ _ _ (s₁.setTop (mkF m 2 #[rv a1, iv p2] [(.ref a1), (.int p2)]))
  obtain ⟨_, _, ⟨T264, L264, k264, n264⟩, -, X264, ⟨Lc264, hQ264, l264, y264, z264⟩, st264⟩ := Jvm.LawKit.callS X0 hx (y := (⟨"java/lang/StringUTF16", "checkIndex", "(I[B)V"⟩ : MethodName)) hown (mvT hZ (hw _ (List.mem_of_getElem? (i := 101) rfl))) (mvT hZ (hw _ (List.mem_of_getElem? (i := 102) rfl))) (mvT hZ (hw _ (List.mem_of_getElem? (i := 21) rfl))) (mvT hZ (hw _ (List.mem_of_getElem? (i := 103) rfl))) (by decide) (backOf (W := 0) (rmuci l Z a0 hw [] p2 a1 k sv n c0 c1 c2 h0 n0 Z0 V_a1 O0 S_SIOOBE_FORMATTER hsv hn4 hi0 hi1) hZ (hw _ (List.mem_of_getElem? (i := 103) rfl)) (hw _ (List.mem_of_getElem? (i := 21) rfl)) (by decide) (by decide)) (g := (mkF m 2 #[rv a1, iv p2] [(.ref a1), (.int p2)])) rfl (by rw [hml]; rfl) (argsL := [(.int p2), (.ref a1)]) (rest := []) (lenOf pd__28_I_5b_B_29_V rfl) rfl (by show 2 * 0 + _ ≤ _; exact Nat.le_of_eq rfl) (hb hby d23_2) (fun _ hv => ⟨rfl, e0, (by decide : 0 + 0 ≤ _), (by decide : 0 + 0 ≤ _)⟩)
  dsimp only [Pt.U, Pt.locs, Pt.cells, Pt.slots] at X264 l264 y264 z264 st264 hQ264
  subst l264 y264 z264
  obtain ⟨rfl, Nq264, e264⟩ := hQ264
  refine own_by st264 ?_
  have N264 := Fr.app N0 Nq264
  show own_Fin _ _ _ _ (T264.setTop (mkF m 5 #[rv a1, iv p2] []))
  refine own_go (XS.aloadN X264.here hx rfl (hb hby d23_5) rfl rfl (Steps.refl _)) ?_
  show own_Fin _ _ _ _ (T264.setTop (mkF m 6 #[rv a1, iv p2] [(.ref a1)]))
  refine own_go (XS.iloadN X264.here hx rfl (hb hby d23_6) rfl (Steps.refl _)) ?_
  show own_Fin _ _ _ _ (T264.setTop (mkF m 7 #[rv a1, iv p2] [(.int p2), (.ref a1)]))
  have hcs265 : n = (1 : Int32) ∨ n = (2 : Int32) ∨ n = (3 : Int32) := (by rcases hn4 with q | q; (subst q; exact absurd hi1 hi0); exact q)
  rcases hcs265 with rfl | rfl | rfl
  · show own_Fin _ _ _ _ (T264.setTop (mkF m 7 #[rv a1, iv p2] [(.int p2), (.ref a1)]))
    have hcs266 : p2 = (0 : Int32) := own_ix1 hi0 hi1
    rcases hcs266 with rfl
    · show own_Fin _ _ _ _ (T264.setTop (mkF m 7 #[rv a1, iv (0 : Int32)] [(.int (0 : Int32)), (.ref a1)]))
      have V_a1L : Arv Z h0 a1 k .byte (2 : Int32) [(.int (own_lb c0)), (.int (own_hb c0))] (.int (0 : Int32)) := V_a1
      have hrx : own_ch c0 := hch _ (List.mem_of_getElem? (i := 0) rfl)
      obtain ⟨_, _, ⟨T267, L267, k267, n267⟩, -, X267, ⟨Lc267, hQ267, l267, y267, z267⟩, st267⟩ := Jvm.LawKit.callS X264 hx (y := (⟨"java/lang/StringUTF16", "getChar", "([BI)C"⟩ : MethodName)) hown (mvT hZ (hw _ (List.mem_of_getElem? (i := 95) rfl))) (mvT hZ (hw _ (List.mem_of_getElem? (i := 96) rfl))) (mvT hZ (hw _ (List.mem_of_getElem? (i := 21) rfl))) (mvT hZ (hw _ (List.mem_of_getElem? (i := 97) rfl))) (by decide) (backOf (W := 0) (rmgc_1_0 l Z a0 hw [] a1 k c0 h0 n0 Z0 V_a1L hrx O0 S__assertionsDisabled S_HI_BYTE_SHIFT S_LO_BYTE_SHIFT) hZ (hw _ (List.mem_of_getElem? (i := 97) rfl)) (hw _ (List.mem_of_getElem? (i := 21) rfl)) (by decide) (by decide)) (g := (mkF m 7 #[rv a1, iv (0 : Int32)] [(.int (0 : Int32)), (.ref a1)])) rfl (by rw [hml]; rfl) (argsL := [(.ref a1), (.int (0 : Int32))]) (rest := []) (lenOf pd__28__5b_BI_29_C rfl) rfl (by show 2 * 0 + _ ≤ _; exact Nat.le_of_eq rfl) (hb hby d23_7) (fun _ hv => ⟨rfl, e264, (by decide : 0 + 0 ≤ _), (by decide : 0 + 0 ≤ _)⟩)
      dsimp only [Pt.U, Pt.locs, Pt.cells, Pt.slots] at X267 l267 y267 z267 st267 hQ267
      subst l267 y267 z267
      obtain ⟨rfl, Nq267, e267⟩ := hQ267
      refine own_by st267 ?_
      have N267 := Fr.app N264 Nq267
      show own_Fin _ _ _ _ (T267.setTop (mkF m 10 #[rv a1, iv (0 : Int32)] [(.int c0)]))
      obtain ⟨fs268, hr268, hrun268, hended268, hW268, hsame268⟩ := X267.leave (v := some (.int (nar .char c0))) (fun h => by rw [Bd.returns] at h; cases h)
      refine own_done (retN X267 hx (t := .char) Bd.returns (by simp) (hb hby d23_10) hr268) hrun268 hended268 ⟨_, _, rfl, ?_, ⟨_, rfl⟩, hW268, hsame268.mono (by decide) (by decide)⟩
      show Quch Z a1 k (0 : Int32) sv (1 : Int32) c0 c1 c2 h0 n0 _ T267.heap _
      rw [e267]
      exact ⟨(by rw [own_chn hrx]; rfl), N267, rfl⟩
  · show own_Fin _ _ _ _ (T264.setTop (mkF m 7 #[rv a1, iv p2] [(.int p2), (.ref a1)]))
    have hcs269 : p2 = (0 : Int32) ∨ p2 = (1 : Int32) := own_ix2 hi0 hi1
    rcases hcs269 with rfl | rfl
    · show own_Fin _ _ _ _ (T264.setTop (mkF m 7 #[rv a1, iv (0 : Int32)] [(.int (0 : Int32)), (.ref a1)]))
      have V_a1L : Arv Z h0 a1 k .byte (4 : Int32) [(.int (own_lb c0)), (.int (own_hb c0)), (.int (own_lb c1)), (.int (own_hb c1))] (.int (0 : Int32)) := V_a1
      have hrx : own_ch c0 := hch _ (List.mem_of_getElem? (i := 0) rfl)
      obtain ⟨_, _, ⟨T270, L270, k270, n270⟩, -, X270, ⟨Lc270, hQ270, l270, y270, z270⟩, st270⟩ := Jvm.LawKit.callS X264 hx (y := (⟨"java/lang/StringUTF16", "getChar", "([BI)C"⟩ : MethodName)) hown (mvT hZ (hw _ (List.mem_of_getElem? (i := 95) rfl))) (mvT hZ (hw _ (List.mem_of_getElem? (i := 96) rfl))) (mvT hZ (hw _ (List.mem_of_getElem? (i := 21) rfl))) (mvT hZ (hw _ (List.mem_of_getElem? (i := 97) rfl))) (by decide) (backOf (W := 0) (rmgc_2_0 l Z a0 hw [] a1 k c0 c1 h0 n0 Z0 V_a1L hrx O0 S__assertionsDisabled S_HI_BYTE_SHIFT S_LO_BYTE_SHIFT) hZ (hw _ (List.mem_of_getElem? (i := 97) rfl)) (hw _ (List.mem_of_getElem? (i := 21) rfl)) (by decide) (by decide)) (g := (mkF m 7 #[rv a1, iv (0 : Int32)] [(.int (0 : Int32)), (.ref a1)])) rfl (by rw [hml]; rfl) (argsL := [(.ref a1), (.int (0 : Int32))]) (rest := []) (lenOf pd__28__5b_BI_29_C rfl) rfl (by show 2 * 0 + _ ≤ _; exact Nat.le_of_eq rfl) (hb hby d23_7) (fun _ hv => ⟨rfl, e264, (by decide : 0 + 0 ≤ _), (by decide : 0 + 0 ≤ _)⟩)
      dsimp only [Pt.U, Pt.locs, Pt.cells, Pt.slots] at X270 l270 y270 z270 st270 hQ270
      subst l270 y270 z270
      obtain ⟨rfl, Nq270, e270⟩ := hQ270
      refine own_by st270 ?_
      have N270 := Fr.app N264 Nq270
      show own_Fin _ _ _ _ (T270.setTop (mkF m 10 #[rv a1, iv (0 : Int32)] [(.int c0)]))
      obtain ⟨fs271, hr271, hrun271, hended271, hW271, hsame271⟩ := X270.leave (v := some (.int (nar .char c0))) (fun h => by rw [Bd.returns] at h; cases h)
      refine own_done (retN X270 hx (t := .char) Bd.returns (by simp) (hb hby d23_10) hr271) hrun271 hended271 ⟨_, _, rfl, ?_, ⟨_, rfl⟩, hW271, hsame271.mono (by decide) (by decide)⟩
      show Quch Z a1 k (0 : Int32) sv (2 : Int32) c0 c1 c2 h0 n0 _ T270.heap _
      rw [e270]
      exact ⟨(by rw [own_chn hrx]; rfl), N270, rfl⟩
    · show own_Fin _ _ _ _ (T264.setTop (mkF m 7 #[rv a1, iv (1 : Int32)] [(.int (1 : Int32)), (.ref a1)]))
      have V_a1L : Arv Z h0 a1 k .byte (4 : Int32) [(.int (own_lb c0)), (.int (own_hb c0)), (.int (own_lb c1)), (.int (own_hb c1))] (.int (0 : Int32)) := V_a1
      have hrx : own_ch c1 := hch _ (List.mem_of_getElem? (i := 1) rfl)
      obtain ⟨_, _, ⟨T272, L272, k272, n272⟩, -, X272, ⟨Lc272, hQ272, l272, y272, z272⟩, st272⟩ := Jvm.LawKit.callS X264 hx (y := (⟨"java/lang/StringUTF16", "getChar", "([BI)C"⟩ : MethodName)) hown (mvT hZ (hw _ (List.mem_of_getElem? (i := 95) rfl))) (mvT hZ (hw _ (List.mem_of_getElem? (i := 96) rfl))) (mvT hZ (hw _ (List.mem_of_getElem? (i := 21) rfl))) (mvT hZ (hw _ (List.mem_of_getElem? (i := 97) rfl))) (by decide) (backOf (W := 0) (rmgc_2_1 l Z a0 hw [] a1 k c0 c1 h0 n0 Z0 V_a1L hrx O0 S__assertionsDisabled S_HI_BYTE_SHIFT S_LO_BYTE_SHIFT) hZ (hw _ (List.mem_of_getElem? (i := 97) rfl)) (hw _ (List.mem_of_getElem? (i := 21) rfl)) (by decide) (by decide)) (g := (mkF m 7 #[rv a1, iv (1 : Int32)] [(.int (1 : Int32)), (.ref a1)])) rfl (by rw [hml]; rfl) (argsL := [(.ref a1), (.int (1 : Int32))]) (rest := []) (lenOf pd__28__5b_BI_29_C rfl) rfl (by show 2 * 0 + _ ≤ _; exact Nat.le_of_eq rfl) (hb hby d23_7) (fun _ hv => ⟨rfl, e264, (by decide : 0 + 0 ≤ _), (by decide : 0 + 0 ≤ _)⟩)
      dsimp only [Pt.U, Pt.locs, Pt.cells, Pt.slots] at X272 l272 y272 z272 st272 hQ272
      subst l272 y272 z272
      obtain ⟨rfl, Nq272, e272⟩ := hQ272
      refine own_by st272 ?_
      have N272 := Fr.app N264 Nq272
      show own_Fin _ _ _ _ (T272.setTop (mkF m 10 #[rv a1, iv (1 : Int32)] [(.int c1)]))
      obtain ⟨fs273, hr273, hrun273, hended273, hW273, hsame273⟩ := X272.leave (v := some (.int (nar .char c1))) (fun h => by rw [Bd.returns] at h; cases h)
      refine own_done (retN X272 hx (t := .char) Bd.returns (by simp) (hb hby d23_10) hr273) hrun273 hended273 ⟨_, _, rfl, ?_, ⟨_, rfl⟩, hW273, hsame273.mono (by decide) (by decide)⟩
      show Quch Z a1 k (1 : Int32) sv (2 : Int32) c0 c1 c2 h0 n0 _ T272.heap _
      rw [e272]
      exact ⟨(by rw [own_chn hrx]; rfl), N272, rfl⟩
  · show own_Fin _ _ _ _ (T264.setTop (mkF m 7 #[rv a1, iv p2] [(.int p2), (.ref a1)]))
    have hcs274 : p2 = (0 : Int32) ∨ p2 = (1 : Int32) ∨ p2 = (2 : Int32) := own_ix3 hi0 hi1
    rcases hcs274 with rfl | rfl | rfl
    · show own_Fin _ _ _ _ (T264.setTop (mkF m 7 #[rv a1, iv (0 : Int32)] [(.int (0 : Int32)), (.ref a1)]))
      have V_a1L : Arv Z h0 a1 k .byte (6 : Int32) [(.int (own_lb c0)), (.int (own_hb c0)), (.int (own_lb c1)), (.int (own_hb c1)), (.int (own_lb c2)), (.int (own_hb c2))] (.int (0 : Int32)) := V_a1
      have hrx : own_ch c0 := hch _ (List.mem_of_getElem? (i := 0) rfl)
      obtain ⟨_, _, ⟨T275, L275, k275, n275⟩, -, X275, ⟨Lc275, hQ275, l275, y275, z275⟩, st275⟩ := Jvm.LawKit.callS X264 hx (y := (⟨"java/lang/StringUTF16", "getChar", "([BI)C"⟩ : MethodName)) hown (mvT hZ (hw _ (List.mem_of_getElem? (i := 95) rfl))) (mvT hZ (hw _ (List.mem_of_getElem? (i := 96) rfl))) (mvT hZ (hw _ (List.mem_of_getElem? (i := 21) rfl))) (mvT hZ (hw _ (List.mem_of_getElem? (i := 97) rfl))) (by decide) (backOf (W := 0) (rmgc_3_0 l Z a0 hw [] a1 k c0 c1 c2 h0 n0 Z0 V_a1L hrx O0 S__assertionsDisabled S_HI_BYTE_SHIFT S_LO_BYTE_SHIFT) hZ (hw _ (List.mem_of_getElem? (i := 97) rfl)) (hw _ (List.mem_of_getElem? (i := 21) rfl)) (by decide) (by decide)) (g := (mkF m 7 #[rv a1, iv (0 : Int32)] [(.int (0 : Int32)), (.ref a1)])) rfl (by rw [hml]; rfl) (argsL := [(.ref a1), (.int (0 : Int32))]) (rest := []) (lenOf pd__28__5b_BI_29_C rfl) rfl (by show 2 * 0 + _ ≤ _; exact Nat.le_of_eq rfl) (hb hby d23_7) (fun _ hv => ⟨rfl, e264, (by decide : 0 + 0 ≤ _), (by decide : 0 + 0 ≤ _)⟩)
      dsimp only [Pt.U, Pt.locs, Pt.cells, Pt.slots] at X275 l275 y275 z275 st275 hQ275
      subst l275 y275 z275
      obtain ⟨rfl, Nq275, e275⟩ := hQ275
      refine own_by st275 ?_
      have N275 := Fr.app N264 Nq275
      show own_Fin _ _ _ _ (T275.setTop (mkF m 10 #[rv a1, iv (0 : Int32)] [(.int c0)]))
      obtain ⟨fs276, hr276, hrun276, hended276, hW276, hsame276⟩ := X275.leave (v := some (.int (nar .char c0))) (fun h => by rw [Bd.returns] at h; cases h)
      refine own_done (retN X275 hx (t := .char) Bd.returns (by simp) (hb hby d23_10) hr276) hrun276 hended276 ⟨_, _, rfl, ?_, ⟨_, rfl⟩, hW276, hsame276.mono (by decide) (by decide)⟩
      show Quch Z a1 k (0 : Int32) sv (3 : Int32) c0 c1 c2 h0 n0 _ T275.heap _
      rw [e275]
      exact ⟨(by rw [own_chn hrx]; rfl), N275, rfl⟩
    · show own_Fin _ _ _ _ (T264.setTop (mkF m 7 #[rv a1, iv (1 : Int32)] [(.int (1 : Int32)), (.ref a1)]))
      have V_a1L : Arv Z h0 a1 k .byte (6 : Int32) [(.int (own_lb c0)), (.int (own_hb c0)), (.int (own_lb c1)), (.int (own_hb c1)), (.int (own_lb c2)), (.int (own_hb c2))] (.int (0 : Int32)) := V_a1
      have hrx : own_ch c1 := hch _ (List.mem_of_getElem? (i := 1) rfl)
      obtain ⟨_, _, ⟨T277, L277, k277, n277⟩, -, X277, ⟨Lc277, hQ277, l277, y277, z277⟩, st277⟩ := Jvm.LawKit.callS X264 hx (y := (⟨"java/lang/StringUTF16", "getChar", "([BI)C"⟩ : MethodName)) hown (mvT hZ (hw _ (List.mem_of_getElem? (i := 95) rfl))) (mvT hZ (hw _ (List.mem_of_getElem? (i := 96) rfl))) (mvT hZ (hw _ (List.mem_of_getElem? (i := 21) rfl))) (mvT hZ (hw _ (List.mem_of_getElem? (i := 97) rfl))) (by decide) (backOf (W := 0) (rmgc_3_1 l Z a0 hw [] a1 k c0 c1 c2 h0 n0 Z0 V_a1L hrx O0 S__assertionsDisabled S_HI_BYTE_SHIFT S_LO_BYTE_SHIFT) hZ (hw _ (List.mem_of_getElem? (i := 97) rfl)) (hw _ (List.mem_of_getElem? (i := 21) rfl)) (by decide) (by decide)) (g := (mkF m 7 #[rv a1, iv (1 : Int32)] [(.int (1 : Int32)), (.ref a1)])) rfl (by rw [hml]; rfl) (argsL := [(.ref a1), (.int (1 : Int32))]) (rest := []) (lenOf pd__28__5b_BI_29_C rfl) rfl (by show 2 * 0 + _ ≤ _; exact Nat.le_of_eq rfl) (hb hby d23_7) (fun _ hv => ⟨rfl, e264, (by decide : 0 + 0 ≤ _), (by decide : 0 + 0 ≤ _)⟩)
      dsimp only [Pt.U, Pt.locs, Pt.cells, Pt.slots] at X277 l277 y277 z277 st277 hQ277
      subst l277 y277 z277
      obtain ⟨rfl, Nq277, e277⟩ := hQ277
      refine own_by st277 ?_
      have N277 := Fr.app N264 Nq277
      show own_Fin _ _ _ _ (T277.setTop (mkF m 10 #[rv a1, iv (1 : Int32)] [(.int c1)]))
      obtain ⟨fs278, hr278, hrun278, hended278, hW278, hsame278⟩ := X277.leave (v := some (.int (nar .char c1))) (fun h => by rw [Bd.returns] at h; cases h)
      refine own_done (retN X277 hx (t := .char) Bd.returns (by simp) (hb hby d23_10) hr278) hrun278 hended278 ⟨_, _, rfl, ?_, ⟨_, rfl⟩, hW278, hsame278.mono (by decide) (by decide)⟩
      show Quch Z a1 k (1 : Int32) sv (3 : Int32) c0 c1 c2 h0 n0 _ T277.heap _
      rw [e277]
      exact ⟨(by rw [own_chn hrx]; rfl), N277, rfl⟩
    · show own_Fin _ _ _ _ (T264.setTop (mkF m 7 #[rv a1, iv (2 : Int32)] [(.int (2 : Int32)), (.ref a1)]))
      have V_a1L : Arv Z h0 a1 k .byte (6 : Int32) [(.int (own_lb c0)), (.int (own_hb c0)), (.int (own_lb c1)), (.int (own_hb c1)), (.int (own_lb c2)), (.int (own_hb c2))] (.int (0 : Int32)) := V_a1
      have hrx : own_ch c2 := hch _ (List.mem_of_getElem? (i := 2) rfl)
      obtain ⟨_, _, ⟨T279, L279, k279, n279⟩, -, X279, ⟨Lc279, hQ279, l279, y279, z279⟩, st279⟩ := Jvm.LawKit.callS X264 hx (y := (⟨"java/lang/StringUTF16", "getChar", "([BI)C"⟩ : MethodName)) hown (mvT hZ (hw _ (List.mem_of_getElem? (i := 95) rfl))) (mvT hZ (hw _ (List.mem_of_getElem? (i := 96) rfl))) (mvT hZ (hw _ (List.mem_of_getElem? (i := 21) rfl))) (mvT hZ (hw _ (List.mem_of_getElem? (i := 97) rfl))) (by decide) (backOf (W := 0) (rmgc_3_2 l Z a0 hw [] a1 k c0 c1 c2 h0 n0 Z0 V_a1L hrx O0 S__assertionsDisabled S_HI_BYTE_SHIFT S_LO_BYTE_SHIFT) hZ (hw _ (List.mem_of_getElem? (i := 97) rfl)) (hw _ (List.mem_of_getElem? (i := 21) rfl)) (by decide) (by decide)) (g := (mkF m 7 #[rv a1, iv (2 : Int32)] [(.int (2 : Int32)), (.ref a1)])) rfl (by rw [hml]; rfl) (argsL := [(.ref a1), (.int (2 : Int32))]) (rest := []) (lenOf pd__28__5b_BI_29_C rfl) rfl (by show 2 * 0 + _ ≤ _; exact Nat.le_of_eq rfl) (hb hby d23_7) (fun _ hv => ⟨rfl, e264, (by decide : 0 + 0 ≤ _), (by decide : 0 + 0 ≤ _)⟩)
      dsimp only [Pt.U, Pt.locs, Pt.cells, Pt.slots] at X279 l279 y279 z279 st279 hQ279
      subst l279 y279 z279
      obtain ⟨rfl, Nq279, e279⟩ := hQ279
      refine own_by st279 ?_
      have N279 := Fr.app N264 Nq279
      show own_Fin _ _ _ _ (T279.setTop (mkF m 10 #[rv a1, iv (2 : Int32)] [(.int c2)]))
      obtain ⟨fs280, hr280, hrun280, hended280, hW280, hsame280⟩ := X279.leave (v := some (.int (nar .char c2))) (fun h => by rw [Bd.returns] at h; cases h)
      refine own_done (retN X279 hx (t := .char) Bd.returns (by simp) (hb hby d23_10) hr280) hrun280 hended280 ⟨_, _, rfl, ?_, ⟨_, rfl⟩, hW280, hsame280.mono (by decide) (by decide)⟩
      show Quch Z a1 k (2 : Int32) sv (3 : Int32) c0 c1 c2 h0 n0 _ T279.heap _
      rw [e279]
      exact ⟨(by rw [own_chn hrx]; rfl), N279, rfl⟩
theorem d12_0 : decode jdk_42_method_56_code 0 = .ok (.aload_n 0, 1) := by decide +kernel
theorem d12_1 : decode jdk_42_method_56_code 1 = .ok (.invokevirtual 492, 3) := by decide +kernel
theorem d12_4 : decode jdk_42_method_56_code 4 = .ok (.ifCond .eq 12, 3) := by decide +kernel
theorem d12_7 : decode jdk_42_method_56_code 7 = .ok (.aload_n 0, 1) := by decide +kernel
theorem d12_8 : decode jdk_42_method_56_code 8 = .ok (.getfield 9, 3) := by decide +kernel
theorem d12_11 : decode jdk_42_method_56_code 11 = .ok (.iload_n 1, 1) := by decide +kernel
theorem d12_12 : decode jdk_42_method_56_code 12 = .ok (.invokestatic 495, 3) := by decide +kernel
theorem d12_15 : decode jdk_42_method_56_code 15 = .ok (.ireturn, 1) := by decide +kernel
theorem d12_16 : decode jdk_42_method_56_code 16 = .ok (.aload_n 0, 1) := by decide +kernel
theorem d12_17 : decode jdk_42_method_56_code 17 = .ok (.getfield 9, 3) := by decide +kernel
theorem d12_20 : decode jdk_42_method_56_code 20 = .ok (.iload_n 1, 1) := by decide +kernel
theorem d12_21 : decode jdk_42_method_56_code 21 = .ok (.invokestatic 498, 3) := by decide +kernel
theorem d12_24 : decode jdk_42_method_56_code 24 = .ok (.ireturn, 1) := by decide +kernel
theorem ef_cat (m : MethodId) (x0 : Addr) (x1 : Int32) : entryFrame m #[(.ref x0), (.int x1)] 2 = mkF m 0 #[.val (.ref x0), .val (.int x1)] [] := by first | (simp [entryFrame, mkF, argsToLocals, Value.category]; done) | rfl
def Qcat (Z : State) (a1 : Addr) (p2 : Int32) (cs : Int32) (sv : Value) (n : Int32) (c0 : Int32) (c1 : Int32) (c2 : Int32) (h0 : Heap) (n0 : Nat) (v : Option Value) (h : Heap) (L : List Loc) : Prop := v = some (.int (own_get (own_ca n c0 c1 c2) p2)) ∧ Fr n0 L ∧ h = h0
abbrev Gcat (Z : State) (a1 : Addr) (p2 : Int32) (cs : Int32) (sv : Value) (n : Int32) (c0 : Int32) (c1 : Int32) (c2 : Int32) (h0 : Heap) (n0 : Nat) (s : State) : Outcome → State → Prop := fun o U' => ∃ v L, o = .returned v ∧ Qcat Z a1 p2 cs sv n c0 c1 c2 h0 n0 v U'.heap L ∧ FrameEnd s o U' L ({ frames := 4, cells := 0, slots := 0, locals := 64 } : Room).cells ({ frames := 4, cells := 0, slots := 0, locals := 64 } : Room).slots
theorem pd__28__29_Z : parseMethodDescriptor "()Z" = some ⟨[], some .boolean⟩ := by decide +kernel
set_option maxRecDepth 65536 in
set_option maxHeartbeats 40000000 in
theorem rmcat (l : Launch) (Z : State) (a0 : Array Value) (hw : ∀ d ∈ tables_1, d.before a0 Z = true) (ws : List Jvm.Cond) (a1 : Addr) (p2 : Int32) (cs : Int32) (sv : Value) (n : Int32) (c0 : Int32) (c1 : Int32) (c2 : Int32) (h0 : Heap) (n0 : Nat) (Z0 : n0 ≤ h0.size) (hS : own_Str Z h0 a1 n c0 c1 c2) (O0 : Old Z n0 h0) (S__assertionsDisabled : Sta Z Z.heap "java/lang/StringUTF16" "$assertionsDisabled" "Z" (.int (1 : Int32))) (S_HI_BYTE_SHIFT : Sta Z Z.heap "java/lang/StringUTF16" "HI_BYTE_SHIFT" "I" (.int (0 : Int32))) (S_LO_BYTE_SHIFT : Sta Z Z.heap "java/lang/StringUTF16" "LO_BYTE_SHIFT" "I" (.int (8 : Int32))) (S_COMPACT_STRINGS : Sta Z Z.heap "java/lang/String" "COMPACT_STRINGS" "Z" (.int cs)) (hcs : ¬ cs = (0 : Int32)) (S_SIOOBE_FORMATTER : Sta Z Z.heap "jdk/internal/util/Preconditions" "SIOOBE_FORMATTER" "Ljava/util/function/BiFunction;" sv) (hsv : sv = Value.null ∨ ∃ sf : Addr, sv = Value.ref sf) (hn4 : n = (0 : Int32) ∨ n = (1 : Int32) ∨ n = (2 : Int32) ∨ n = (3 : Int32)) (hch : ∀ c ∈ (own_ca n c0 c1 c2), own_ch c) (hi0 : ¬ p2 < (0 : Int32)) (hi1 : p2 < n) :
    MetFree l (⟨"java/lang/String", "charAt", "(I)C"⟩ : MethodName) (head1 (Jvm.Cond.code (⟨"java/lang/String", "charAt", "(I)C"⟩ : MethodName) jdk_42_method_56_code 2 (some .char) :: ws) ({ frames := 4, cells := 0, slots := 0, locals := 64 } : Room)) (fun a U => a = #[(.ref a1), (.int p2)] ∧ Z.Warmed39 U.vm ∧ U.heap = h0) (fun _ _ _ _ _ => True) (fun _ U o U' => ∃ v L, o = .returned v ∧ Qcat Z a1 p2 cs sv n c0 c1 c2 h0 n0 v U'.heap L ∧ FrameEnd U o U' L ({ frames := 4, cells := 0, slots := 0, locals := 64 } : Room).cells ({ frames := 4, cells := 0, slots := 0, locals := 64 } : Room).slots) := by
  refine MetFree.of_bodySF (plainFor_of_name pn_java_lang_String) hisR ?_
  intro p e s m args below meth c s₁ Bd hml0 hP hK
  obtain ⟨rfl, hZ, hh⟩ := hP
  have hx := Bd.exec
  have hby := Bd.bytes
  have hml : c.maxLocals = 2 := hml0
  have hown : s.vm.findClass "java/lang/String" = some m.cls := findClass_of_methodNamed Bd.named
  have hnm := (name_of_methodNamed Bd.named Bd.method).1
  have X0 : Stand p l e ({ frames := 4, cells := 0, slots := 0, locals := 64 } : Room) s m #[(.ref a1), (.int p2)] below meth c s₁ [] 0 0 := Stand.of_body Bd
  have e0 : s₁.heap = h0 := by rw [← hh, Bd.state]; rfl
  have es0 : s.heap = h0 := hh
  have N0 := Fr.nil n0
  show own_Fin p e below (Gcat Z a1 p2 cs sv n c0 c1 c2 h0 n0 s) (s₁.setTop (entryFrame m #[(.ref a1), (.int p2)] 2))
  rw [ef_cat m a1 p2]
  obtain ⟨E_a1, v_, co_, Fv_, Fc_, kq, ⟨rfl, hal, VqL⟩ | ⟨rfl, VqU⟩⟩ := hS
  · show own_Fin _ _ _ _ (s₁.setTop (mkF m 0 #[rv a1, iv p2] []))
    refine own_go (XS.aloadN X0.here hx rfl (hb hby d12_0) rfl rfl (Steps.refl _)) ?_
    show own_Fin _ _ _ _ (s₁.setTop (mkF m 1 #[rv a1, iv p2] [(.ref a1)]))
    obtain ⟨cq281, kq281, q281a, q281b, q281c⟩ := isOf hZ e0 E_a1
    obtain ⟨_, _, ⟨T281, L281, k281, n281⟩, -, X281, ⟨Lc281, hQ281, l281, y281, z281⟩, st281⟩ := X0.virtualBack hx (y := (⟨"java/lang/String", "isLatin1", "()Z"⟩ : MethodName)) (z := (⟨"java/lang/String", "isLatin1", "()Z"⟩ : MethodName)) hown (mvT hZ (hw _ (List.mem_of_getElem? (i := 59) rfl))) (mvT hZ (hw _ (List.mem_of_getElem? (i := 60) rfl))) (notFace_of_selects (args := #[]) (mvT hZ (hw _ (List.mem_of_getElem? (i := 62) rfl)))) (mvT hZ (hw _ (List.mem_of_getElem? (i := 62) rfl))) (mvT hZ (hw _ (List.mem_of_getElem? (i := 61) rfl))) (by decide) (backOf (W := 0) (rmil_0 l Z a0 hw [] a1 cs h0 n0 Z0 Fc_ O0 S_COMPACT_STRINGS hcs) hZ (hw _ (List.mem_of_getElem? (i := 63) rfl)) (hw _ (List.mem_of_getElem? (i := 7) rfl)) (by decide) (by decide)) q281a q281c (g := (mkF m 1 #[rv a1, iv p2] [(.ref a1)])) rfl (by rw [hml]; rfl) (Steps.refl _) (argsL := []) (rest := []) (lenOf pd__28__29_Z rfl) rfl (by show 2 * 0 + _ ≤ _; exact Nat.le_of_eq rfl) (hb hby d12_1) (fun _ hv => ⟨rfl, e0, (by decide : 0 + 0 ≤ _), (by decide : 0 + 0 ≤ _)⟩)
    dsimp only [Pt.U, Pt.locs, Pt.cells, Pt.slots] at X281 l281 y281 z281 st281 hQ281
    subst l281 y281 z281
    obtain ⟨rfl, Nq281, e281⟩ := hQ281
    refine own_go st281 ?_
    have N281 := Fr.app N0 Nq281
    show own_Fin _ _ _ _ (T281.setTop (mkF m 4 #[rv a1, iv p2] [(.int (1 : Int32))]))
    refine own_go (XS.ifNo X281.here hx rfl (hb hby d12_4) rfl ((if0 _ _).trans (feq (by decide : ¬ ((1 : Int32) = (0 : Int32)))).1) (Steps.refl _)) ?_
    show own_Fin _ _ _ _ (T281.setTop (mkF m 7 #[rv a1, iv p2] []))
    refine own_go (XS.aloadN X281.here hx rfl (hb hby d12_7) rfl rfl (Steps.refl _)) ?_
    show own_Fin _ _ _ _ (T281.setTop (mkF m 8 #[rv a1, iv p2] [(.ref a1)]))
    obtain ⟨T282, X282, e282, st282⟩ := getF X281 hx hZ hown (host := "") (Or.inl (hw _ (List.mem_of_getElem? (i := 32) rfl))) Via.refl e281 Fv_ (g := (mkF m 8 #[rv a1, iv p2] [(.ref a1)])) rfl rfl (hb hby d12_8)
    refine own_by st282 ?_
    show own_Fin _ _ _ _ (T282.setTop (mkF m 11 #[rv a1, iv p2] [(.ref v_)]))
    refine own_go (XS.iloadN X282.here hx rfl (hb hby d12_11) rfl (Steps.refl _)) ?_
    show own_Fin _ _ _ _ (T282.setTop (mkF m 12 #[rv a1, iv p2] [(.int p2), (.ref v_)]))
    obtain ⟨_, _, ⟨T283, L283, k283, n283⟩, -, X283, ⟨Lc283, hQ283, l283, y283, z283⟩, st283⟩ := Jvm.LawKit.callS X282 hx (y := (⟨"java/lang/StringLatin1", "charAt", "([BI)C"⟩ : MethodName)) hown (mvT hZ (hw _ (List.mem_of_getElem? (i := 64) rfl))) (mvT hZ (hw _ (List.mem_of_getElem? (i := 65) rfl))) (mvT hZ (hw _ (List.mem_of_getElem? (i := 66) rfl))) (mvT hZ (hw _ (List.mem_of_getElem? (i := 67) rfl))) (by decide) (backOf (W := 0) (rmlch l Z a0 hw [] v_ kq p2 sv n c0 c1 c2 h0 n0 Z0 VqL O0 S_SIOOBE_FORMATTER hsv hn4 hch hal hi0 hi1) hZ (hw _ (List.mem_of_getElem? (i := 67) rfl)) (hw _ (List.mem_of_getElem? (i := 66) rfl)) (by decide) (by decide)) (g := (mkF m 12 #[rv a1, iv p2] [(.int p2), (.ref v_)])) rfl (by rw [hml]; rfl) (argsL := [(.ref v_), (.int p2)]) (rest := []) (lenOf pd__28__5b_BI_29_C rfl) rfl (by show 2 * 0 + _ ≤ _; exact Nat.le_of_eq rfl) (hb hby d12_12) (fun _ hv => ⟨rfl, e282, (by decide : 0 + 0 ≤ _), (by decide : 0 + 0 ≤ _)⟩)
    dsimp only [Pt.U, Pt.locs, Pt.cells, Pt.slots] at X283 l283 y283 z283 st283 hQ283
    subst l283 y283 z283
    obtain ⟨rfl, Nq283, e283⟩ := hQ283
    refine own_by st283 ?_
    have N283 := Fr.app N281 Nq283
    show own_Fin _ _ _ _ (T283.setTop (mkF m 15 #[rv a1, iv p2] [(.int (own_get (own_ca n c0 c1 c2) p2))]))
    obtain ⟨fs284, hr284, hrun284, hended284, hW284, hsame284⟩ := X283.leave (v := some (.int (nar .char (own_get (own_ca n c0 c1 c2) p2)))) (fun h => by rw [Bd.returns] at h; cases h)
    refine own_done (retN X283 hx (t := .char) Bd.returns (by simp) (hb hby d12_15) hr284) hrun284 hended284 ⟨_, _, rfl, ?_, ⟨_, rfl⟩, hW284, hsame284.mono (by decide) (by decide)⟩
    show Qcat Z a1 p2 cs sv n c0 c1 c2 h0 n0 _ T283.heap _
    rw [e283]
    exact ⟨(by rw [own_chn (hch _ (own_getm (by rw [own_cal hn4]; exact own_ixl hi0 hi1)))]), N283, rfl⟩
  · show own_Fin _ _ _ _ (s₁.setTop (mkF m 0 #[rv a1, iv p2] []))
    refine own_go (XS.aloadN X0.here hx rfl (hb hby d12_0) rfl rfl (Steps.refl _)) ?_
    show own_Fin _ _ _ _ (s₁.setTop (mkF m 1 #[rv a1, iv p2] [(.ref a1)]))
    obtain ⟨cq285, kq285, q285a, q285b, q285c⟩ := isOf hZ e0 E_a1
    obtain ⟨_, _, ⟨T285, L285, k285, n285⟩, -, X285, ⟨Lc285, hQ285, l285, y285, z285⟩, st285⟩ := X0.virtualBack hx (y := (⟨"java/lang/String", "isLatin1", "()Z"⟩ : MethodName)) (z := (⟨"java/lang/String", "isLatin1", "()Z"⟩ : MethodName)) hown (mvT hZ (hw _ (List.mem_of_getElem? (i := 59) rfl))) (mvT hZ (hw _ (List.mem_of_getElem? (i := 60) rfl))) (notFace_of_selects (args := #[]) (mvT hZ (hw _ (List.mem_of_getElem? (i := 62) rfl)))) (mvT hZ (hw _ (List.mem_of_getElem? (i := 62) rfl))) (mvT hZ (hw _ (List.mem_of_getElem? (i := 61) rfl))) (by decide) (backOf (W := 0) (rmil_1 l Z a0 hw [] a1 cs h0 n0 Z0 Fc_ O0 S_COMPACT_STRINGS hcs) hZ (hw _ (List.mem_of_getElem? (i := 63) rfl)) (hw _ (List.mem_of_getElem? (i := 7) rfl)) (by decide) (by decide)) q285a q285c (g := (mkF m 1 #[rv a1, iv p2] [(.ref a1)])) rfl (by rw [hml]; rfl) (Steps.refl _) (argsL := []) (rest := []) (lenOf pd__28__29_Z rfl) rfl (by show 2 * 0 + _ ≤ _; exact Nat.le_of_eq rfl) (hb hby d12_1) (fun _ hv => ⟨rfl, e0, (by decide : 0 + 0 ≤ _), (by decide : 0 + 0 ≤ _)⟩)
    dsimp only [Pt.U, Pt.locs, Pt.cells, Pt.slots] at X285 l285 y285 z285 st285 hQ285
    subst l285 y285 z285
    obtain ⟨rfl, Nq285, e285⟩ := hQ285
    refine own_go st285 ?_
    have N285 := Fr.app N0 Nq285
    show own_Fin _ _ _ _ (T285.setTop (mkF m 4 #[rv a1, iv p2] [(.int (0 : Int32))]))
    refine own_go (XS.ifYes X285.here hx rfl (pc0 := 4) (pc' := 16) rfl (hb hby d12_4) rfl ((if0 _ _).trans (teq (by decide : (0 : Int32) = (0 : Int32))).1) (by decide) (by decide) (Steps.refl _)) ?_
    show own_Fin _ _ _ _ (T285.setTop (mkF m 16 #[rv a1, iv p2] []))
    refine own_go (XS.aloadN X285.here hx rfl (hb hby d12_16) rfl rfl (Steps.refl _)) ?_
    show own_Fin _ _ _ _ (T285.setTop (mkF m 17 #[rv a1, iv p2] [(.ref a1)]))
    obtain ⟨T286, X286, e286, st286⟩ := getF X285 hx hZ hown (host := "") (Or.inl (hw _ (List.mem_of_getElem? (i := 32) rfl))) Via.refl e285 Fv_ (g := (mkF m 17 #[rv a1, iv p2] [(.ref a1)])) rfl rfl (hb hby d12_17)
    refine own_by st286 ?_
    show own_Fin _ _ _ _ (T286.setTop (mkF m 20 #[rv a1, iv p2] [(.ref v_)]))
    refine own_go (XS.iloadN X286.here hx rfl (hb hby d12_20) rfl (Steps.refl _)) ?_
    show own_Fin _ _ _ _ (T286.setTop (mkF m 21 #[rv a1, iv p2] [(.int p2), (.ref v_)]))
    obtain ⟨_, _, ⟨T287, L287, k287, n287⟩, -, X287, ⟨Lc287, hQ287, l287, y287, z287⟩, st287⟩ := Jvm.LawKit.callS X286 hx (y := (⟨"java/lang/StringUTF16", "charAt", "([BI)C"⟩ : MethodName)) hown (mvT hZ (hw _ (List.mem_of_getElem? (i := 98) rfl))) (mvT hZ (hw _ (List.mem_of_getElem? (i := 99) rfl))) (mvT hZ (hw _ (List.mem_of_getElem? (i := 21) rfl))) (mvT hZ (hw _ (List.mem_of_getElem? (i := 100) rfl))) (by decide) (backOf (W := 0) (rmuch l Z a0 hw [] v_ kq p2 sv n c0 c1 c2 h0 n0 Z0 VqU O0 S__assertionsDisabled S_HI_BYTE_SHIFT S_LO_BYTE_SHIFT S_SIOOBE_FORMATTER hsv hn4 hch hi0 hi1) hZ (hw _ (List.mem_of_getElem? (i := 100) rfl)) (hw _ (List.mem_of_getElem? (i := 21) rfl)) (by decide) (by decide)) (g := (mkF m 21 #[rv a1, iv p2] [(.int p2), (.ref v_)])) rfl (by rw [hml]; rfl) (argsL := [(.ref v_), (.int p2)]) (rest := []) (lenOf pd__28__5b_BI_29_C rfl) rfl (by show 2 * 0 + _ ≤ _; exact Nat.le_of_eq rfl) (hb hby d12_21) (fun _ hv => ⟨rfl, e286, (by decide : 0 + 0 ≤ _), (by decide : 0 + 0 ≤ _)⟩)
    dsimp only [Pt.U, Pt.locs, Pt.cells, Pt.slots] at X287 l287 y287 z287 st287 hQ287
    subst l287 y287 z287
    obtain ⟨rfl, Nq287, e287⟩ := hQ287
    refine own_by st287 ?_
    have N287 := Fr.app N285 Nq287
    show own_Fin _ _ _ _ (T287.setTop (mkF m 24 #[rv a1, iv p2] [(.int (own_get (own_ca n c0 c1 c2) p2))]))
    obtain ⟨fs288, hr288, hrun288, hended288, hW288, hsame288⟩ := X287.leave (v := some (.int (nar .char (own_get (own_ca n c0 c1 c2) p2)))) (fun h => by rw [Bd.returns] at h; cases h)
    refine own_done (retN X287 hx (t := .char) Bd.returns (by simp) (hb hby d12_24) hr288) hrun288 hended288 ⟨_, _, rfl, ?_, ⟨_, rfl⟩, hW288, hsame288.mono (by decide) (by decide)⟩
    show Qcat Z a1 p2 cs sv n c0 c1 c2 h0 n0 _ T287.heap _
    rw [e287]
    exact ⟨(by rw [own_chn (hch _ (own_getm (by rw [own_cal hn4]; exact own_ixl hi0 hi1)))]), N287, rfl⟩
theorem d17_0 : decode prog_23_method_6_code 0 = .ok (.iload_n 0, 1) := by decide +kernel
theorem d17_1 : decode prog_23_method_6_code 1 = .ok (.bipush 65, 2) := by decide +kernel
theorem d17_3 : decode prog_23_method_6_code 3 = .ok (.if_icmp .lt 17, 3) := by decide +kernel
theorem d17_6 : decode prog_23_method_6_code 6 = .ok (.iload_n 0, 1) := by decide +kernel
theorem d17_7 : decode prog_23_method_6_code 7 = .ok (.bipush 90, 2) := by decide +kernel
theorem d17_9 : decode prog_23_method_6_code 9 = .ok (.if_icmp .gt 11, 3) := by decide +kernel
theorem d17_12 : decode prog_23_method_6_code 12 = .ok (.iload_n 0, 1) := by decide +kernel
theorem d17_13 : decode prog_23_method_6_code 13 = .ok (.bipush 32, 2) := by decide +kernel
theorem d17_15 : decode prog_23_method_6_code 15 = .ok (.iadd, 1) := by decide +kernel
theorem d17_16 : decode prog_23_method_6_code 16 = .ok (.i2c, 1) := by decide +kernel
theorem d17_17 : decode prog_23_method_6_code 17 = .ok (.goto 4, 3) := by decide +kernel
theorem d17_20 : decode prog_23_method_6_code 20 = .ok (.iload_n 0, 1) := by decide +kernel
theorem d17_21 : decode prog_23_method_6_code 21 = .ok (.ireturn, 1) := by decide +kernel
theorem pn_com_example_headwright_headwright_Header : plainName "com/example/headwright/headwright/Header" = true := by first | (simp [plainName, overriddenIn]; done) | decide +kernel
theorem ef_low (m : MethodId) (x0 : Int32) : entryFrame m #[(.int x0)] 1 = mkF m 0 #[.val (.int x0)] [] := by first | (simp [entryFrame, mkF, argsToLocals, Value.category]; done) | rfl
def Qlow (Z : State) (p1 : Int32) (h0 : Heap) (n0 : Nat) (v : Option Value) (h : Heap) (L : List Loc) : Prop := v = some (.int (own_low p1)) ∧ Fr n0 L ∧ h = h0
abbrev Glow (Z : State) (p1 : Int32) (h0 : Heap) (n0 : Nat) (s : State) : Outcome → State → Prop := fun o U' => ∃ v L, o = .returned v ∧ Qlow Z p1 h0 n0 v U'.heap L ∧ FrameEnd s o U' L ({ frames := 0, cells := 0, slots := 0, locals := 0 } : Room).cells ({ frames := 0, cells := 0, slots := 0, locals := 0 } : Room).slots
set_option maxRecDepth 65536 in
set_option maxHeartbeats 40000000 in
theorem rmlow (l : Launch) (Z : State) (a0 : Array Value) (hw : ∀ d ∈ tables_1, d.before a0 Z = true) (ws : List Jvm.Cond) (p1 : Int32) (h0 : Heap) (n0 : Nat) (Z0 : n0 ≤ h0.size)  :
    MetFree l (⟨"com/example/headwright/headwright/Header", "asciiLower", "(C)C"⟩ : MethodName) (head1 (Jvm.Cond.code (⟨"com/example/headwright/headwright/Header", "asciiLower", "(C)C"⟩ : MethodName) prog_23_method_6_code 1 (some .char) :: ws) ({ frames := 0, cells := 0, slots := 0, locals := 0 } : Room)) (fun a U => a = #[(.int p1)] ∧ Z.Warmed39 U.vm ∧ U.heap = h0) (fun _ _ _ _ _ => True) (fun _ U o U' => ∃ v L, o = .returned v ∧ Qlow Z p1 h0 n0 v U'.heap L ∧ FrameEnd U o U' L ({ frames := 0, cells := 0, slots := 0, locals := 0 } : Room).cells ({ frames := 0, cells := 0, slots := 0, locals := 0 } : Room).slots) := by
  refine MetFree.of_bodySF (plainFor_of_name pn_com_example_headwright_headwright_Header) hisR ?_
  intro p e s m args below meth c s₁ Bd hml0 hP hK
  obtain ⟨rfl, hZ, hh⟩ := hP
  have hx := Bd.exec
  have hby := Bd.bytes
  have hml : c.maxLocals = 1 := hml0
  have hown : s.vm.findClass "com/example/headwright/headwright/Header" = some m.cls := findClass_of_methodNamed Bd.named
  have hnm := (name_of_methodNamed Bd.named Bd.method).1
  have X0 : Stand p l e ({ frames := 0, cells := 0, slots := 0, locals := 0 } : Room) s m #[(.int p1)] below meth c s₁ [] 0 0 := Stand.of_body Bd
  have e0 : s₁.heap = h0 := by rw [← hh, Bd.state]; rfl
  have es0 : s.heap = h0 := hh
  have N0 := Fr.nil n0
  show own_Fin p e below (Glow Z p1 h0 n0 s) (s₁.setTop (entryFrame m #[(.int p1)] 1))
  rw [ef_low m p1]
  refine own_go (XS.iloadN X0.here hx rfl (hb hby d17_0) rfl (Steps.refl _)) ?_
  show own_Fin _ _ _ _ (s₁.setTop (mkF m 1 #[iv p1] [(.int p1)]))
  refine own_go (XS.bipush X0.here hx rfl (hb hby d17_1) (Steps.refl _)) ?_
  show own_Fin _ _ _ _ (s₁.setTop (mkF m 3 #[iv p1] [(.int (65 : Int32)), (.int p1)]))
  by_cases h3 : p1 < (65 : Int32)
  · refine own_go (XS.icmpYes X0.here hx rfl (pc0 := 3) (pc' := 20) rfl (hb hby d17_3) rfl (tlt h3).1 (by decide) (by decide) (Steps.refl _)) ?_
    show own_Fin _ _ _ _ (s₁.setTop (mkF m 20 #[iv p1] []))
    refine own_go (XS.iloadN X0.here hx rfl (hb hby d17_20) rfl (Steps.refl _)) ?_
    show own_Fin _ _ _ _ (s₁.setTop (mkF m 21 #[iv p1] [(.int p1)]))
    obtain ⟨fs289, hr289, hrun289, hended289, hW289, hsame289⟩ := X0.leave (v := some (.int (nar .char p1))) (fun h => by rw [Bd.returns] at h; cases h)
    refine own_done (retN X0 hx (t := .char) Bd.returns (by simp) (hb hby d17_21) hr289) hrun289 hended289 ⟨_, _, rfl, ?_, ⟨_, rfl⟩, hW289, hsame289.mono (by decide) (by decide)⟩
    show Qlow Z p1 h0 n0 _ s₁.heap _
    rw [e0]
    exact ⟨(by rw [own_low, if_pos h3]), N0, rfl⟩
  · refine own_go (XS.icmpNo X0.here hx rfl (hb hby d17_3) rfl (flt h3).1 (Steps.refl _)) ?_
    show own_Fin _ _ _ _ (s₁.setTop (mkF m 6 #[iv p1] []))
    refine own_go (XS.iloadN X0.here hx rfl (hb hby d17_6) rfl (Steps.refl _)) ?_
    show own_Fin _ _ _ _ (s₁.setTop (mkF m 7 #[iv p1] [(.int p1)]))
    refine own_go (XS.bipush X0.here hx rfl (hb hby d17_7) (Steps.refl _)) ?_
    show own_Fin _ _ _ _ (s₁.setTop (mkF m 9 #[iv p1] [(.int (90 : Int32)), (.int p1)]))
    by_cases h9 : (90 : Int32) < p1
    · refine own_go (XS.icmpYes X0.here hx rfl (pc0 := 9) (pc' := 20) rfl (hb hby d17_9) rfl (tlt h9).2.2.1 (by decide) (by decide) (Steps.refl _)) ?_
      show own_Fin _ _ _ _ (s₁.setTop (mkF m 20 #[iv p1] []))
      refine own_go (XS.iloadN X0.here hx rfl (hb hby d17_20) rfl (Steps.refl _)) ?_
      show own_Fin _ _ _ _ (s₁.setTop (mkF m 21 #[iv p1] [(.int p1)]))
      obtain ⟨fs290, hr290, hrun290, hended290, hW290, hsame290⟩ := X0.leave (v := some (.int (nar .char p1))) (fun h => by rw [Bd.returns] at h; cases h)
      refine own_done (retN X0 hx (t := .char) Bd.returns (by simp) (hb hby d17_21) hr290) hrun290 hended290 ⟨_, _, rfl, ?_, ⟨_, rfl⟩, hW290, hsame290.mono (by decide) (by decide)⟩
      show Qlow Z p1 h0 n0 _ s₁.heap _
      rw [e0]
      exact ⟨(by rw [own_low, if_neg h3, if_pos h9]), N0, rfl⟩
    · refine own_go (XS.icmpNo X0.here hx rfl (hb hby d17_9) rfl (flt h9).2.2.1 (Steps.refl _)) ?_
      show own_Fin _ _ _ _ (s₁.setTop (mkF m 12 #[iv p1] []))
      refine own_go (XS.iloadN X0.here hx rfl (hb hby d17_12) rfl (Steps.refl _)) ?_
      show own_Fin _ _ _ _ (s₁.setTop (mkF m 13 #[iv p1] [(.int p1)]))
      refine own_go (XS.bipush X0.here hx rfl (hb hby d17_13) (Steps.refl _)) ?_
      show own_Fin _ _ _ _ (s₁.setTop (mkF m 15 #[iv p1] [(.int (32 : Int32)), (.int p1)]))
      refine own_go (XS.iadd X0.here hx rfl (hb hby d17_15) rfl (Steps.refl _)) ?_
      show own_Fin _ _ _ _ (s₁.setTop (mkF m 16 #[iv p1] [(.int (p1 + (32 : Int32)))]))
      refine own_go (XS.i2c X0.here hx rfl (hb hby d17_16) rfl (Steps.refl _)) ?_
      show own_Fin _ _ _ _ (s₁.setTop (mkF m 17 #[iv p1] [(.int ((p1 + (32 : Int32)).toUInt32.toUInt16.toUInt32.toInt32))]))
      refine own_go (XS.goto X0.here hx rfl (pc0 := 17) (pc' := 21) rfl (hb hby d17_17) (by decide) (by decide) (Steps.refl _)) ?_
      show own_Fin _ _ _ _ (s₁.setTop (mkF m 21 #[iv p1] [(.int ((p1 + (32 : Int32)).toUInt32.toUInt16.toUInt32.toInt32))]))
      obtain ⟨fs291, hr291, hrun291, hended291, hW291, hsame291⟩ := X0.leave (v := some (.int (nar .char ((p1 + (32 : Int32)).toUInt32.toUInt16.toUInt32.toInt32)))) (fun h => by rw [Bd.returns] at h; cases h)
      refine own_done (retN X0 hx (t := .char) Bd.returns (by simp) (hb hby d17_21) hr291) hrun291 hended291 ⟨_, _, rfl, ?_, ⟨_, rfl⟩, hW291, hsame291.mono (by decide) (by decide)⟩
      show Qlow Z p1 h0 n0 _ s₁.heap _
      rw [e0]
      exact ⟨(by rw [own_low, if_neg h3, if_neg h9]), N0, rfl⟩
theorem d11_0 : decode method_2_code 0 = .ok (.iload_n 0, 1) := by decide +kernel
theorem d11_1 : decode method_2_code 1 = .ok (.iload_n 1, 1) := by decide +kernel
theorem d11_2 : decode method_2_code 2 = .ok (.if_icmp .ne 5, 3) := by decide +kernel
theorem d11_5 : decode method_2_code 5 = .ok (.iconst 1, 1) := by decide +kernel
theorem d11_6 : decode method_2_code 6 = .ok (.ireturn, 1) := by decide +kernel
theorem d11_7 : decode method_2_code 7 = .ok (.iload_n 0, 1) := by decide +kernel
theorem d11_8 : decode method_2_code 8 = .ok (.bipush 65, 2) := by decide +kernel
theorem d11_10 : decode method_2_code 10 = .ok (.if_icmp .lt 19, 3) := by decide +kernel
theorem d11_13 : decode method_2_code 13 = .ok (.iload_n 0, 1) := by decide +kernel
theorem d11_14 : decode method_2_code 14 = .ok (.bipush 90, 2) := by decide +kernel
theorem d11_16 : decode method_2_code 16 = .ok (.if_icmp .gt 13, 3) := by decide +kernel
theorem d11_19 : decode method_2_code 19 = .ok (.iload_n 0, 1) := by decide +kernel
theorem d11_20 : decode method_2_code 20 = .ok (.bipush 32, 2) := by decide +kernel
theorem d11_22 : decode method_2_code 22 = .ok (.iadd, 1) := by decide +kernel
theorem d11_23 : decode method_2_code 23 = .ok (.iload_n 1, 1) := by decide +kernel
theorem d11_24 : decode method_2_code 24 = .ok (.if_icmp .ne 5, 3) := by decide +kernel
theorem d11_27 : decode method_2_code 27 = .ok (.iconst 1, 1) := by decide +kernel
theorem d11_28 : decode method_2_code 28 = .ok (.ireturn, 1) := by decide +kernel
theorem d11_29 : decode method_2_code 29 = .ok (.iload_n 1, 1) := by decide +kernel
theorem d11_30 : decode method_2_code 30 = .ok (.bipush 65, 2) := by decide +kernel
theorem d11_32 : decode method_2_code 32 = .ok (.if_icmp .lt 19, 3) := by decide +kernel
theorem d11_35 : decode method_2_code 35 = .ok (.iload_n 1, 1) := by decide +kernel
theorem d11_36 : decode method_2_code 36 = .ok (.bipush 90, 2) := by decide +kernel
theorem d11_38 : decode method_2_code 38 = .ok (.if_icmp .gt 13, 3) := by decide +kernel
theorem d11_41 : decode method_2_code 41 = .ok (.iload_n 1, 1) := by decide +kernel
theorem d11_42 : decode method_2_code 42 = .ok (.bipush 32, 2) := by decide +kernel
theorem d11_44 : decode method_2_code 44 = .ok (.iadd, 1) := by decide +kernel
theorem d11_45 : decode method_2_code 45 = .ok (.iload_n 0, 1) := by decide +kernel
theorem d11_46 : decode method_2_code 46 = .ok (.if_icmp .ne 5, 3) := by decide +kernel
theorem d11_49 : decode method_2_code 49 = .ok (.iconst 1, 1) := by decide +kernel
theorem d11_50 : decode method_2_code 50 = .ok (.ireturn, 1) := by decide +kernel
theorem d11_51 : decode method_2_code 51 = .ok (.iconst 0, 1) := by decide +kernel
theorem d11_52 : decode method_2_code 52 = .ok (.ireturn, 1) := by decide +kernel
theorem pn_com_example_headwright_headwright_HeaderEqualsIgnoringAsciiCasePinLaw : plainName "com/example/headwright/headwright/HeaderEqualsIgnoringAsciiCasePinLaw" = true := by first | (simp [plainName, overriddenIn]; done) | decide +kernel
theorem ef_sm (m : MethodId) (x0 : Int32) (x1 : Int32) : entryFrame m #[(.int x0), (.int x1)] 2 = mkF m 0 #[.val (.int x0), .val (.int x1)] [] := by first | (simp [entryFrame, mkF, argsToLocals, Value.category]; done) | rfl
def Qsm (Z : State) (p1 : Int32) (p2 : Int32) (h0 : Heap) (n0 : Nat) (v : Option Value) (h : Heap) (L : List Loc) : Prop := v = some (.int (own_same p1 p2)) ∧ Fr n0 L ∧ h = h0
abbrev Gsm (Z : State) (p1 : Int32) (p2 : Int32) (h0 : Heap) (n0 : Nat) (s : State) : Outcome → State → Prop := fun o U' => ∃ v L, o = .returned v ∧ Qsm Z p1 p2 h0 n0 v U'.heap L ∧ FrameEnd s o U' L ({ frames := 0, cells := 0, slots := 0, locals := 0 } : Room).cells ({ frames := 0, cells := 0, slots := 0, locals := 0 } : Room).slots
set_option maxRecDepth 65536 in
set_option maxHeartbeats 40000000 in
theorem rmsm (l : Launch) (Z : State) (a0 : Array Value) (hw : ∀ d ∈ tables_1, d.before a0 Z = true) (ws : List Jvm.Cond) (p1 : Int32) (p2 : Int32) (h0 : Heap) (n0 : Nat) (Z0 : n0 ≤ h0.size)  :
    MetFree l (⟨"com/example/headwright/headwright/HeaderEqualsIgnoringAsciiCasePinLaw", "same", "(CC)Z"⟩ : MethodName) (head1 (Jvm.Cond.code (⟨"com/example/headwright/headwright/HeaderEqualsIgnoringAsciiCasePinLaw", "same", "(CC)Z"⟩ : MethodName) method_2_code 2 (some .boolean) :: ws) ({ frames := 0, cells := 0, slots := 0, locals := 0 } : Room)) (fun a U => a = #[(.int p1), (.int p2)] ∧ Z.Warmed39 U.vm ∧ U.heap = h0) (fun _ _ _ _ _ => True) (fun _ U o U' => ∃ v L, o = .returned v ∧ Qsm Z p1 p2 h0 n0 v U'.heap L ∧ FrameEnd U o U' L ({ frames := 0, cells := 0, slots := 0, locals := 0 } : Room).cells ({ frames := 0, cells := 0, slots := 0, locals := 0 } : Room).slots) := by
  refine MetFree.of_bodySF (plainFor_of_name pn_com_example_headwright_headwright_HeaderEqualsIgnoringAsciiCasePinLaw) hisR ?_
  intro p e s m args below meth c s₁ Bd hml0 hP hK
  obtain ⟨rfl, hZ, hh⟩ := hP
  have hx := Bd.exec
  have hby := Bd.bytes
  have hml : c.maxLocals = 2 := hml0
  have hown : s.vm.findClass "com/example/headwright/headwright/HeaderEqualsIgnoringAsciiCasePinLaw" = some m.cls := findClass_of_methodNamed Bd.named
  have hnm := (name_of_methodNamed Bd.named Bd.method).1
  have X0 : Stand p l e ({ frames := 0, cells := 0, slots := 0, locals := 0 } : Room) s m #[(.int p1), (.int p2)] below meth c s₁ [] 0 0 := Stand.of_body Bd
  have e0 : s₁.heap = h0 := by rw [← hh, Bd.state]; rfl
  have es0 : s.heap = h0 := hh
  have N0 := Fr.nil n0
  show own_Fin p e below (Gsm Z p1 p2 h0 n0 s) (s₁.setTop (entryFrame m #[(.int p1), (.int p2)] 2))
  rw [ef_sm m p1 p2]
  refine own_go (XS.iloadN X0.here hx rfl (hb hby d11_0) rfl (Steps.refl _)) ?_
  show own_Fin _ _ _ _ (s₁.setTop (mkF m 1 #[iv p1, iv p2] [(.int p1)]))
  refine own_go (XS.iloadN X0.here hx rfl (hb hby d11_1) rfl (Steps.refl _)) ?_
  show own_Fin _ _ _ _ (s₁.setTop (mkF m 2 #[iv p1, iv p2] [(.int p2), (.int p1)]))
  by_cases h2 : p1 = p2
  · refine own_go (XS.icmpNo X0.here hx rfl (hb hby d11_2) rfl (teq h2).2 (Steps.refl _)) ?_
    show own_Fin _ _ _ _ (s₁.setTop (mkF m 5 #[iv p1, iv p2] []))
    refine own_go (XS.iconst X0.here hx rfl (hb hby d11_5) (Steps.refl _)) ?_
    show own_Fin _ _ _ _ (s₁.setTop (mkF m 6 #[iv p1, iv p2] [(.int (1 : Int32))]))
    obtain ⟨fs292, hr292, hrun292, hended292, hW292, hsame292⟩ := X0.leave (v := some (.int (1 : Int32))) (fun h => by rw [Bd.returns] at h; cases h)
    refine own_done (retN X0 hx (t := .boolean) Bd.returns (by simp) (hb hby d11_6) hr292) hrun292 hended292 ⟨_, _, rfl, ?_, ⟨_, rfl⟩, hW292, hsame292.mono (by decide) (by decide)⟩
    show Qsm Z p1 p2 h0 n0 _ s₁.heap _
    rw [e0]
    exact ⟨(by simp [own_same, h2]), N0, rfl⟩
  · refine own_go (XS.icmpYes X0.here hx rfl (pc0 := 2) (pc' := 7) rfl (hb hby d11_2) rfl (feq h2).2 (by decide) (by decide) (Steps.refl _)) ?_
    show own_Fin _ _ _ _ (s₁.setTop (mkF m 7 #[iv p1, iv p2] []))
    refine own_go (XS.iloadN X0.here hx rfl (hb hby d11_7) rfl (Steps.refl _)) ?_
    show own_Fin _ _ _ _ (s₁.setTop (mkF m 8 #[iv p1, iv p2] [(.int p1)]))
    refine own_go (XS.bipush X0.here hx rfl (hb hby d11_8) (Steps.refl _)) ?_
    show own_Fin _ _ _ _ (s₁.setTop (mkF m 10 #[iv p1, iv p2] [(.int (65 : Int32)), (.int p1)]))
    by_cases h10 : p1 < (65 : Int32)
    · refine own_go (XS.icmpYes X0.here hx rfl (pc0 := 10) (pc' := 29) rfl (hb hby d11_10) rfl (tlt h10).1 (by decide) (by decide) (Steps.refl _)) ?_
      show own_Fin _ _ _ _ (s₁.setTop (mkF m 29 #[iv p1, iv p2] []))
      refine own_go (XS.iloadN X0.here hx rfl (hb hby d11_29) rfl (Steps.refl _)) ?_
      show own_Fin _ _ _ _ (s₁.setTop (mkF m 30 #[iv p1, iv p2] [(.int p2)]))
      refine own_go (XS.bipush X0.here hx rfl (hb hby d11_30) (Steps.refl _)) ?_
      show own_Fin _ _ _ _ (s₁.setTop (mkF m 32 #[iv p1, iv p2] [(.int (65 : Int32)), (.int p2)]))
      by_cases h32 : p2 < (65 : Int32)
      · refine own_go (XS.icmpYes X0.here hx rfl (pc0 := 32) (pc' := 51) rfl (hb hby d11_32) rfl (tlt h32).1 (by decide) (by decide) (Steps.refl _)) ?_
        show own_Fin _ _ _ _ (s₁.setTop (mkF m 51 #[iv p1, iv p2] []))
        refine own_go (XS.iconst X0.here hx rfl (hb hby d11_51) (Steps.refl _)) ?_
        show own_Fin _ _ _ _ (s₁.setTop (mkF m 52 #[iv p1, iv p2] [(.int (0 : Int32))]))
        obtain ⟨fs293, hr293, hrun293, hended293, hW293, hsame293⟩ := X0.leave (v := some (.int (0 : Int32))) (fun h => by rw [Bd.returns] at h; cases h)
        refine own_done (retN X0 hx (t := .boolean) Bd.returns (by simp) (hb hby d11_52) hr293) hrun293 hended293 ⟨_, _, rfl, ?_, ⟨_, rfl⟩, hW293, hsame293.mono (by decide) (by decide)⟩
        show Qsm Z p1 p2 h0 n0 _ s₁.heap _
        rw [e0]
        exact ⟨(by simp [own_same, h2, h10, h32]), N0, rfl⟩
      · refine own_go (XS.icmpNo X0.here hx rfl (hb hby d11_32) rfl (flt h32).1 (Steps.refl _)) ?_
        show own_Fin _ _ _ _ (s₁.setTop (mkF m 35 #[iv p1, iv p2] []))
        refine own_go (XS.iloadN X0.here hx rfl (hb hby d11_35) rfl (Steps.refl _)) ?_
        show own_Fin _ _ _ _ (s₁.setTop (mkF m 36 #[iv p1, iv p2] [(.int p2)]))
        refine own_go (XS.bipush X0.here hx rfl (hb hby d11_36) (Steps.refl _)) ?_
        show own_Fin _ _ _ _ (s₁.setTop (mkF m 38 #[iv p1, iv p2] [(.int (90 : Int32)), (.int p2)]))
        by_cases h38 : (90 : Int32) < p2
        · refine own_go (XS.icmpYes X0.here hx rfl (pc0 := 38) (pc' := 51) rfl (hb hby d11_38) rfl (tlt h38).2.2.1 (by decide) (by decide) (Steps.refl _)) ?_
          show own_Fin _ _ _ _ (s₁.setTop (mkF m 51 #[iv p1, iv p2] []))
          refine own_go (XS.iconst X0.here hx rfl (hb hby d11_51) (Steps.refl _)) ?_
          show own_Fin _ _ _ _ (s₁.setTop (mkF m 52 #[iv p1, iv p2] [(.int (0 : Int32))]))
          obtain ⟨fs294, hr294, hrun294, hended294, hW294, hsame294⟩ := X0.leave (v := some (.int (0 : Int32))) (fun h => by rw [Bd.returns] at h; cases h)
          refine own_done (retN X0 hx (t := .boolean) Bd.returns (by simp) (hb hby d11_52) hr294) hrun294 hended294 ⟨_, _, rfl, ?_, ⟨_, rfl⟩, hW294, hsame294.mono (by decide) (by decide)⟩
          show Qsm Z p1 p2 h0 n0 _ s₁.heap _
          rw [e0]
          exact ⟨(by simp [own_same, h2, h10, h32, h38]), N0, rfl⟩
        · refine own_go (XS.icmpNo X0.here hx rfl (hb hby d11_38) rfl (flt h38).2.2.1 (Steps.refl _)) ?_
          show own_Fin _ _ _ _ (s₁.setTop (mkF m 41 #[iv p1, iv p2] []))
          refine own_go (XS.iloadN X0.here hx rfl (hb hby d11_41) rfl (Steps.refl _)) ?_
          show own_Fin _ _ _ _ (s₁.setTop (mkF m 42 #[iv p1, iv p2] [(.int p2)]))
          refine own_go (XS.bipush X0.here hx rfl (hb hby d11_42) (Steps.refl _)) ?_
          show own_Fin _ _ _ _ (s₁.setTop (mkF m 44 #[iv p1, iv p2] [(.int (32 : Int32)), (.int p2)]))
          refine own_go (XS.iadd X0.here hx rfl (hb hby d11_44) rfl (Steps.refl _)) ?_
          show own_Fin _ _ _ _ (s₁.setTop (mkF m 45 #[iv p1, iv p2] [(.int (p2 + (32 : Int32)))]))
          refine own_go (XS.iloadN X0.here hx rfl (hb hby d11_45) rfl (Steps.refl _)) ?_
          show own_Fin _ _ _ _ (s₁.setTop (mkF m 46 #[iv p1, iv p2] [(.int p1), (.int (p2 + (32 : Int32)))]))
          by_cases h46 : (p2 + (32 : Int32)) = p1
          · refine own_go (XS.icmpNo X0.here hx rfl (hb hby d11_46) rfl (teq h46).2 (Steps.refl _)) ?_
            show own_Fin _ _ _ _ (s₁.setTop (mkF m 49 #[iv p1, iv p2] []))
            refine own_go (XS.iconst X0.here hx rfl (hb hby d11_49) (Steps.refl _)) ?_
            show own_Fin _ _ _ _ (s₁.setTop (mkF m 50 #[iv p1, iv p2] [(.int (1 : Int32))]))
            obtain ⟨fs295, hr295, hrun295, hended295, hW295, hsame295⟩ := X0.leave (v := some (.int (1 : Int32))) (fun h => by rw [Bd.returns] at h; cases h)
            refine own_done (retN X0 hx (t := .boolean) Bd.returns (by simp) (hb hby d11_50) hr295) hrun295 hended295 ⟨_, _, rfl, ?_, ⟨_, rfl⟩, hW295, hsame295.mono (by decide) (by decide)⟩
            show Qsm Z p1 p2 h0 n0 _ s₁.heap _
            rw [e0]
            exact ⟨(by simp [own_same, h2, h10, h32, h38, h46]), N0, rfl⟩
          · refine own_go (XS.icmpYes X0.here hx rfl (pc0 := 46) (pc' := 51) rfl (hb hby d11_46) rfl (feq h46).2 (by decide) (by decide) (Steps.refl _)) ?_
            show own_Fin _ _ _ _ (s₁.setTop (mkF m 51 #[iv p1, iv p2] []))
            refine own_go (XS.iconst X0.here hx rfl (hb hby d11_51) (Steps.refl _)) ?_
            show own_Fin _ _ _ _ (s₁.setTop (mkF m 52 #[iv p1, iv p2] [(.int (0 : Int32))]))
            obtain ⟨fs296, hr296, hrun296, hended296, hW296, hsame296⟩ := X0.leave (v := some (.int (0 : Int32))) (fun h => by rw [Bd.returns] at h; cases h)
            refine own_done (retN X0 hx (t := .boolean) Bd.returns (by simp) (hb hby d11_52) hr296) hrun296 hended296 ⟨_, _, rfl, ?_, ⟨_, rfl⟩, hW296, hsame296.mono (by decide) (by decide)⟩
            show Qsm Z p1 p2 h0 n0 _ s₁.heap _
            rw [e0]
            exact ⟨(by simp [own_same, h2, h10, h32, h38, h46]), N0, rfl⟩
    · refine own_go (XS.icmpNo X0.here hx rfl (hb hby d11_10) rfl (flt h10).1 (Steps.refl _)) ?_
      show own_Fin _ _ _ _ (s₁.setTop (mkF m 13 #[iv p1, iv p2] []))
      refine own_go (XS.iloadN X0.here hx rfl (hb hby d11_13) rfl (Steps.refl _)) ?_
      show own_Fin _ _ _ _ (s₁.setTop (mkF m 14 #[iv p1, iv p2] [(.int p1)]))
      refine own_go (XS.bipush X0.here hx rfl (hb hby d11_14) (Steps.refl _)) ?_
      show own_Fin _ _ _ _ (s₁.setTop (mkF m 16 #[iv p1, iv p2] [(.int (90 : Int32)), (.int p1)]))
      by_cases h16 : (90 : Int32) < p1
      · refine own_go (XS.icmpYes X0.here hx rfl (pc0 := 16) (pc' := 29) rfl (hb hby d11_16) rfl (tlt h16).2.2.1 (by decide) (by decide) (Steps.refl _)) ?_
        show own_Fin _ _ _ _ (s₁.setTop (mkF m 29 #[iv p1, iv p2] []))
        refine own_go (XS.iloadN X0.here hx rfl (hb hby d11_29) rfl (Steps.refl _)) ?_
        show own_Fin _ _ _ _ (s₁.setTop (mkF m 30 #[iv p1, iv p2] [(.int p2)]))
        refine own_go (XS.bipush X0.here hx rfl (hb hby d11_30) (Steps.refl _)) ?_
        show own_Fin _ _ _ _ (s₁.setTop (mkF m 32 #[iv p1, iv p2] [(.int (65 : Int32)), (.int p2)]))
        by_cases h32 : p2 < (65 : Int32)
        · refine own_go (XS.icmpYes X0.here hx rfl (pc0 := 32) (pc' := 51) rfl (hb hby d11_32) rfl (tlt h32).1 (by decide) (by decide) (Steps.refl _)) ?_
          show own_Fin _ _ _ _ (s₁.setTop (mkF m 51 #[iv p1, iv p2] []))
          refine own_go (XS.iconst X0.here hx rfl (hb hby d11_51) (Steps.refl _)) ?_
          show own_Fin _ _ _ _ (s₁.setTop (mkF m 52 #[iv p1, iv p2] [(.int (0 : Int32))]))
          obtain ⟨fs297, hr297, hrun297, hended297, hW297, hsame297⟩ := X0.leave (v := some (.int (0 : Int32))) (fun h => by rw [Bd.returns] at h; cases h)
          refine own_done (retN X0 hx (t := .boolean) Bd.returns (by simp) (hb hby d11_52) hr297) hrun297 hended297 ⟨_, _, rfl, ?_, ⟨_, rfl⟩, hW297, hsame297.mono (by decide) (by decide)⟩
          show Qsm Z p1 p2 h0 n0 _ s₁.heap _
          rw [e0]
          exact ⟨(by simp [own_same, h2, h10, h16, h32]), N0, rfl⟩
        · refine own_go (XS.icmpNo X0.here hx rfl (hb hby d11_32) rfl (flt h32).1 (Steps.refl _)) ?_
          show own_Fin _ _ _ _ (s₁.setTop (mkF m 35 #[iv p1, iv p2] []))
          refine own_go (XS.iloadN X0.here hx rfl (hb hby d11_35) rfl (Steps.refl _)) ?_
          show own_Fin _ _ _ _ (s₁.setTop (mkF m 36 #[iv p1, iv p2] [(.int p2)]))
          refine own_go (XS.bipush X0.here hx rfl (hb hby d11_36) (Steps.refl _)) ?_
          show own_Fin _ _ _ _ (s₁.setTop (mkF m 38 #[iv p1, iv p2] [(.int (90 : Int32)), (.int p2)]))
          by_cases h38 : (90 : Int32) < p2
          · refine own_go (XS.icmpYes X0.here hx rfl (pc0 := 38) (pc' := 51) rfl (hb hby d11_38) rfl (tlt h38).2.2.1 (by decide) (by decide) (Steps.refl _)) ?_
            show own_Fin _ _ _ _ (s₁.setTop (mkF m 51 #[iv p1, iv p2] []))
            refine own_go (XS.iconst X0.here hx rfl (hb hby d11_51) (Steps.refl _)) ?_
            show own_Fin _ _ _ _ (s₁.setTop (mkF m 52 #[iv p1, iv p2] [(.int (0 : Int32))]))
            obtain ⟨fs298, hr298, hrun298, hended298, hW298, hsame298⟩ := X0.leave (v := some (.int (0 : Int32))) (fun h => by rw [Bd.returns] at h; cases h)
            refine own_done (retN X0 hx (t := .boolean) Bd.returns (by simp) (hb hby d11_52) hr298) hrun298 hended298 ⟨_, _, rfl, ?_, ⟨_, rfl⟩, hW298, hsame298.mono (by decide) (by decide)⟩
            show Qsm Z p1 p2 h0 n0 _ s₁.heap _
            rw [e0]
            exact ⟨(by simp [own_same, h2, h10, h16, h32, h38]), N0, rfl⟩
          · refine own_go (XS.icmpNo X0.here hx rfl (hb hby d11_38) rfl (flt h38).2.2.1 (Steps.refl _)) ?_
            show own_Fin _ _ _ _ (s₁.setTop (mkF m 41 #[iv p1, iv p2] []))
            refine own_go (XS.iloadN X0.here hx rfl (hb hby d11_41) rfl (Steps.refl _)) ?_
            show own_Fin _ _ _ _ (s₁.setTop (mkF m 42 #[iv p1, iv p2] [(.int p2)]))
            refine own_go (XS.bipush X0.here hx rfl (hb hby d11_42) (Steps.refl _)) ?_
            show own_Fin _ _ _ _ (s₁.setTop (mkF m 44 #[iv p1, iv p2] [(.int (32 : Int32)), (.int p2)]))
            refine own_go (XS.iadd X0.here hx rfl (hb hby d11_44) rfl (Steps.refl _)) ?_
            show own_Fin _ _ _ _ (s₁.setTop (mkF m 45 #[iv p1, iv p2] [(.int (p2 + (32 : Int32)))]))
            refine own_go (XS.iloadN X0.here hx rfl (hb hby d11_45) rfl (Steps.refl _)) ?_
            show own_Fin _ _ _ _ (s₁.setTop (mkF m 46 #[iv p1, iv p2] [(.int p1), (.int (p2 + (32 : Int32)))]))
            by_cases h46 : (p2 + (32 : Int32)) = p1
            · refine own_go (XS.icmpNo X0.here hx rfl (hb hby d11_46) rfl (teq h46).2 (Steps.refl _)) ?_
              show own_Fin _ _ _ _ (s₁.setTop (mkF m 49 #[iv p1, iv p2] []))
              refine own_go (XS.iconst X0.here hx rfl (hb hby d11_49) (Steps.refl _)) ?_
              show own_Fin _ _ _ _ (s₁.setTop (mkF m 50 #[iv p1, iv p2] [(.int (1 : Int32))]))
              obtain ⟨fs299, hr299, hrun299, hended299, hW299, hsame299⟩ := X0.leave (v := some (.int (1 : Int32))) (fun h => by rw [Bd.returns] at h; cases h)
              refine own_done (retN X0 hx (t := .boolean) Bd.returns (by simp) (hb hby d11_50) hr299) hrun299 hended299 ⟨_, _, rfl, ?_, ⟨_, rfl⟩, hW299, hsame299.mono (by decide) (by decide)⟩
              show Qsm Z p1 p2 h0 n0 _ s₁.heap _
              rw [e0]
              exact ⟨(by simp [own_same, h2, h10, h16, h32, h38, h46]), N0, rfl⟩
            · refine own_go (XS.icmpYes X0.here hx rfl (pc0 := 46) (pc' := 51) rfl (hb hby d11_46) rfl (feq h46).2 (by decide) (by decide) (Steps.refl _)) ?_
              show own_Fin _ _ _ _ (s₁.setTop (mkF m 51 #[iv p1, iv p2] []))
              refine own_go (XS.iconst X0.here hx rfl (hb hby d11_51) (Steps.refl _)) ?_
              show own_Fin _ _ _ _ (s₁.setTop (mkF m 52 #[iv p1, iv p2] [(.int (0 : Int32))]))
              obtain ⟨fs300, hr300, hrun300, hended300, hW300, hsame300⟩ := X0.leave (v := some (.int (0 : Int32))) (fun h => by rw [Bd.returns] at h; cases h)
              refine own_done (retN X0 hx (t := .boolean) Bd.returns (by simp) (hb hby d11_52) hr300) hrun300 hended300 ⟨_, _, rfl, ?_, ⟨_, rfl⟩, hW300, hsame300.mono (by decide) (by decide)⟩
              show Qsm Z p1 p2 h0 n0 _ s₁.heap _
              rw [e0]
              exact ⟨(by simp [own_same, h2, h10, h16, h32, h38, h46]), N0, rfl⟩
      · refine own_go (XS.icmpNo X0.here hx rfl (hb hby d11_16) rfl (flt h16).2.2.1 (Steps.refl _)) ?_
        show own_Fin _ _ _ _ (s₁.setTop (mkF m 19 #[iv p1, iv p2] []))
        refine own_go (XS.iloadN X0.here hx rfl (hb hby d11_19) rfl (Steps.refl _)) ?_
        show own_Fin _ _ _ _ (s₁.setTop (mkF m 20 #[iv p1, iv p2] [(.int p1)]))
        refine own_go (XS.bipush X0.here hx rfl (hb hby d11_20) (Steps.refl _)) ?_
        show own_Fin _ _ _ _ (s₁.setTop (mkF m 22 #[iv p1, iv p2] [(.int (32 : Int32)), (.int p1)]))
        refine own_go (XS.iadd X0.here hx rfl (hb hby d11_22) rfl (Steps.refl _)) ?_
        show own_Fin _ _ _ _ (s₁.setTop (mkF m 23 #[iv p1, iv p2] [(.int (p1 + (32 : Int32)))]))
        refine own_go (XS.iloadN X0.here hx rfl (hb hby d11_23) rfl (Steps.refl _)) ?_
        show own_Fin _ _ _ _ (s₁.setTop (mkF m 24 #[iv p1, iv p2] [(.int p2), (.int (p1 + (32 : Int32)))]))
        by_cases h24 : (p1 + (32 : Int32)) = p2
        · refine own_go (XS.icmpNo X0.here hx rfl (hb hby d11_24) rfl (teq h24).2 (Steps.refl _)) ?_
          show own_Fin _ _ _ _ (s₁.setTop (mkF m 27 #[iv p1, iv p2] []))
          refine own_go (XS.iconst X0.here hx rfl (hb hby d11_27) (Steps.refl _)) ?_
          show own_Fin _ _ _ _ (s₁.setTop (mkF m 28 #[iv p1, iv p2] [(.int (1 : Int32))]))
          obtain ⟨fs301, hr301, hrun301, hended301, hW301, hsame301⟩ := X0.leave (v := some (.int (1 : Int32))) (fun h => by rw [Bd.returns] at h; cases h)
          refine own_done (retN X0 hx (t := .boolean) Bd.returns (by simp) (hb hby d11_28) hr301) hrun301 hended301 ⟨_, _, rfl, ?_, ⟨_, rfl⟩, hW301, hsame301.mono (by decide) (by decide)⟩
          show Qsm Z p1 p2 h0 n0 _ s₁.heap _
          rw [e0]
          exact ⟨(by simp [own_same, h2, h10, h16, h24]), N0, rfl⟩
        · refine own_go (XS.icmpYes X0.here hx rfl (pc0 := 24) (pc' := 29) rfl (hb hby d11_24) rfl (feq h24).2 (by decide) (by decide) (Steps.refl _)) ?_
          show own_Fin _ _ _ _ (s₁.setTop (mkF m 29 #[iv p1, iv p2] []))
          refine own_go (XS.iloadN X0.here hx rfl (hb hby d11_29) rfl (Steps.refl _)) ?_
          show own_Fin _ _ _ _ (s₁.setTop (mkF m 30 #[iv p1, iv p2] [(.int p2)]))
          refine own_go (XS.bipush X0.here hx rfl (hb hby d11_30) (Steps.refl _)) ?_
          show own_Fin _ _ _ _ (s₁.setTop (mkF m 32 #[iv p1, iv p2] [(.int (65 : Int32)), (.int p2)]))
          by_cases h32 : p2 < (65 : Int32)
          · refine own_go (XS.icmpYes X0.here hx rfl (pc0 := 32) (pc' := 51) rfl (hb hby d11_32) rfl (tlt h32).1 (by decide) (by decide) (Steps.refl _)) ?_
            show own_Fin _ _ _ _ (s₁.setTop (mkF m 51 #[iv p1, iv p2] []))
            refine own_go (XS.iconst X0.here hx rfl (hb hby d11_51) (Steps.refl _)) ?_
            show own_Fin _ _ _ _ (s₁.setTop (mkF m 52 #[iv p1, iv p2] [(.int (0 : Int32))]))
            obtain ⟨fs302, hr302, hrun302, hended302, hW302, hsame302⟩ := X0.leave (v := some (.int (0 : Int32))) (fun h => by rw [Bd.returns] at h; cases h)
            refine own_done (retN X0 hx (t := .boolean) Bd.returns (by simp) (hb hby d11_52) hr302) hrun302 hended302 ⟨_, _, rfl, ?_, ⟨_, rfl⟩, hW302, hsame302.mono (by decide) (by decide)⟩
            show Qsm Z p1 p2 h0 n0 _ s₁.heap _
            rw [e0]
            exact ⟨(by simp [own_same, h2, h10, h16, h24, h32]), N0, rfl⟩
          · refine own_go (XS.icmpNo X0.here hx rfl (hb hby d11_32) rfl (flt h32).1 (Steps.refl _)) ?_
            show own_Fin _ _ _ _ (s₁.setTop (mkF m 35 #[iv p1, iv p2] []))
            refine own_go (XS.iloadN X0.here hx rfl (hb hby d11_35) rfl (Steps.refl _)) ?_
            show own_Fin _ _ _ _ (s₁.setTop (mkF m 36 #[iv p1, iv p2] [(.int p2)]))
            refine own_go (XS.bipush X0.here hx rfl (hb hby d11_36) (Steps.refl _)) ?_
            show own_Fin _ _ _ _ (s₁.setTop (mkF m 38 #[iv p1, iv p2] [(.int (90 : Int32)), (.int p2)]))
            by_cases h38 : (90 : Int32) < p2
            · refine own_go (XS.icmpYes X0.here hx rfl (pc0 := 38) (pc' := 51) rfl (hb hby d11_38) rfl (tlt h38).2.2.1 (by decide) (by decide) (Steps.refl _)) ?_
              show own_Fin _ _ _ _ (s₁.setTop (mkF m 51 #[iv p1, iv p2] []))
              refine own_go (XS.iconst X0.here hx rfl (hb hby d11_51) (Steps.refl _)) ?_
              show own_Fin _ _ _ _ (s₁.setTop (mkF m 52 #[iv p1, iv p2] [(.int (0 : Int32))]))
              obtain ⟨fs303, hr303, hrun303, hended303, hW303, hsame303⟩ := X0.leave (v := some (.int (0 : Int32))) (fun h => by rw [Bd.returns] at h; cases h)
              refine own_done (retN X0 hx (t := .boolean) Bd.returns (by simp) (hb hby d11_52) hr303) hrun303 hended303 ⟨_, _, rfl, ?_, ⟨_, rfl⟩, hW303, hsame303.mono (by decide) (by decide)⟩
              show Qsm Z p1 p2 h0 n0 _ s₁.heap _
              rw [e0]
              exact ⟨(by simp [own_same, h2, h10, h16, h24, h32, h38]), N0, rfl⟩
            · refine own_go (XS.icmpNo X0.here hx rfl (hb hby d11_38) rfl (flt h38).2.2.1 (Steps.refl _)) ?_
              show own_Fin _ _ _ _ (s₁.setTop (mkF m 41 #[iv p1, iv p2] []))
              refine own_go (XS.iloadN X0.here hx rfl (hb hby d11_41) rfl (Steps.refl _)) ?_
              show own_Fin _ _ _ _ (s₁.setTop (mkF m 42 #[iv p1, iv p2] [(.int p2)]))
              refine own_go (XS.bipush X0.here hx rfl (hb hby d11_42) (Steps.refl _)) ?_
              show own_Fin _ _ _ _ (s₁.setTop (mkF m 44 #[iv p1, iv p2] [(.int (32 : Int32)), (.int p2)]))
              refine own_go (XS.iadd X0.here hx rfl (hb hby d11_44) rfl (Steps.refl _)) ?_
              show own_Fin _ _ _ _ (s₁.setTop (mkF m 45 #[iv p1, iv p2] [(.int (p2 + (32 : Int32)))]))
              refine own_go (XS.iloadN X0.here hx rfl (hb hby d11_45) rfl (Steps.refl _)) ?_
              show own_Fin _ _ _ _ (s₁.setTop (mkF m 46 #[iv p1, iv p2] [(.int p1), (.int (p2 + (32 : Int32)))]))
              by_cases h46 : (p2 + (32 : Int32)) = p1
              · refine own_go (XS.icmpNo X0.here hx rfl (hb hby d11_46) rfl (teq h46).2 (Steps.refl _)) ?_
                show own_Fin _ _ _ _ (s₁.setTop (mkF m 49 #[iv p1, iv p2] []))
                refine own_go (XS.iconst X0.here hx rfl (hb hby d11_49) (Steps.refl _)) ?_
                show own_Fin _ _ _ _ (s₁.setTop (mkF m 50 #[iv p1, iv p2] [(.int (1 : Int32))]))
                obtain ⟨fs304, hr304, hrun304, hended304, hW304, hsame304⟩ := X0.leave (v := some (.int (1 : Int32))) (fun h => by rw [Bd.returns] at h; cases h)
                refine own_done (retN X0 hx (t := .boolean) Bd.returns (by simp) (hb hby d11_50) hr304) hrun304 hended304 ⟨_, _, rfl, ?_, ⟨_, rfl⟩, hW304, hsame304.mono (by decide) (by decide)⟩
                show Qsm Z p1 p2 h0 n0 _ s₁.heap _
                rw [e0]
                exact ⟨(by simp [own_same, h2, h10, h16, h24, h32, h38, h46]), N0, rfl⟩
              · refine own_go (XS.icmpYes X0.here hx rfl (pc0 := 46) (pc' := 51) rfl (hb hby d11_46) rfl (feq h46).2 (by decide) (by decide) (Steps.refl _)) ?_
                show own_Fin _ _ _ _ (s₁.setTop (mkF m 51 #[iv p1, iv p2] []))
                refine own_go (XS.iconst X0.here hx rfl (hb hby d11_51) (Steps.refl _)) ?_
                show own_Fin _ _ _ _ (s₁.setTop (mkF m 52 #[iv p1, iv p2] [(.int (0 : Int32))]))
                obtain ⟨fs305, hr305, hrun305, hended305, hW305, hsame305⟩ := X0.leave (v := some (.int (0 : Int32))) (fun h => by rw [Bd.returns] at h; cases h)
                refine own_done (retN X0 hx (t := .boolean) Bd.returns (by simp) (hb hby d11_52) hr305) hrun305 hended305 ⟨_, _, rfl, ?_, ⟨_, rfl⟩, hW305, hsame305.mono (by decide) (by decide)⟩
                show Qsm Z p1 p2 h0 n0 _ s₁.heap _
                rw [e0]
                exact ⟨(by simp [own_same, h2, h10, h16, h24, h32, h38, h46]), N0, rfl⟩
theorem d1_0 : decode method_3_code 0 = .ok (.iload_n 1, 1) := by decide +kernel
theorem d1_1 : decode method_3_code 1 = .ok (.ifCond .ne 5, 3) := by decide +kernel
theorem d1_4 : decode method_3_code 4 = .ok (.iload_n 0, 1) := by decide +kernel
theorem d1_5 : decode method_3_code 5 = .ok (.ireturn, 1) := by decide +kernel
theorem d1_6 : decode method_3_code 6 = .ok (.iload_n 1, 1) := by decide +kernel
theorem d1_7 : decode method_3_code 7 = .ok (.iconst 1, 1) := by decide +kernel
theorem d1_8 : decode method_3_code 8 = .ok (.if_icmp .ne 9, 3) := by decide +kernel
theorem d1_11 : decode method_3_code 11 = .ok (.iload_n 0, 1) := by decide +kernel
theorem d1_12 : decode method_3_code 12 = .ok (.bipush 32, 2) := by decide +kernel
theorem d1_14 : decode method_3_code 14 = .ok (.ixor, 1) := by decide +kernel
theorem d1_15 : decode method_3_code 15 = .ok (.i2c, 1) := by decide +kernel
theorem d1_16 : decode method_3_code 16 = .ok (.ireturn, 1) := by decide +kernel
theorem d1_17 : decode method_3_code 17 = .ok (.iload_n 1, 1) := by decide +kernel
theorem d1_18 : decode method_3_code 18 = .ok (.iconst 2, 1) := by decide +kernel
theorem d1_19 : decode method_3_code 19 = .ok (.if_icmp .ne 6, 3) := by decide +kernel
theorem d1_22 : decode method_3_code 22 = .ok (.iload_n 2, 1) := by decide +kernel
theorem d1_23 : decode method_3_code 23 = .ok (.i2c, 1) := by decide +kernel
theorem d1_24 : decode method_3_code 24 = .ok (.ireturn, 1) := by decide +kernel
theorem d1_25 : decode method_3_code 25 = .ok (.iload_n 0, 1) := by decide +kernel
theorem d1_26 : decode method_3_code 26 = .ok (.sipush 256, 3) := by decide +kernel
theorem d1_29 : decode method_3_code 29 = .ok (.iadd, 1) := by decide +kernel
theorem d1_30 : decode method_3_code 30 = .ok (.i2c, 1) := by decide +kernel
theorem d1_31 : decode method_3_code 31 = .ok (.ireturn, 1) := by decide +kernel
theorem ef_oth (m : MethodId) (x0 : Int32) (x1 : Int32) (x2 : Int32) : entryFrame m #[(.int x0), (.int x1), (.int x2)] 3 = mkF m 0 #[.val (.int x0), .val (.int x1), .val (.int x2)] [] := by first | (simp [entryFrame, mkF, argsToLocals, Value.category]; done) | rfl
def Qoth (Z : State) (p1 : Int32) (p2 : Int32) (p3 : Int32) (h0 : Heap) (n0 : Nat) (v : Option Value) (h : Heap) (L : List Loc) : Prop := v = some (.int (own_oth p1 p2 p3)) ∧ Fr n0 L ∧ h = h0
abbrev Goth (Z : State) (p1 : Int32) (p2 : Int32) (p3 : Int32) (h0 : Heap) (n0 : Nat) (s : State) : Outcome → State → Prop := fun o U' => ∃ v L, o = .returned v ∧ Qoth Z p1 p2 p3 h0 n0 v U'.heap L ∧ FrameEnd s o U' L ({ frames := 0, cells := 0, slots := 0, locals := 0 } : Room).cells ({ frames := 0, cells := 0, slots := 0, locals := 0 } : Room).slots
set_option maxRecDepth 65536 in
set_option maxHeartbeats 40000000 in
theorem rmoth (l : Launch) (Z : State) (a0 : Array Value) (hw : ∀ d ∈ tables_1, d.before a0 Z = true) (ws : List Jvm.Cond) (p1 : Int32) (p2 : Int32) (p3 : Int32) (h0 : Heap) (n0 : Nat) (Z0 : n0 ≤ h0.size)  :
    MetFree l (⟨"com/example/headwright/headwright/HeaderEqualsIgnoringAsciiCasePinLaw", "other", "(CII)C"⟩ : MethodName) (head1 (Jvm.Cond.code (⟨"com/example/headwright/headwright/HeaderEqualsIgnoringAsciiCasePinLaw", "other", "(CII)C"⟩ : MethodName) method_3_code 3 (some .char) :: ws) ({ frames := 0, cells := 0, slots := 0, locals := 0 } : Room)) (fun a U => a = #[(.int p1), (.int p2), (.int p3)] ∧ Z.Warmed39 U.vm ∧ U.heap = h0) (fun _ _ _ _ _ => True) (fun _ U o U' => ∃ v L, o = .returned v ∧ Qoth Z p1 p2 p3 h0 n0 v U'.heap L ∧ FrameEnd U o U' L ({ frames := 0, cells := 0, slots := 0, locals := 0 } : Room).cells ({ frames := 0, cells := 0, slots := 0, locals := 0 } : Room).slots) := by
  refine MetFree.of_bodySF (plainFor_of_name pn_com_example_headwright_headwright_HeaderEqualsIgnoringAsciiCasePinLaw) hisR ?_
  intro p e s m args below meth c s₁ Bd hml0 hP hK
  obtain ⟨rfl, hZ, hh⟩ := hP
  have hx := Bd.exec
  have hby := Bd.bytes
  have hml : c.maxLocals = 3 := hml0
  have hown : s.vm.findClass "com/example/headwright/headwright/HeaderEqualsIgnoringAsciiCasePinLaw" = some m.cls := findClass_of_methodNamed Bd.named
  have hnm := (name_of_methodNamed Bd.named Bd.method).1
  have X0 : Stand p l e ({ frames := 0, cells := 0, slots := 0, locals := 0 } : Room) s m #[(.int p1), (.int p2), (.int p3)] below meth c s₁ [] 0 0 := Stand.of_body Bd
  have e0 : s₁.heap = h0 := by rw [← hh, Bd.state]; rfl
  have es0 : s.heap = h0 := hh
  have N0 := Fr.nil n0
  show own_Fin p e below (Goth Z p1 p2 p3 h0 n0 s) (s₁.setTop (entryFrame m #[(.int p1), (.int p2), (.int p3)] 3))
  rw [ef_oth m p1 p2 p3]
  refine own_go (XS.iloadN X0.here hx rfl (hb hby d1_0) rfl (Steps.refl _)) ?_
  show own_Fin _ _ _ _ (s₁.setTop (mkF m 1 #[iv p1, iv p2, iv p3] [(.int p2)]))
  by_cases h1 : p2 = (0 : Int32)
  · refine own_go (XS.ifNo X0.here hx rfl (hb hby d1_1) rfl ((if0 _ _).trans (teq h1).2) (Steps.refl _)) ?_
    show own_Fin _ _ _ _ (s₁.setTop (mkF m 4 #[iv p1, iv p2, iv p3] []))
    refine own_go (XS.iloadN X0.here hx rfl (hb hby d1_4) rfl (Steps.refl _)) ?_
    show own_Fin _ _ _ _ (s₁.setTop (mkF m 5 #[iv p1, iv p2, iv p3] [(.int p1)]))
    obtain ⟨fs306, hr306, hrun306, hended306, hW306, hsame306⟩ := X0.leave (v := some (.int (nar .char p1))) (fun h => by rw [Bd.returns] at h; cases h)
    refine own_done (retN X0 hx (t := .char) Bd.returns (by simp) (hb hby d1_5) hr306) hrun306 hended306 ⟨_, _, rfl, ?_, ⟨_, rfl⟩, hW306, hsame306.mono (by decide) (by decide)⟩
    show Qoth Z p1 p2 p3 h0 n0 _ s₁.heap _
    rw [e0]
    exact ⟨(by rw [own_oth, if_pos h1]), N0, rfl⟩
  · refine own_go (XS.ifYes X0.here hx rfl (pc0 := 1) (pc' := 6) rfl (hb hby d1_1) rfl ((if0 _ _).trans (feq h1).2) (by decide) (by decide) (Steps.refl _)) ?_
    show own_Fin _ _ _ _ (s₁.setTop (mkF m 6 #[iv p1, iv p2, iv p3] []))
    refine own_go (XS.iloadN X0.here hx rfl (hb hby d1_6) rfl (Steps.refl _)) ?_
    show own_Fin _ _ _ _ (s₁.setTop (mkF m 7 #[iv p1, iv p2, iv p3] [(.int p2)]))
    refine own_go (XS.iconst X0.here hx rfl (hb hby d1_7) (Steps.refl _)) ?_
    show own_Fin _ _ _ _ (s₁.setTop (mkF m 8 #[iv p1, iv p2, iv p3] [(.int (1 : Int32)), (.int p2)]))
    by_cases h8 : p2 = (1 : Int32)
    · refine own_go (XS.icmpNo X0.here hx rfl (hb hby d1_8) rfl (teq h8).2 (Steps.refl _)) ?_
      show own_Fin _ _ _ _ (s₁.setTop (mkF m 11 #[iv p1, iv p2, iv p3] []))
      refine own_go (XS.iloadN X0.here hx rfl (hb hby d1_11) rfl (Steps.refl _)) ?_
      show own_Fin _ _ _ _ (s₁.setTop (mkF m 12 #[iv p1, iv p2, iv p3] [(.int p1)]))
      refine own_go (XS.bipush X0.here hx rfl (hb hby d1_12) (Steps.refl _)) ?_
      show own_Fin _ _ _ _ (s₁.setTop (mkF m 14 #[iv p1, iv p2, iv p3] [(.int (32 : Int32)), (.int p1)]))
      refine own_go (XS.ixor X0.here hx rfl (hb hby d1_14) rfl (Steps.refl _)) ?_
      show own_Fin _ _ _ _ (s₁.setTop (mkF m 15 #[iv p1, iv p2, iv p3] [(.int (p1 ^^^ (32 : Int32)))]))
      refine own_go (XS.i2c X0.here hx rfl (hb hby d1_15) rfl (Steps.refl _)) ?_
      show own_Fin _ _ _ _ (s₁.setTop (mkF m 16 #[iv p1, iv p2, iv p3] [(.int ((p1 ^^^ (32 : Int32)).toUInt32.toUInt16.toUInt32.toInt32))]))
      obtain ⟨fs307, hr307, hrun307, hended307, hW307, hsame307⟩ := X0.leave (v := some (.int (nar .char ((p1 ^^^ (32 : Int32)).toUInt32.toUInt16.toUInt32.toInt32)))) (fun h => by rw [Bd.returns] at h; cases h)
      refine own_done (retN X0 hx (t := .char) Bd.returns (by simp) (hb hby d1_16) hr307) hrun307 hended307 ⟨_, _, rfl, ?_, ⟨_, rfl⟩, hW307, hsame307.mono (by decide) (by decide)⟩
      show Qoth Z p1 p2 p3 h0 n0 _ s₁.heap _
      rw [e0]
      exact ⟨(by rw [own_oth, if_neg h1, if_pos h8]), N0, rfl⟩
    · refine own_go (XS.icmpYes X0.here hx rfl (pc0 := 8) (pc' := 17) rfl (hb hby d1_8) rfl (feq h8).2 (by decide) (by decide) (Steps.refl _)) ?_
      show own_Fin _ _ _ _ (s₁.setTop (mkF m 17 #[iv p1, iv p2, iv p3] []))
      refine own_go (XS.iloadN X0.here hx rfl (hb hby d1_17) rfl (Steps.refl _)) ?_
      show own_Fin _ _ _ _ (s₁.setTop (mkF m 18 #[iv p1, iv p2, iv p3] [(.int p2)]))
      refine own_go (XS.iconst X0.here hx rfl (hb hby d1_18) (Steps.refl _)) ?_
      show own_Fin _ _ _ _ (s₁.setTop (mkF m 19 #[iv p1, iv p2, iv p3] [(.int (2 : Int32)), (.int p2)]))
      by_cases h19 : p2 = (2 : Int32)
      · refine own_go (XS.icmpNo X0.here hx rfl (hb hby d1_19) rfl (teq h19).2 (Steps.refl _)) ?_
        show own_Fin _ _ _ _ (s₁.setTop (mkF m 22 #[iv p1, iv p2, iv p3] []))
        refine own_go (XS.iloadN X0.here hx rfl (hb hby d1_22) rfl (Steps.refl _)) ?_
        show own_Fin _ _ _ _ (s₁.setTop (mkF m 23 #[iv p1, iv p2, iv p3] [(.int p3)]))
        refine own_go (XS.i2c X0.here hx rfl (hb hby d1_23) rfl (Steps.refl _)) ?_
        show own_Fin _ _ _ _ (s₁.setTop (mkF m 24 #[iv p1, iv p2, iv p3] [(.int (p3.toUInt32.toUInt16.toUInt32.toInt32))]))
        obtain ⟨fs308, hr308, hrun308, hended308, hW308, hsame308⟩ := X0.leave (v := some (.int (nar .char (p3.toUInt32.toUInt16.toUInt32.toInt32)))) (fun h => by rw [Bd.returns] at h; cases h)
        refine own_done (retN X0 hx (t := .char) Bd.returns (by simp) (hb hby d1_24) hr308) hrun308 hended308 ⟨_, _, rfl, ?_, ⟨_, rfl⟩, hW308, hsame308.mono (by decide) (by decide)⟩
        show Qoth Z p1 p2 p3 h0 n0 _ s₁.heap _
        rw [e0]
        exact ⟨(by rw [own_oth, if_neg h1, if_neg h8, if_pos h19]), N0, rfl⟩
      · refine own_go (XS.icmpYes X0.here hx rfl (pc0 := 19) (pc' := 25) rfl (hb hby d1_19) rfl (feq h19).2 (by decide) (by decide) (Steps.refl _)) ?_
        show own_Fin _ _ _ _ (s₁.setTop (mkF m 25 #[iv p1, iv p2, iv p3] []))
        refine own_go (XS.iloadN X0.here hx rfl (hb hby d1_25) rfl (Steps.refl _)) ?_
        show own_Fin _ _ _ _ (s₁.setTop (mkF m 26 #[iv p1, iv p2, iv p3] [(.int p1)]))
        refine own_go (XS.sipush X0.here hx rfl (hb hby d1_26) (Steps.refl _)) ?_
        show own_Fin _ _ _ _ (s₁.setTop (mkF m 29 #[iv p1, iv p2, iv p3] [(.int (256 : Int32)), (.int p1)]))
        refine own_go (XS.iadd X0.here hx rfl (hb hby d1_29) rfl (Steps.refl _)) ?_
        show own_Fin _ _ _ _ (s₁.setTop (mkF m 30 #[iv p1, iv p2, iv p3] [(.int (p1 + (256 : Int32)))]))
        refine own_go (XS.i2c X0.here hx rfl (hb hby d1_30) rfl (Steps.refl _)) ?_
        show own_Fin _ _ _ _ (s₁.setTop (mkF m 31 #[iv p1, iv p2, iv p3] [(.int ((p1 + (256 : Int32)).toUInt32.toUInt16.toUInt32.toInt32))]))
        obtain ⟨fs309, hr309, hrun309, hended309, hW309, hsame309⟩ := X0.leave (v := some (.int (nar .char ((p1 + (256 : Int32)).toUInt32.toUInt16.toUInt32.toInt32)))) (fun h => by rw [Bd.returns] at h; cases h)
        refine own_done (retN X0 hx (t := .char) Bd.returns (by simp) (hb hby d1_31) hr309) hrun309 hended309 ⟨_, _, rfl, ?_, ⟨_, rfl⟩, hW309, hsame309.mono (by decide) (by decide)⟩
        show Qoth Z p1 p2 p3 h0 n0 _ s₁.heap _
        rw [e0]
        exact ⟨(by rw [own_oth, if_neg h1, if_neg h8, if_neg h19]), N0, rfl⟩
theorem d8_0 : decode prog_23_method_3_code 0 = .ok (.aload_n 0, 1) := by decide +kernel
theorem d8_1 : decode prog_23_method_3_code 1 = .ok (.invokevirtual 34, 3) := by decide +kernel
theorem d8_4 : decode prog_23_method_3_code 4 = .ok (.aload_n 1, 1) := by decide +kernel
theorem d8_5 : decode prog_23_method_3_code 5 = .ok (.invokevirtual 34, 3) := by decide +kernel
theorem d8_8 : decode prog_23_method_3_code 8 = .ok (.if_icmp .eq 5, 3) := by decide +kernel
theorem d8_11 : decode prog_23_method_3_code 11 = .ok (.iconst 0, 1) := by decide +kernel
theorem d8_12 : decode prog_23_method_3_code 12 = .ok (.ireturn, 1) := by decide +kernel
theorem d8_13 : decode prog_23_method_3_code 13 = .ok (.iconst 0, 1) := by decide +kernel
theorem d8_14 : decode prog_23_method_3_code 14 = .ok (.istore_n 2, 1) := by decide +kernel
theorem d8_15 : decode prog_23_method_3_code 15 = .ok (.iload_n 2, 1) := by decide +kernel
theorem d8_16 : decode prog_23_method_3_code 16 = .ok (.aload_n 0, 1) := by decide +kernel
theorem d8_17 : decode prog_23_method_3_code 17 = .ok (.invokevirtual 34, 3) := by decide +kernel
theorem d8_20 : decode prog_23_method_3_code 20 = .ok (.if_icmp .ge 30, 3) := by decide +kernel
theorem d8_23 : decode prog_23_method_3_code 23 = .ok (.aload_n 0, 1) := by decide +kernel
theorem d8_24 : decode prog_23_method_3_code 24 = .ok (.iload_n 2, 1) := by decide +kernel
theorem d8_25 : decode prog_23_method_3_code 25 = .ok (.invokevirtual 40, 3) := by decide +kernel
theorem d8_28 : decode prog_23_method_3_code 28 = .ok (.invokestatic 44, 3) := by decide +kernel
theorem d8_31 : decode prog_23_method_3_code 31 = .ok (.aload_n 1, 1) := by decide +kernel
theorem d8_32 : decode prog_23_method_3_code 32 = .ok (.iload_n 2, 1) := by decide +kernel
theorem d8_33 : decode prog_23_method_3_code 33 = .ok (.invokevirtual 40, 3) := by decide +kernel
theorem d8_36 : decode prog_23_method_3_code 36 = .ok (.invokestatic 44, 3) := by decide +kernel
theorem d8_39 : decode prog_23_method_3_code 39 = .ok (.if_icmp .eq 5, 3) := by decide +kernel
theorem d8_42 : decode prog_23_method_3_code 42 = .ok (.iconst 0, 1) := by decide +kernel
theorem d8_43 : decode prog_23_method_3_code 43 = .ok (.ireturn, 1) := by decide +kernel
theorem d8_44 : decode prog_23_method_3_code 44 = .ok (.iinc 2 1, 3) := by decide +kernel
theorem d8_47 : decode prog_23_method_3_code 47 = .ok (.goto (-32), 3) := by decide +kernel
theorem d8_50 : decode prog_23_method_3_code 50 = .ok (.iconst 1, 1) := by decide +kernel
theorem d8_51 : decode prog_23_method_3_code 51 = .ok (.ireturn, 1) := by decide +kernel
theorem ef_eqi (m : MethodId) (x0 : Addr) (x1 : Addr) : entryFrame m #[(.ref x0), (.ref x1)] 3 = mkF m 0 #[.val (.ref x0), .val (.ref x1), .unset] [] := by first | (simp [entryFrame, mkF, argsToLocals, Value.category]; done) | rfl
def Qeqi (Z : State) (a1 : Addr) (a2 : Addr) (cs : Int32) (sv : Value) (n : Int32) (c0 : Int32) (c1 : Int32) (c2 : Int32) (q : Int32) (d0 : Int32) (d1 : Int32) (d2 : Int32) (h0 : Heap) (n0 : Nat) (v : Option Value) (h : Heap) (L : List Loc) : Prop := v = some (.int (own_eqv n q c0 c1 c2 d0 d1 d2)) ∧ Fr n0 L ∧ h = h0
abbrev Geqi (Z : State) (a1 : Addr) (a2 : Addr) (cs : Int32) (sv : Value) (n : Int32) (c0 : Int32) (c1 : Int32) (c2 : Int32) (q : Int32) (d0 : Int32) (d1 : Int32) (d2 : Int32) (h0 : Heap) (n0 : Nat) (s : State) : Outcome → State → Prop := fun o U' => ∃ v L, o = .returned v ∧ Qeqi Z a1 a2 cs sv n c0 c1 c2 q d0 d1 d2 h0 n0 v U'.heap L ∧ FrameEnd s o U' L ({ frames := 5, cells := 0, slots := 0, locals := 84 } : Room).cells ({ frames := 5, cells := 0, slots := 0, locals := 84 } : Room).slots
theorem pd__28__29_I : parseMethodDescriptor "()I" = some ⟨[], some .int⟩ := by decide +kernel
theorem pd__28_I_29_C : parseMethodDescriptor "(I)C" = some ⟨[.int], some .char⟩ := by decide +kernel
theorem pd__28_C_29_C : parseMethodDescriptor "(C)C" = some ⟨[.char], some .char⟩ := by decide +kernel
set_option maxRecDepth 65536 in
set_option maxHeartbeats 40000000 in
theorem rmeqi (l : Launch) (Z : State) (a0 : Array Value) (hw : ∀ d ∈ tables_1, d.before a0 Z = true) (ws : List Jvm.Cond) (a1 : Addr) (a2 : Addr) (cs : Int32) (sv : Value) (n : Int32) (c0 : Int32) (c1 : Int32) (c2 : Int32) (q : Int32) (d0 : Int32) (d1 : Int32) (d2 : Int32) (h0 : Heap) (n0 : Nat) (Z0 : n0 ≤ h0.size) (hS : own_Str Z h0 a1 n c0 c1 c2) (hT : own_Str Z h0 a2 q d0 d1 d2) (O0 : Old Z n0 h0) (S__assertionsDisabled : Sta Z Z.heap "java/lang/StringUTF16" "$assertionsDisabled" "Z" (.int (1 : Int32))) (S_HI_BYTE_SHIFT : Sta Z Z.heap "java/lang/StringUTF16" "HI_BYTE_SHIFT" "I" (.int (0 : Int32))) (S_LO_BYTE_SHIFT : Sta Z Z.heap "java/lang/StringUTF16" "LO_BYTE_SHIFT" "I" (.int (8 : Int32))) (S_COMPACT_STRINGS : Sta Z Z.heap "java/lang/String" "COMPACT_STRINGS" "Z" (.int cs)) (hcs : ¬ cs = (0 : Int32)) (S_SIOOBE_FORMATTER : Sta Z Z.heap "jdk/internal/util/Preconditions" "SIOOBE_FORMATTER" "Ljava/util/function/BiFunction;" sv) (hsv : sv = Value.null ∨ ∃ sf : Addr, sv = Value.ref sf) (hn4 : n = (0 : Int32) ∨ n = (1 : Int32) ∨ n = (2 : Int32) ∨ n = (3 : Int32)) (hq4 : q = (0 : Int32) ∨ q = (1 : Int32) ∨ q = (2 : Int32) ∨ q = (3 : Int32)) (hch : ∀ c ∈ (own_ca n c0 c1 c2), own_ch c) (hdh : ∀ c ∈ (own_ca q d0 d1 d2), own_ch c) :
    MetFree l (⟨"com/example/headwright/headwright/Header", "equalsIgnoringAsciiCase", "(Ljava/lang/String;Ljava/lang/String;)Z"⟩ : MethodName) (head1 (Jvm.Cond.code (⟨"com/example/headwright/headwright/Header", "equalsIgnoringAsciiCase", "(Ljava/lang/String;Ljava/lang/String;)Z"⟩ : MethodName) prog_23_method_3_code 3 (some .boolean) :: ws) ({ frames := 5, cells := 0, slots := 0, locals := 84 } : Room)) (fun a U => a = #[(.ref a1), (.ref a2)] ∧ Z.Warmed39 U.vm ∧ U.heap = h0) (fun _ _ _ _ _ => True) (fun _ U o U' => ∃ v L, o = .returned v ∧ Qeqi Z a1 a2 cs sv n c0 c1 c2 q d0 d1 d2 h0 n0 v U'.heap L ∧ FrameEnd U o U' L ({ frames := 5, cells := 0, slots := 0, locals := 84 } : Room).cells ({ frames := 5, cells := 0, slots := 0, locals := 84 } : Room).slots) := by
  refine MetFree.of_bodySF (plainFor_of_name pn_com_example_headwright_headwright_Header) hisR ?_
  intro p e s m args below meth c s₁ Bd hml0 hP hK
  obtain ⟨rfl, hZ, hh⟩ := hP
  have hx := Bd.exec
  have hby := Bd.bytes
  have hml : c.maxLocals = 3 := hml0
  have hown : s.vm.findClass "com/example/headwright/headwright/Header" = some m.cls := findClass_of_methodNamed Bd.named
  have hnm := (name_of_methodNamed Bd.named Bd.method).1
  have X0 : Stand p l e ({ frames := 5, cells := 0, slots := 0, locals := 84 } : Room) s m #[(.ref a1), (.ref a2)] below meth c s₁ [] 0 0 := Stand.of_body Bd
  have e0 : s₁.heap = h0 := by rw [← hh, Bd.state]; rfl
  have es0 : s.heap = h0 := hh
  have N0 := Fr.nil n0
  show own_Fin p e below (Geqi Z a1 a2 cs sv n c0 c1 c2 q d0 d1 d2 h0 n0 s) (s₁.setTop (entryFrame m #[(.ref a1), (.ref a2)] 3))
  rw [ef_eqi m a1 a2]
  have E_a1 := hS.1
  have E_a2 := hT.1
  refine own_go (XS.aloadN X0.here hx rfl (hb hby d8_0) rfl rfl (Steps.refl _)) ?_
  show own_Fin _ _ _ _ (s₁.setTop (mkF m 1 #[rv a1, rv a2, .unset] [(.ref a1)]))
  obtain ⟨cq310, kq310, q310a, q310b, q310c⟩ := isOf hZ e0 E_a1
  obtain ⟨_, _, ⟨T310, L310, k310, n310⟩, -, X310, ⟨Lc310, hQ310, l310, y310, z310⟩, st310⟩ := X0.virtualBack hx (y := (⟨"java/lang/String", "length", "()I"⟩ : MethodName)) (z := (⟨"java/lang/String", "length", "()I"⟩ : MethodName)) hown (mvT hZ (hw _ (List.mem_of_getElem? (i := 41) rfl))) (mvT hZ (hw _ (List.mem_of_getElem? (i := 42) rfl))) (notFace_of_selects (args := #[]) (mvT hZ (hw _ (List.mem_of_getElem? (i := 44) rfl)))) (mvT hZ (hw _ (List.mem_of_getElem? (i := 44) rfl))) (mvT hZ (hw _ (List.mem_of_getElem? (i := 43) rfl))) (by decide) (backOf (W := 0) (rmlen l Z a0 hw [] a1 cs n c0 c1 c2 h0 n0 Z0 hS O0 S_COMPACT_STRINGS hcs hn4) hZ (hw _ (List.mem_of_getElem? (i := 45) rfl)) (hw _ (List.mem_of_getElem? (i := 7) rfl)) (by decide) (by decide)) q310a q310c (g := (mkF m 1 #[rv a1, rv a2, .unset] [(.ref a1)])) rfl (by rw [hml]; rfl) (Steps.refl _) (argsL := []) (rest := []) (lenOf pd__28__29_I rfl) rfl (by show 2 * 0 + _ ≤ _; exact Nat.le_of_eq rfl) (hb hby d8_1) (fun _ hv => ⟨rfl, e0, (by decide : 0 + 0 ≤ _), (by decide : 0 + 0 ≤ _)⟩)
  dsimp only [Pt.U, Pt.locs, Pt.cells, Pt.slots] at X310 l310 y310 z310 st310 hQ310
  subst l310 y310 z310
  obtain ⟨rfl, Nq310, e310⟩ := hQ310
  refine own_go st310 ?_
  have N310 := Fr.app N0 Nq310
  show own_Fin _ _ _ _ (T310.setTop (mkF m 4 #[rv a1, rv a2, .unset] [(.int n)]))
  refine own_go (XS.aloadN X310.here hx rfl (hb hby d8_4) rfl rfl (Steps.refl _)) ?_
  show own_Fin _ _ _ _ (T310.setTop (mkF m 5 #[rv a1, rv a2, .unset] [(.ref a2), (.int n)]))
  obtain ⟨cq311, kq311, q311a, q311b, q311c⟩ := isOf hZ e310 E_a2
  obtain ⟨_, _, ⟨T311, L311, k311, n311⟩, -, X311, ⟨Lc311, hQ311, l311, y311, z311⟩, st311⟩ := X310.virtualBack hx (y := (⟨"java/lang/String", "length", "()I"⟩ : MethodName)) (z := (⟨"java/lang/String", "length", "()I"⟩ : MethodName)) hown (mvT hZ (hw _ (List.mem_of_getElem? (i := 41) rfl))) (mvT hZ (hw _ (List.mem_of_getElem? (i := 42) rfl))) (notFace_of_selects (args := #[]) (mvT hZ (hw _ (List.mem_of_getElem? (i := 44) rfl)))) (mvT hZ (hw _ (List.mem_of_getElem? (i := 44) rfl))) (mvT hZ (hw _ (List.mem_of_getElem? (i := 43) rfl))) (by decide) (backOf (W := 1) (rmlen l Z a0 hw [] a2 cs q d0 d1 d2 h0 n0 Z0 hT O0 S_COMPACT_STRINGS hcs hq4) hZ (hw _ (List.mem_of_getElem? (i := 45) rfl)) (hw _ (List.mem_of_getElem? (i := 7) rfl)) (by decide) (by decide)) q311a q311c (g := (mkF m 5 #[rv a1, rv a2, .unset] [(.ref a2), (.int n)])) rfl (by rw [hml]; rfl) (Steps.refl _) (argsL := []) (rest := [(.int n)]) (lenOf pd__28__29_I rfl) rfl (by show 2 * 0 + _ ≤ _; exact Nat.le_of_eq rfl) (hb hby d8_5) (fun _ hv => ⟨rfl, e310, (by decide : 0 + 0 ≤ _), (by decide : 0 + 0 ≤ _)⟩)
  dsimp only [Pt.U, Pt.locs, Pt.cells, Pt.slots] at X311 l311 y311 z311 st311 hQ311
  subst l311 y311 z311
  obtain ⟨rfl, Nq311, e311⟩ := hQ311
  refine own_go st311 ?_
  have N311 := Fr.app N310 Nq311
  show own_Fin _ _ _ _ (T311.setTop (mkF m 8 #[rv a1, rv a2, .unset] [(.int q), (.int n)]))
  by_cases hnq : n = q
  · refine own_go (XS.icmpYes X311.here hx rfl (pc0 := 8) (pc' := 13) rfl (hb hby d8_8) rfl (teq hnq).1 (by decide) (by decide) (Steps.refl _)) ?_
    show own_Fin _ _ _ _ (T311.setTop (mkF m 13 #[rv a1, rv a2, .unset] []))
    refine own_go (XS.iconst X311.here hx rfl (hb hby d8_13) (Steps.refl _)) ?_
    show own_Fin _ _ _ _ (T311.setTop (mkF m 14 #[rv a1, rv a2, .unset] [(.int (0 : Int32))]))
    refine own_go (XS.istoreN X311.here hx rfl (hb hby d8_14) rfl rfl (Steps.refl _)) ?_
    show own_Fin _ _ _ _ (T311.setTop (mkF m 15 #[rv a1, rv a2, iv (0 : Int32)] []))
    refine own_go (XS.iloadN X311.here hx rfl (hb hby d8_15) rfl (Steps.refl _)) ?_
    show own_Fin _ _ _ _ (T311.setTop (mkF m 16 #[rv a1, rv a2, iv (0 : Int32)] [(.int (0 : Int32))]))
    refine own_go (XS.aloadN X311.here hx rfl (hb hby d8_16) rfl rfl (Steps.refl _)) ?_
    show own_Fin _ _ _ _ (T311.setTop (mkF m 17 #[rv a1, rv a2, iv (0 : Int32)] [(.ref a1), (.int (0 : Int32))]))
    obtain ⟨cq312, kq312, q312a, q312b, q312c⟩ := isOf hZ e311 E_a1
    obtain ⟨_, _, ⟨T312, L312, k312, n312⟩, -, X312, ⟨Lc312, hQ312, l312, y312, z312⟩, st312⟩ := X311.virtualBack hx (y := (⟨"java/lang/String", "length", "()I"⟩ : MethodName)) (z := (⟨"java/lang/String", "length", "()I"⟩ : MethodName)) hown (mvT hZ (hw _ (List.mem_of_getElem? (i := 41) rfl))) (mvT hZ (hw _ (List.mem_of_getElem? (i := 42) rfl))) (notFace_of_selects (args := #[]) (mvT hZ (hw _ (List.mem_of_getElem? (i := 44) rfl)))) (mvT hZ (hw _ (List.mem_of_getElem? (i := 44) rfl))) (mvT hZ (hw _ (List.mem_of_getElem? (i := 43) rfl))) (by decide) (backOf (W := 1) (rmlen l Z a0 hw [] a1 cs n c0 c1 c2 h0 n0 Z0 hS O0 S_COMPACT_STRINGS hcs hn4) hZ (hw _ (List.mem_of_getElem? (i := 45) rfl)) (hw _ (List.mem_of_getElem? (i := 7) rfl)) (by decide) (by decide)) q312a q312c (g := (mkF m 17 #[rv a1, rv a2, iv (0 : Int32)] [(.ref a1), (.int (0 : Int32))])) rfl (by rw [hml]; rfl) (Steps.refl _) (argsL := []) (rest := [(.int (0 : Int32))]) (lenOf pd__28__29_I rfl) rfl (by show 2 * 0 + _ ≤ _; exact Nat.le_of_eq rfl) (hb hby d8_17) (fun _ hv => ⟨rfl, e311, (by decide : 0 + 0 ≤ _), (by decide : 0 + 0 ≤ _)⟩)
    dsimp only [Pt.U, Pt.locs, Pt.cells, Pt.slots] at X312 l312 y312 z312 st312 hQ312
    subst l312 y312 z312
    obtain ⟨rfl, Nq312, e312⟩ := hQ312
    refine own_go st312 ?_
    have N312 := Fr.app N311 Nq312
    show own_Fin _ _ _ _ (T312.setTop (mkF m 20 #[rv a1, rv a2, iv (0 : Int32)] [(.int n), (.int (0 : Int32))]))
    by_cases hx0 : (0 : Int32) < n
    · refine own_go (XS.icmpNo X312.here hx rfl (hb hby d8_20) rfl (tlt hx0).2.1 (Steps.refl _)) ?_
      show own_Fin _ _ _ _ (T312.setTop (mkF m 23 #[rv a1, rv a2, iv (0 : Int32)] []))
      refine own_go (XS.aloadN X312.here hx rfl (hb hby d8_23) rfl rfl (Steps.refl _)) ?_
      show own_Fin _ _ _ _ (T312.setTop (mkF m 24 #[rv a1, rv a2, iv (0 : Int32)] [(.ref a1)]))
      refine own_go (XS.iloadN X312.here hx rfl (hb hby d8_24) rfl (Steps.refl _)) ?_
      show own_Fin _ _ _ _ (T312.setTop (mkF m 25 #[rv a1, rv a2, iv (0 : Int32)] [(.int (0 : Int32)), (.ref a1)]))
      obtain ⟨cq313, kq313, q313a, q313b, q313c⟩ := isOf hZ e312 E_a1
      obtain ⟨_, _, ⟨T313, L313, k313, n313⟩, -, X313, ⟨Lc313, hQ313, l313, y313, z313⟩, st313⟩ := X312.virtualBack hx (y := (⟨"java/lang/String", "charAt", "(I)C"⟩ : MethodName)) (z := (⟨"java/lang/String", "charAt", "(I)C"⟩ : MethodName)) hown (mvT hZ (hw _ (List.mem_of_getElem? (i := 54) rfl))) (mvT hZ (hw _ (List.mem_of_getElem? (i := 55) rfl))) (notFace_of_selects (args := #[]) (mvT hZ (hw _ (List.mem_of_getElem? (i := 57) rfl)))) (mvT hZ (hw _ (List.mem_of_getElem? (i := 57) rfl))) (mvT hZ (hw _ (List.mem_of_getElem? (i := 56) rfl))) (by decide) (backOf (W := 0) (rmcat l Z a0 hw [] a1 (0 : Int32) cs sv n c0 c1 c2 h0 n0 Z0 hS O0 S__assertionsDisabled S_HI_BYTE_SHIFT S_LO_BYTE_SHIFT S_COMPACT_STRINGS hcs S_SIOOBE_FORMATTER hsv hn4 hch (by decide) hx0) hZ (hw _ (List.mem_of_getElem? (i := 58) rfl)) (hw _ (List.mem_of_getElem? (i := 7) rfl)) (by decide) (by decide)) q313a q313c (g := (mkF m 25 #[rv a1, rv a2, iv (0 : Int32)] [(.int (0 : Int32)), (.ref a1)])) rfl (by rw [hml]; rfl) (Steps.refl _) (argsL := [(.int (0 : Int32))]) (rest := []) (lenOf pd__28_I_29_C rfl) rfl (by show 2 * 0 + _ ≤ _; exact Nat.le_of_eq rfl) (hb hby d8_25) (fun _ hv => ⟨rfl, e312, (by decide : 0 + 0 ≤ _), (by decide : 0 + 0 ≤ _)⟩)
      dsimp only [Pt.U, Pt.locs, Pt.cells, Pt.slots] at X313 l313 y313 z313 st313 hQ313
      subst l313 y313 z313
      obtain ⟨rfl, Nq313, e313⟩ := hQ313
      refine own_go st313 ?_
      have N313 := Fr.app N312 Nq313
      show own_Fin _ _ _ _ (T313.setTop (mkF m 28 #[rv a1, rv a2, iv (0 : Int32)] [(.int (own_get (own_ca n c0 c1 c2) (0 : Int32)))]))
      obtain ⟨_, _, ⟨T314, L314, k314, n314⟩, -, X314, ⟨Lc314, hQ314, l314, y314, z314⟩, st314⟩ := Jvm.LawKit.callS X313 hx (y := (⟨"com/example/headwright/headwright/Header", "asciiLower", "(C)C"⟩ : MethodName)) hown (mvT hZ (hw _ (List.mem_of_getElem? (i := 76) rfl))) (mvT hZ (hw _ (List.mem_of_getElem? (i := 77) rfl))) (mvT hZ (hw _ (List.mem_of_getElem? (i := 39) rfl))) (mvT hZ (hw _ (List.mem_of_getElem? (i := 78) rfl))) (by decide) (backOf (W := 0) (rmlow l Z a0 hw [] (own_get (own_ca n c0 c1 c2) (0 : Int32)) h0 n0 Z0) hZ (hw _ (List.mem_of_getElem? (i := 78) rfl)) (hw _ (List.mem_of_getElem? (i := 39) rfl)) (by decide) (by decide)) (g := (mkF m 28 #[rv a1, rv a2, iv (0 : Int32)] [(.int (own_get (own_ca n c0 c1 c2) (0 : Int32)))])) rfl (by rw [hml]; rfl) (argsL := [(.int (own_get (own_ca n c0 c1 c2) (0 : Int32)))]) (rest := []) (lenOf pd__28_C_29_C rfl) rfl (by show 2 * 0 + _ ≤ _; exact Nat.le_of_eq rfl) (hb hby d8_28) (fun _ hv => ⟨rfl, e313, (by decide : 0 + 0 ≤ _), (by decide : 0 + 0 ≤ _)⟩)
      dsimp only [Pt.U, Pt.locs, Pt.cells, Pt.slots] at X314 l314 y314 z314 st314 hQ314
      subst l314 y314 z314
      obtain ⟨rfl, Nq314, e314⟩ := hQ314
      refine own_by st314 ?_
      have N314 := Fr.app N313 Nq314
      show own_Fin _ _ _ _ (T314.setTop (mkF m 31 #[rv a1, rv a2, iv (0 : Int32)] [(.int (own_low (own_get (own_ca n c0 c1 c2) (0 : Int32))))]))
      refine own_go (XS.aloadN X314.here hx rfl (hb hby d8_31) rfl rfl (Steps.refl _)) ?_
      show own_Fin _ _ _ _ (T314.setTop (mkF m 32 #[rv a1, rv a2, iv (0 : Int32)] [(.ref a2), (.int (own_low (own_get (own_ca n c0 c1 c2) (0 : Int32))))]))
      refine own_go (XS.iloadN X314.here hx rfl (hb hby d8_32) rfl (Steps.refl _)) ?_
      show own_Fin _ _ _ _ (T314.setTop (mkF m 33 #[rv a1, rv a2, iv (0 : Int32)] [(.int (0 : Int32)), (.ref a2), (.int (own_low (own_get (own_ca n c0 c1 c2) (0 : Int32))))]))
      obtain ⟨cq315, kq315, q315a, q315b, q315c⟩ := isOf hZ e314 E_a2
      obtain ⟨_, _, ⟨T315, L315, k315, n315⟩, -, X315, ⟨Lc315, hQ315, l315, y315, z315⟩, st315⟩ := X314.virtualBack hx (y := (⟨"java/lang/String", "charAt", "(I)C"⟩ : MethodName)) (z := (⟨"java/lang/String", "charAt", "(I)C"⟩ : MethodName)) hown (mvT hZ (hw _ (List.mem_of_getElem? (i := 54) rfl))) (mvT hZ (hw _ (List.mem_of_getElem? (i := 55) rfl))) (notFace_of_selects (args := #[]) (mvT hZ (hw _ (List.mem_of_getElem? (i := 57) rfl)))) (mvT hZ (hw _ (List.mem_of_getElem? (i := 57) rfl))) (mvT hZ (hw _ (List.mem_of_getElem? (i := 56) rfl))) (by decide) (backOf (W := 1) (rmcat l Z a0 hw [] a2 (0 : Int32) cs sv q d0 d1 d2 h0 n0 Z0 hT O0 S__assertionsDisabled S_HI_BYTE_SHIFT S_LO_BYTE_SHIFT S_COMPACT_STRINGS hcs S_SIOOBE_FORMATTER hsv hq4 hdh (by decide) (hnq ▸ hx0)) hZ (hw _ (List.mem_of_getElem? (i := 58) rfl)) (hw _ (List.mem_of_getElem? (i := 7) rfl)) (by decide) (by decide)) q315a q315c (g := (mkF m 33 #[rv a1, rv a2, iv (0 : Int32)] [(.int (0 : Int32)), (.ref a2), (.int (own_low (own_get (own_ca n c0 c1 c2) (0 : Int32))))])) rfl (by rw [hml]; rfl) (Steps.refl _) (argsL := [(.int (0 : Int32))]) (rest := [(.int (own_low (own_get (own_ca n c0 c1 c2) (0 : Int32))))]) (lenOf pd__28_I_29_C rfl) rfl (by show 2 * 0 + _ ≤ _; exact Nat.le_of_eq rfl) (hb hby d8_33) (fun _ hv => ⟨rfl, e314, (by decide : 0 + 0 ≤ _), (by decide : 0 + 0 ≤ _)⟩)
      dsimp only [Pt.U, Pt.locs, Pt.cells, Pt.slots] at X315 l315 y315 z315 st315 hQ315
      subst l315 y315 z315
      obtain ⟨rfl, Nq315, e315⟩ := hQ315
      refine own_go st315 ?_
      have N315 := Fr.app N314 Nq315
      show own_Fin _ _ _ _ (T315.setTop (mkF m 36 #[rv a1, rv a2, iv (0 : Int32)] [(.int (own_get (own_ca q d0 d1 d2) (0 : Int32))), (.int (own_low (own_get (own_ca n c0 c1 c2) (0 : Int32))))]))
      obtain ⟨_, _, ⟨T316, L316, k316, n316⟩, -, X316, ⟨Lc316, hQ316, l316, y316, z316⟩, st316⟩ := Jvm.LawKit.callS X315 hx (y := (⟨"com/example/headwright/headwright/Header", "asciiLower", "(C)C"⟩ : MethodName)) hown (mvT hZ (hw _ (List.mem_of_getElem? (i := 76) rfl))) (mvT hZ (hw _ (List.mem_of_getElem? (i := 77) rfl))) (mvT hZ (hw _ (List.mem_of_getElem? (i := 39) rfl))) (mvT hZ (hw _ (List.mem_of_getElem? (i := 78) rfl))) (by decide) (backOf (W := 1) (rmlow l Z a0 hw [] (own_get (own_ca q d0 d1 d2) (0 : Int32)) h0 n0 Z0) hZ (hw _ (List.mem_of_getElem? (i := 78) rfl)) (hw _ (List.mem_of_getElem? (i := 39) rfl)) (by decide) (by decide)) (g := (mkF m 36 #[rv a1, rv a2, iv (0 : Int32)] [(.int (own_get (own_ca q d0 d1 d2) (0 : Int32))), (.int (own_low (own_get (own_ca n c0 c1 c2) (0 : Int32))))])) rfl (by rw [hml]; rfl) (argsL := [(.int (own_get (own_ca q d0 d1 d2) (0 : Int32)))]) (rest := [(.int (own_low (own_get (own_ca n c0 c1 c2) (0 : Int32))))]) (lenOf pd__28_C_29_C rfl) rfl (by show 2 * 0 + _ ≤ _; exact Nat.le_of_eq rfl) (hb hby d8_36) (fun _ hv => ⟨rfl, e315, (by decide : 0 + 0 ≤ _), (by decide : 0 + 0 ≤ _)⟩)
      dsimp only [Pt.U, Pt.locs, Pt.cells, Pt.slots] at X316 l316 y316 z316 st316 hQ316
      subst l316 y316 z316
      obtain ⟨rfl, Nq316, e316⟩ := hQ316
      refine own_by st316 ?_
      have N316 := Fr.app N315 Nq316
      show own_Fin _ _ _ _ (T316.setTop (mkF m 39 #[rv a1, rv a2, iv (0 : Int32)] [(.int (own_low (own_get (own_ca q d0 d1 d2) (0 : Int32)))), (.int (own_low (own_get (own_ca n c0 c1 c2) (0 : Int32))))]))
      by_cases he0 : (own_low (own_get (own_ca n c0 c1 c2) (0 : Int32))) = (own_low (own_get (own_ca q d0 d1 d2) (0 : Int32)))
      · refine own_go (XS.icmpYes X316.here hx rfl (pc0 := 39) (pc' := 44) rfl (hb hby d8_39) rfl (teq he0).1 (by decide) (by decide) (Steps.refl _)) ?_
        show own_Fin _ _ _ _ (T316.setTop (mkF m 44 #[rv a1, rv a2, iv (0 : Int32)] []))
        refine own_go (XS.iinc X316.here hx rfl (hb hby d8_44) rfl rfl (Steps.refl _)) ?_
        show own_Fin _ _ _ _ (T316.setTop (mkF m 47 #[rv a1, rv a2, iv (1 : Int32)] []))
        refine own_go (XS.goto X316.here hx rfl (pc0 := 47) (pc' := 15) rfl (hb hby d8_47) (by decide) (by decide) (Steps.refl _)) ?_
        show own_Fin _ _ _ _ (T316.setTop (mkF m 15 #[rv a1, rv a2, iv (1 : Int32)] []))
        refine own_go (XS.iloadN X316.here hx rfl (hb hby d8_15) rfl (Steps.refl _)) ?_
        show own_Fin _ _ _ _ (T316.setTop (mkF m 16 #[rv a1, rv a2, iv (1 : Int32)] [(.int (1 : Int32))]))
        refine own_go (XS.aloadN X316.here hx rfl (hb hby d8_16) rfl rfl (Steps.refl _)) ?_
        show own_Fin _ _ _ _ (T316.setTop (mkF m 17 #[rv a1, rv a2, iv (1 : Int32)] [(.ref a1), (.int (1 : Int32))]))
        obtain ⟨cq317, kq317, q317a, q317b, q317c⟩ := isOf hZ e316 E_a1
        obtain ⟨_, _, ⟨T317, L317, k317, n317⟩, -, X317, ⟨Lc317, hQ317, l317, y317, z317⟩, st317⟩ := X316.virtualBack hx (y := (⟨"java/lang/String", "length", "()I"⟩ : MethodName)) (z := (⟨"java/lang/String", "length", "()I"⟩ : MethodName)) hown (mvT hZ (hw _ (List.mem_of_getElem? (i := 41) rfl))) (mvT hZ (hw _ (List.mem_of_getElem? (i := 42) rfl))) (notFace_of_selects (args := #[]) (mvT hZ (hw _ (List.mem_of_getElem? (i := 44) rfl)))) (mvT hZ (hw _ (List.mem_of_getElem? (i := 44) rfl))) (mvT hZ (hw _ (List.mem_of_getElem? (i := 43) rfl))) (by decide) (backOf (W := 1) (rmlen l Z a0 hw [] a1 cs n c0 c1 c2 h0 n0 Z0 hS O0 S_COMPACT_STRINGS hcs hn4) hZ (hw _ (List.mem_of_getElem? (i := 45) rfl)) (hw _ (List.mem_of_getElem? (i := 7) rfl)) (by decide) (by decide)) q317a q317c (g := (mkF m 17 #[rv a1, rv a2, iv (1 : Int32)] [(.ref a1), (.int (1 : Int32))])) rfl (by rw [hml]; rfl) (Steps.refl _) (argsL := []) (rest := [(.int (1 : Int32))]) (lenOf pd__28__29_I rfl) rfl (by show 2 * 0 + _ ≤ _; exact Nat.le_of_eq rfl) (hb hby d8_17) (fun _ hv => ⟨rfl, e316, (by decide : 0 + 0 ≤ _), (by decide : 0 + 0 ≤ _)⟩)
        dsimp only [Pt.U, Pt.locs, Pt.cells, Pt.slots] at X317 l317 y317 z317 st317 hQ317
        subst l317 y317 z317
        obtain ⟨rfl, Nq317, e317⟩ := hQ317
        refine own_go st317 ?_
        have N317 := Fr.app N316 Nq317
        show own_Fin _ _ _ _ (T317.setTop (mkF m 20 #[rv a1, rv a2, iv (1 : Int32)] [(.int n), (.int (1 : Int32))]))
        by_cases hx1 : (1 : Int32) < n
        · refine own_go (XS.icmpNo X317.here hx rfl (hb hby d8_20) rfl (tlt hx1).2.1 (Steps.refl _)) ?_
          show own_Fin _ _ _ _ (T317.setTop (mkF m 23 #[rv a1, rv a2, iv (1 : Int32)] []))
          refine own_go (XS.aloadN X317.here hx rfl (hb hby d8_23) rfl rfl (Steps.refl _)) ?_
          show own_Fin _ _ _ _ (T317.setTop (mkF m 24 #[rv a1, rv a2, iv (1 : Int32)] [(.ref a1)]))
          refine own_go (XS.iloadN X317.here hx rfl (hb hby d8_24) rfl (Steps.refl _)) ?_
          show own_Fin _ _ _ _ (T317.setTop (mkF m 25 #[rv a1, rv a2, iv (1 : Int32)] [(.int (1 : Int32)), (.ref a1)]))
          obtain ⟨cq318, kq318, q318a, q318b, q318c⟩ := isOf hZ e317 E_a1
          obtain ⟨_, _, ⟨T318, L318, k318, n318⟩, -, X318, ⟨Lc318, hQ318, l318, y318, z318⟩, st318⟩ := X317.virtualBack hx (y := (⟨"java/lang/String", "charAt", "(I)C"⟩ : MethodName)) (z := (⟨"java/lang/String", "charAt", "(I)C"⟩ : MethodName)) hown (mvT hZ (hw _ (List.mem_of_getElem? (i := 54) rfl))) (mvT hZ (hw _ (List.mem_of_getElem? (i := 55) rfl))) (notFace_of_selects (args := #[]) (mvT hZ (hw _ (List.mem_of_getElem? (i := 57) rfl)))) (mvT hZ (hw _ (List.mem_of_getElem? (i := 57) rfl))) (mvT hZ (hw _ (List.mem_of_getElem? (i := 56) rfl))) (by decide) (backOf (W := 0) (rmcat l Z a0 hw [] a1 (1 : Int32) cs sv n c0 c1 c2 h0 n0 Z0 hS O0 S__assertionsDisabled S_HI_BYTE_SHIFT S_LO_BYTE_SHIFT S_COMPACT_STRINGS hcs S_SIOOBE_FORMATTER hsv hn4 hch (by decide) hx1) hZ (hw _ (List.mem_of_getElem? (i := 58) rfl)) (hw _ (List.mem_of_getElem? (i := 7) rfl)) (by decide) (by decide)) q318a q318c (g := (mkF m 25 #[rv a1, rv a2, iv (1 : Int32)] [(.int (1 : Int32)), (.ref a1)])) rfl (by rw [hml]; rfl) (Steps.refl _) (argsL := [(.int (1 : Int32))]) (rest := []) (lenOf pd__28_I_29_C rfl) rfl (by show 2 * 0 + _ ≤ _; exact Nat.le_of_eq rfl) (hb hby d8_25) (fun _ hv => ⟨rfl, e317, (by decide : 0 + 0 ≤ _), (by decide : 0 + 0 ≤ _)⟩)
          dsimp only [Pt.U, Pt.locs, Pt.cells, Pt.slots] at X318 l318 y318 z318 st318 hQ318
          subst l318 y318 z318
          obtain ⟨rfl, Nq318, e318⟩ := hQ318
          refine own_go st318 ?_
          have N318 := Fr.app N317 Nq318
          show own_Fin _ _ _ _ (T318.setTop (mkF m 28 #[rv a1, rv a2, iv (1 : Int32)] [(.int (own_get (own_ca n c0 c1 c2) (1 : Int32)))]))
          obtain ⟨_, _, ⟨T319, L319, k319, n319⟩, -, X319, ⟨Lc319, hQ319, l319, y319, z319⟩, st319⟩ := Jvm.LawKit.callS X318 hx (y := (⟨"com/example/headwright/headwright/Header", "asciiLower", "(C)C"⟩ : MethodName)) hown (mvT hZ (hw _ (List.mem_of_getElem? (i := 76) rfl))) (mvT hZ (hw _ (List.mem_of_getElem? (i := 77) rfl))) (mvT hZ (hw _ (List.mem_of_getElem? (i := 39) rfl))) (mvT hZ (hw _ (List.mem_of_getElem? (i := 78) rfl))) (by decide) (backOf (W := 0) (rmlow l Z a0 hw [] (own_get (own_ca n c0 c1 c2) (1 : Int32)) h0 n0 Z0) hZ (hw _ (List.mem_of_getElem? (i := 78) rfl)) (hw _ (List.mem_of_getElem? (i := 39) rfl)) (by decide) (by decide)) (g := (mkF m 28 #[rv a1, rv a2, iv (1 : Int32)] [(.int (own_get (own_ca n c0 c1 c2) (1 : Int32)))])) rfl (by rw [hml]; rfl) (argsL := [(.int (own_get (own_ca n c0 c1 c2) (1 : Int32)))]) (rest := []) (lenOf pd__28_C_29_C rfl) rfl (by show 2 * 0 + _ ≤ _; exact Nat.le_of_eq rfl) (hb hby d8_28) (fun _ hv => ⟨rfl, e318, (by decide : 0 + 0 ≤ _), (by decide : 0 + 0 ≤ _)⟩)
          dsimp only [Pt.U, Pt.locs, Pt.cells, Pt.slots] at X319 l319 y319 z319 st319 hQ319
          subst l319 y319 z319
          obtain ⟨rfl, Nq319, e319⟩ := hQ319
          refine own_by st319 ?_
          have N319 := Fr.app N318 Nq319
          show own_Fin _ _ _ _ (T319.setTop (mkF m 31 #[rv a1, rv a2, iv (1 : Int32)] [(.int (own_low (own_get (own_ca n c0 c1 c2) (1 : Int32))))]))
          refine own_go (XS.aloadN X319.here hx rfl (hb hby d8_31) rfl rfl (Steps.refl _)) ?_
          show own_Fin _ _ _ _ (T319.setTop (mkF m 32 #[rv a1, rv a2, iv (1 : Int32)] [(.ref a2), (.int (own_low (own_get (own_ca n c0 c1 c2) (1 : Int32))))]))
          refine own_go (XS.iloadN X319.here hx rfl (hb hby d8_32) rfl (Steps.refl _)) ?_
          show own_Fin _ _ _ _ (T319.setTop (mkF m 33 #[rv a1, rv a2, iv (1 : Int32)] [(.int (1 : Int32)), (.ref a2), (.int (own_low (own_get (own_ca n c0 c1 c2) (1 : Int32))))]))
          obtain ⟨cq320, kq320, q320a, q320b, q320c⟩ := isOf hZ e319 E_a2
          obtain ⟨_, _, ⟨T320, L320, k320, n320⟩, -, X320, ⟨Lc320, hQ320, l320, y320, z320⟩, st320⟩ := X319.virtualBack hx (y := (⟨"java/lang/String", "charAt", "(I)C"⟩ : MethodName)) (z := (⟨"java/lang/String", "charAt", "(I)C"⟩ : MethodName)) hown (mvT hZ (hw _ (List.mem_of_getElem? (i := 54) rfl))) (mvT hZ (hw _ (List.mem_of_getElem? (i := 55) rfl))) (notFace_of_selects (args := #[]) (mvT hZ (hw _ (List.mem_of_getElem? (i := 57) rfl)))) (mvT hZ (hw _ (List.mem_of_getElem? (i := 57) rfl))) (mvT hZ (hw _ (List.mem_of_getElem? (i := 56) rfl))) (by decide) (backOf (W := 1) (rmcat l Z a0 hw [] a2 (1 : Int32) cs sv q d0 d1 d2 h0 n0 Z0 hT O0 S__assertionsDisabled S_HI_BYTE_SHIFT S_LO_BYTE_SHIFT S_COMPACT_STRINGS hcs S_SIOOBE_FORMATTER hsv hq4 hdh (by decide) (hnq ▸ hx1)) hZ (hw _ (List.mem_of_getElem? (i := 58) rfl)) (hw _ (List.mem_of_getElem? (i := 7) rfl)) (by decide) (by decide)) q320a q320c (g := (mkF m 33 #[rv a1, rv a2, iv (1 : Int32)] [(.int (1 : Int32)), (.ref a2), (.int (own_low (own_get (own_ca n c0 c1 c2) (1 : Int32))))])) rfl (by rw [hml]; rfl) (Steps.refl _) (argsL := [(.int (1 : Int32))]) (rest := [(.int (own_low (own_get (own_ca n c0 c1 c2) (1 : Int32))))]) (lenOf pd__28_I_29_C rfl) rfl (by show 2 * 0 + _ ≤ _; exact Nat.le_of_eq rfl) (hb hby d8_33) (fun _ hv => ⟨rfl, e319, (by decide : 0 + 0 ≤ _), (by decide : 0 + 0 ≤ _)⟩)
          dsimp only [Pt.U, Pt.locs, Pt.cells, Pt.slots] at X320 l320 y320 z320 st320 hQ320
          subst l320 y320 z320
          obtain ⟨rfl, Nq320, e320⟩ := hQ320
          refine own_go st320 ?_
          have N320 := Fr.app N319 Nq320
          show own_Fin _ _ _ _ (T320.setTop (mkF m 36 #[rv a1, rv a2, iv (1 : Int32)] [(.int (own_get (own_ca q d0 d1 d2) (1 : Int32))), (.int (own_low (own_get (own_ca n c0 c1 c2) (1 : Int32))))]))
          obtain ⟨_, _, ⟨T321, L321, k321, n321⟩, -, X321, ⟨Lc321, hQ321, l321, y321, z321⟩, st321⟩ := Jvm.LawKit.callS X320 hx (y := (⟨"com/example/headwright/headwright/Header", "asciiLower", "(C)C"⟩ : MethodName)) hown (mvT hZ (hw _ (List.mem_of_getElem? (i := 76) rfl))) (mvT hZ (hw _ (List.mem_of_getElem? (i := 77) rfl))) (mvT hZ (hw _ (List.mem_of_getElem? (i := 39) rfl))) (mvT hZ (hw _ (List.mem_of_getElem? (i := 78) rfl))) (by decide) (backOf (W := 1) (rmlow l Z a0 hw [] (own_get (own_ca q d0 d1 d2) (1 : Int32)) h0 n0 Z0) hZ (hw _ (List.mem_of_getElem? (i := 78) rfl)) (hw _ (List.mem_of_getElem? (i := 39) rfl)) (by decide) (by decide)) (g := (mkF m 36 #[rv a1, rv a2, iv (1 : Int32)] [(.int (own_get (own_ca q d0 d1 d2) (1 : Int32))), (.int (own_low (own_get (own_ca n c0 c1 c2) (1 : Int32))))])) rfl (by rw [hml]; rfl) (argsL := [(.int (own_get (own_ca q d0 d1 d2) (1 : Int32)))]) (rest := [(.int (own_low (own_get (own_ca n c0 c1 c2) (1 : Int32))))]) (lenOf pd__28_C_29_C rfl) rfl (by show 2 * 0 + _ ≤ _; exact Nat.le_of_eq rfl) (hb hby d8_36) (fun _ hv => ⟨rfl, e320, (by decide : 0 + 0 ≤ _), (by decide : 0 + 0 ≤ _)⟩)
          dsimp only [Pt.U, Pt.locs, Pt.cells, Pt.slots] at X321 l321 y321 z321 st321 hQ321
          subst l321 y321 z321
          obtain ⟨rfl, Nq321, e321⟩ := hQ321
          refine own_by st321 ?_
          have N321 := Fr.app N320 Nq321
          show own_Fin _ _ _ _ (T321.setTop (mkF m 39 #[rv a1, rv a2, iv (1 : Int32)] [(.int (own_low (own_get (own_ca q d0 d1 d2) (1 : Int32)))), (.int (own_low (own_get (own_ca n c0 c1 c2) (1 : Int32))))]))
          by_cases he1 : (own_low (own_get (own_ca n c0 c1 c2) (1 : Int32))) = (own_low (own_get (own_ca q d0 d1 d2) (1 : Int32)))
          · refine own_go (XS.icmpYes X321.here hx rfl (pc0 := 39) (pc' := 44) rfl (hb hby d8_39) rfl (teq he1).1 (by decide) (by decide) (Steps.refl _)) ?_
            show own_Fin _ _ _ _ (T321.setTop (mkF m 44 #[rv a1, rv a2, iv (1 : Int32)] []))
            refine own_go (XS.iinc X321.here hx rfl (hb hby d8_44) rfl rfl (Steps.refl _)) ?_
            show own_Fin _ _ _ _ (T321.setTop (mkF m 47 #[rv a1, rv a2, iv (2 : Int32)] []))
            refine own_go (XS.goto X321.here hx rfl (pc0 := 47) (pc' := 15) rfl (hb hby d8_47) (by decide) (by decide) (Steps.refl _)) ?_
            show own_Fin _ _ _ _ (T321.setTop (mkF m 15 #[rv a1, rv a2, iv (2 : Int32)] []))
            refine own_go (XS.iloadN X321.here hx rfl (hb hby d8_15) rfl (Steps.refl _)) ?_
            show own_Fin _ _ _ _ (T321.setTop (mkF m 16 #[rv a1, rv a2, iv (2 : Int32)] [(.int (2 : Int32))]))
            refine own_go (XS.aloadN X321.here hx rfl (hb hby d8_16) rfl rfl (Steps.refl _)) ?_
            show own_Fin _ _ _ _ (T321.setTop (mkF m 17 #[rv a1, rv a2, iv (2 : Int32)] [(.ref a1), (.int (2 : Int32))]))
            obtain ⟨cq322, kq322, q322a, q322b, q322c⟩ := isOf hZ e321 E_a1
            obtain ⟨_, _, ⟨T322, L322, k322, n322⟩, -, X322, ⟨Lc322, hQ322, l322, y322, z322⟩, st322⟩ := X321.virtualBack hx (y := (⟨"java/lang/String", "length", "()I"⟩ : MethodName)) (z := (⟨"java/lang/String", "length", "()I"⟩ : MethodName)) hown (mvT hZ (hw _ (List.mem_of_getElem? (i := 41) rfl))) (mvT hZ (hw _ (List.mem_of_getElem? (i := 42) rfl))) (notFace_of_selects (args := #[]) (mvT hZ (hw _ (List.mem_of_getElem? (i := 44) rfl)))) (mvT hZ (hw _ (List.mem_of_getElem? (i := 44) rfl))) (mvT hZ (hw _ (List.mem_of_getElem? (i := 43) rfl))) (by decide) (backOf (W := 1) (rmlen l Z a0 hw [] a1 cs n c0 c1 c2 h0 n0 Z0 hS O0 S_COMPACT_STRINGS hcs hn4) hZ (hw _ (List.mem_of_getElem? (i := 45) rfl)) (hw _ (List.mem_of_getElem? (i := 7) rfl)) (by decide) (by decide)) q322a q322c (g := (mkF m 17 #[rv a1, rv a2, iv (2 : Int32)] [(.ref a1), (.int (2 : Int32))])) rfl (by rw [hml]; rfl) (Steps.refl _) (argsL := []) (rest := [(.int (2 : Int32))]) (lenOf pd__28__29_I rfl) rfl (by show 2 * 0 + _ ≤ _; exact Nat.le_of_eq rfl) (hb hby d8_17) (fun _ hv => ⟨rfl, e321, (by decide : 0 + 0 ≤ _), (by decide : 0 + 0 ≤ _)⟩)
            dsimp only [Pt.U, Pt.locs, Pt.cells, Pt.slots] at X322 l322 y322 z322 st322 hQ322
            subst l322 y322 z322
            obtain ⟨rfl, Nq322, e322⟩ := hQ322
            refine own_go st322 ?_
            have N322 := Fr.app N321 Nq322
            show own_Fin _ _ _ _ (T322.setTop (mkF m 20 #[rv a1, rv a2, iv (2 : Int32)] [(.int n), (.int (2 : Int32))]))
            by_cases hx2 : (2 : Int32) < n
            · refine own_go (XS.icmpNo X322.here hx rfl (hb hby d8_20) rfl (tlt hx2).2.1 (Steps.refl _)) ?_
              show own_Fin _ _ _ _ (T322.setTop (mkF m 23 #[rv a1, rv a2, iv (2 : Int32)] []))
              refine own_go (XS.aloadN X322.here hx rfl (hb hby d8_23) rfl rfl (Steps.refl _)) ?_
              show own_Fin _ _ _ _ (T322.setTop (mkF m 24 #[rv a1, rv a2, iv (2 : Int32)] [(.ref a1)]))
              refine own_go (XS.iloadN X322.here hx rfl (hb hby d8_24) rfl (Steps.refl _)) ?_
              show own_Fin _ _ _ _ (T322.setTop (mkF m 25 #[rv a1, rv a2, iv (2 : Int32)] [(.int (2 : Int32)), (.ref a1)]))
              obtain ⟨cq323, kq323, q323a, q323b, q323c⟩ := isOf hZ e322 E_a1
              obtain ⟨_, _, ⟨T323, L323, k323, n323⟩, -, X323, ⟨Lc323, hQ323, l323, y323, z323⟩, st323⟩ := X322.virtualBack hx (y := (⟨"java/lang/String", "charAt", "(I)C"⟩ : MethodName)) (z := (⟨"java/lang/String", "charAt", "(I)C"⟩ : MethodName)) hown (mvT hZ (hw _ (List.mem_of_getElem? (i := 54) rfl))) (mvT hZ (hw _ (List.mem_of_getElem? (i := 55) rfl))) (notFace_of_selects (args := #[]) (mvT hZ (hw _ (List.mem_of_getElem? (i := 57) rfl)))) (mvT hZ (hw _ (List.mem_of_getElem? (i := 57) rfl))) (mvT hZ (hw _ (List.mem_of_getElem? (i := 56) rfl))) (by decide) (backOf (W := 0) (rmcat l Z a0 hw [] a1 (2 : Int32) cs sv n c0 c1 c2 h0 n0 Z0 hS O0 S__assertionsDisabled S_HI_BYTE_SHIFT S_LO_BYTE_SHIFT S_COMPACT_STRINGS hcs S_SIOOBE_FORMATTER hsv hn4 hch (by decide) hx2) hZ (hw _ (List.mem_of_getElem? (i := 58) rfl)) (hw _ (List.mem_of_getElem? (i := 7) rfl)) (by decide) (by decide)) q323a q323c (g := (mkF m 25 #[rv a1, rv a2, iv (2 : Int32)] [(.int (2 : Int32)), (.ref a1)])) rfl (by rw [hml]; rfl) (Steps.refl _) (argsL := [(.int (2 : Int32))]) (rest := []) (lenOf pd__28_I_29_C rfl) rfl (by show 2 * 0 + _ ≤ _; exact Nat.le_of_eq rfl) (hb hby d8_25) (fun _ hv => ⟨rfl, e322, (by decide : 0 + 0 ≤ _), (by decide : 0 + 0 ≤ _)⟩)
              dsimp only [Pt.U, Pt.locs, Pt.cells, Pt.slots] at X323 l323 y323 z323 st323 hQ323
              subst l323 y323 z323
              obtain ⟨rfl, Nq323, e323⟩ := hQ323
              refine own_go st323 ?_
              have N323 := Fr.app N322 Nq323
              show own_Fin _ _ _ _ (T323.setTop (mkF m 28 #[rv a1, rv a2, iv (2 : Int32)] [(.int (own_get (own_ca n c0 c1 c2) (2 : Int32)))]))
              obtain ⟨_, _, ⟨T324, L324, k324, n324⟩, -, X324, ⟨Lc324, hQ324, l324, y324, z324⟩, st324⟩ := Jvm.LawKit.callS X323 hx (y := (⟨"com/example/headwright/headwright/Header", "asciiLower", "(C)C"⟩ : MethodName)) hown (mvT hZ (hw _ (List.mem_of_getElem? (i := 76) rfl))) (mvT hZ (hw _ (List.mem_of_getElem? (i := 77) rfl))) (mvT hZ (hw _ (List.mem_of_getElem? (i := 39) rfl))) (mvT hZ (hw _ (List.mem_of_getElem? (i := 78) rfl))) (by decide) (backOf (W := 0) (rmlow l Z a0 hw [] (own_get (own_ca n c0 c1 c2) (2 : Int32)) h0 n0 Z0) hZ (hw _ (List.mem_of_getElem? (i := 78) rfl)) (hw _ (List.mem_of_getElem? (i := 39) rfl)) (by decide) (by decide)) (g := (mkF m 28 #[rv a1, rv a2, iv (2 : Int32)] [(.int (own_get (own_ca n c0 c1 c2) (2 : Int32)))])) rfl (by rw [hml]; rfl) (argsL := [(.int (own_get (own_ca n c0 c1 c2) (2 : Int32)))]) (rest := []) (lenOf pd__28_C_29_C rfl) rfl (by show 2 * 0 + _ ≤ _; exact Nat.le_of_eq rfl) (hb hby d8_28) (fun _ hv => ⟨rfl, e323, (by decide : 0 + 0 ≤ _), (by decide : 0 + 0 ≤ _)⟩)
              dsimp only [Pt.U, Pt.locs, Pt.cells, Pt.slots] at X324 l324 y324 z324 st324 hQ324
              subst l324 y324 z324
              obtain ⟨rfl, Nq324, e324⟩ := hQ324
              refine own_by st324 ?_
              have N324 := Fr.app N323 Nq324
              show own_Fin _ _ _ _ (T324.setTop (mkF m 31 #[rv a1, rv a2, iv (2 : Int32)] [(.int (own_low (own_get (own_ca n c0 c1 c2) (2 : Int32))))]))
              refine own_go (XS.aloadN X324.here hx rfl (hb hby d8_31) rfl rfl (Steps.refl _)) ?_
              show own_Fin _ _ _ _ (T324.setTop (mkF m 32 #[rv a1, rv a2, iv (2 : Int32)] [(.ref a2), (.int (own_low (own_get (own_ca n c0 c1 c2) (2 : Int32))))]))
              refine own_go (XS.iloadN X324.here hx rfl (hb hby d8_32) rfl (Steps.refl _)) ?_
              show own_Fin _ _ _ _ (T324.setTop (mkF m 33 #[rv a1, rv a2, iv (2 : Int32)] [(.int (2 : Int32)), (.ref a2), (.int (own_low (own_get (own_ca n c0 c1 c2) (2 : Int32))))]))
              obtain ⟨cq325, kq325, q325a, q325b, q325c⟩ := isOf hZ e324 E_a2
              obtain ⟨_, _, ⟨T325, L325, k325, n325⟩, -, X325, ⟨Lc325, hQ325, l325, y325, z325⟩, st325⟩ := X324.virtualBack hx (y := (⟨"java/lang/String", "charAt", "(I)C"⟩ : MethodName)) (z := (⟨"java/lang/String", "charAt", "(I)C"⟩ : MethodName)) hown (mvT hZ (hw _ (List.mem_of_getElem? (i := 54) rfl))) (mvT hZ (hw _ (List.mem_of_getElem? (i := 55) rfl))) (notFace_of_selects (args := #[]) (mvT hZ (hw _ (List.mem_of_getElem? (i := 57) rfl)))) (mvT hZ (hw _ (List.mem_of_getElem? (i := 57) rfl))) (mvT hZ (hw _ (List.mem_of_getElem? (i := 56) rfl))) (by decide) (backOf (W := 1) (rmcat l Z a0 hw [] a2 (2 : Int32) cs sv q d0 d1 d2 h0 n0 Z0 hT O0 S__assertionsDisabled S_HI_BYTE_SHIFT S_LO_BYTE_SHIFT S_COMPACT_STRINGS hcs S_SIOOBE_FORMATTER hsv hq4 hdh (by decide) (hnq ▸ hx2)) hZ (hw _ (List.mem_of_getElem? (i := 58) rfl)) (hw _ (List.mem_of_getElem? (i := 7) rfl)) (by decide) (by decide)) q325a q325c (g := (mkF m 33 #[rv a1, rv a2, iv (2 : Int32)] [(.int (2 : Int32)), (.ref a2), (.int (own_low (own_get (own_ca n c0 c1 c2) (2 : Int32))))])) rfl (by rw [hml]; rfl) (Steps.refl _) (argsL := [(.int (2 : Int32))]) (rest := [(.int (own_low (own_get (own_ca n c0 c1 c2) (2 : Int32))))]) (lenOf pd__28_I_29_C rfl) rfl (by show 2 * 0 + _ ≤ _; exact Nat.le_of_eq rfl) (hb hby d8_33) (fun _ hv => ⟨rfl, e324, (by decide : 0 + 0 ≤ _), (by decide : 0 + 0 ≤ _)⟩)
              dsimp only [Pt.U, Pt.locs, Pt.cells, Pt.slots] at X325 l325 y325 z325 st325 hQ325
              subst l325 y325 z325
              obtain ⟨rfl, Nq325, e325⟩ := hQ325
              refine own_go st325 ?_
              have N325 := Fr.app N324 Nq325
              show own_Fin _ _ _ _ (T325.setTop (mkF m 36 #[rv a1, rv a2, iv (2 : Int32)] [(.int (own_get (own_ca q d0 d1 d2) (2 : Int32))), (.int (own_low (own_get (own_ca n c0 c1 c2) (2 : Int32))))]))
              obtain ⟨_, _, ⟨T326, L326, k326, n326⟩, -, X326, ⟨Lc326, hQ326, l326, y326, z326⟩, st326⟩ := Jvm.LawKit.callS X325 hx (y := (⟨"com/example/headwright/headwright/Header", "asciiLower", "(C)C"⟩ : MethodName)) hown (mvT hZ (hw _ (List.mem_of_getElem? (i := 76) rfl))) (mvT hZ (hw _ (List.mem_of_getElem? (i := 77) rfl))) (mvT hZ (hw _ (List.mem_of_getElem? (i := 39) rfl))) (mvT hZ (hw _ (List.mem_of_getElem? (i := 78) rfl))) (by decide) (backOf (W := 1) (rmlow l Z a0 hw [] (own_get (own_ca q d0 d1 d2) (2 : Int32)) h0 n0 Z0) hZ (hw _ (List.mem_of_getElem? (i := 78) rfl)) (hw _ (List.mem_of_getElem? (i := 39) rfl)) (by decide) (by decide)) (g := (mkF m 36 #[rv a1, rv a2, iv (2 : Int32)] [(.int (own_get (own_ca q d0 d1 d2) (2 : Int32))), (.int (own_low (own_get (own_ca n c0 c1 c2) (2 : Int32))))])) rfl (by rw [hml]; rfl) (argsL := [(.int (own_get (own_ca q d0 d1 d2) (2 : Int32)))]) (rest := [(.int (own_low (own_get (own_ca n c0 c1 c2) (2 : Int32))))]) (lenOf pd__28_C_29_C rfl) rfl (by show 2 * 0 + _ ≤ _; exact Nat.le_of_eq rfl) (hb hby d8_36) (fun _ hv => ⟨rfl, e325, (by decide : 0 + 0 ≤ _), (by decide : 0 + 0 ≤ _)⟩)
              dsimp only [Pt.U, Pt.locs, Pt.cells, Pt.slots] at X326 l326 y326 z326 st326 hQ326
              subst l326 y326 z326
              obtain ⟨rfl, Nq326, e326⟩ := hQ326
              refine own_by st326 ?_
              have N326 := Fr.app N325 Nq326
              show own_Fin _ _ _ _ (T326.setTop (mkF m 39 #[rv a1, rv a2, iv (2 : Int32)] [(.int (own_low (own_get (own_ca q d0 d1 d2) (2 : Int32)))), (.int (own_low (own_get (own_ca n c0 c1 c2) (2 : Int32))))]))
              by_cases he2 : (own_low (own_get (own_ca n c0 c1 c2) (2 : Int32))) = (own_low (own_get (own_ca q d0 d1 d2) (2 : Int32)))
              · refine own_go (XS.icmpYes X326.here hx rfl (pc0 := 39) (pc' := 44) rfl (hb hby d8_39) rfl (teq he2).1 (by decide) (by decide) (Steps.refl _)) ?_
                show own_Fin _ _ _ _ (T326.setTop (mkF m 44 #[rv a1, rv a2, iv (2 : Int32)] []))
                refine own_go (XS.iinc X326.here hx rfl (hb hby d8_44) rfl rfl (Steps.refl _)) ?_
                show own_Fin _ _ _ _ (T326.setTop (mkF m 47 #[rv a1, rv a2, iv (3 : Int32)] []))
                refine own_go (XS.goto X326.here hx rfl (pc0 := 47) (pc' := 15) rfl (hb hby d8_47) (by decide) (by decide) (Steps.refl _)) ?_
                show own_Fin _ _ _ _ (T326.setTop (mkF m 15 #[rv a1, rv a2, iv (3 : Int32)] []))
                refine own_go (XS.iloadN X326.here hx rfl (hb hby d8_15) rfl (Steps.refl _)) ?_
                show own_Fin _ _ _ _ (T326.setTop (mkF m 16 #[rv a1, rv a2, iv (3 : Int32)] [(.int (3 : Int32))]))
                refine own_go (XS.aloadN X326.here hx rfl (hb hby d8_16) rfl rfl (Steps.refl _)) ?_
                show own_Fin _ _ _ _ (T326.setTop (mkF m 17 #[rv a1, rv a2, iv (3 : Int32)] [(.ref a1), (.int (3 : Int32))]))
                obtain ⟨cq327, kq327, q327a, q327b, q327c⟩ := isOf hZ e326 E_a1
                obtain ⟨_, _, ⟨T327, L327, k327, n327⟩, -, X327, ⟨Lc327, hQ327, l327, y327, z327⟩, st327⟩ := X326.virtualBack hx (y := (⟨"java/lang/String", "length", "()I"⟩ : MethodName)) (z := (⟨"java/lang/String", "length", "()I"⟩ : MethodName)) hown (mvT hZ (hw _ (List.mem_of_getElem? (i := 41) rfl))) (mvT hZ (hw _ (List.mem_of_getElem? (i := 42) rfl))) (notFace_of_selects (args := #[]) (mvT hZ (hw _ (List.mem_of_getElem? (i := 44) rfl)))) (mvT hZ (hw _ (List.mem_of_getElem? (i := 44) rfl))) (mvT hZ (hw _ (List.mem_of_getElem? (i := 43) rfl))) (by decide) (backOf (W := 1) (rmlen l Z a0 hw [] a1 cs n c0 c1 c2 h0 n0 Z0 hS O0 S_COMPACT_STRINGS hcs hn4) hZ (hw _ (List.mem_of_getElem? (i := 45) rfl)) (hw _ (List.mem_of_getElem? (i := 7) rfl)) (by decide) (by decide)) q327a q327c (g := (mkF m 17 #[rv a1, rv a2, iv (3 : Int32)] [(.ref a1), (.int (3 : Int32))])) rfl (by rw [hml]; rfl) (Steps.refl _) (argsL := []) (rest := [(.int (3 : Int32))]) (lenOf pd__28__29_I rfl) rfl (by show 2 * 0 + _ ≤ _; exact Nat.le_of_eq rfl) (hb hby d8_17) (fun _ hv => ⟨rfl, e326, (by decide : 0 + 0 ≤ _), (by decide : 0 + 0 ≤ _)⟩)
                dsimp only [Pt.U, Pt.locs, Pt.cells, Pt.slots] at X327 l327 y327 z327 st327 hQ327
                subst l327 y327 z327
                obtain ⟨rfl, Nq327, e327⟩ := hQ327
                refine own_go st327 ?_
                have N327 := Fr.app N326 Nq327
                show own_Fin _ _ _ _ (T327.setTop (mkF m 20 #[rv a1, rv a2, iv (3 : Int32)] [(.int n), (.int (3 : Int32))]))
                refine own_go (XS.icmpYes X327.here hx rfl (pc0 := 20) (pc' := 50) rfl (hb hby d8_20) rfl (flt (show ¬ ((3 : Int32) < n) from (by rcases hn4 with rfl | rfl | rfl | rfl <;> decide))).2.1 (by decide) (by decide) (Steps.refl _)) ?_
                show own_Fin _ _ _ _ (T327.setTop (mkF m 50 #[rv a1, rv a2, iv (3 : Int32)] []))
                refine own_go (XS.iconst X327.here hx rfl (hb hby d8_50) (Steps.refl _)) ?_
                show own_Fin _ _ _ _ (T327.setTop (mkF m 51 #[rv a1, rv a2, iv (3 : Int32)] [(.int (1 : Int32))]))
                obtain ⟨fs328, hr328, hrun328, hended328, hW328, hsame328⟩ := X327.leave (v := some (.int (1 : Int32))) (fun h => by rw [Bd.returns] at h; cases h)
                refine own_done (retN X327 hx (t := .boolean) Bd.returns (by simp) (hb hby d8_51) hr328) hrun328 hended328 ⟨_, _, rfl, ?_, ⟨_, rfl⟩, hW328, hsame328.mono (by decide) (by decide)⟩
                show Qeqi Z a1 a2 cs sv n c0 c1 c2 q d0 d1 d2 h0 n0 _ T327.heap _
                rw [e327]
                exact ⟨(by rw [own_eqv, if_pos hnq, if_pos hx0, if_pos he0, if_pos hx1, if_pos he1, if_pos hx2, if_pos he2]), N327, rfl⟩
              · refine own_go (XS.icmpNo X326.here hx rfl (hb hby d8_39) rfl (feq he2).1 (Steps.refl _)) ?_
                show own_Fin _ _ _ _ (T326.setTop (mkF m 42 #[rv a1, rv a2, iv (2 : Int32)] []))
                refine own_go (XS.iconst X326.here hx rfl (hb hby d8_42) (Steps.refl _)) ?_
                show own_Fin _ _ _ _ (T326.setTop (mkF m 43 #[rv a1, rv a2, iv (2 : Int32)] [(.int (0 : Int32))]))
                obtain ⟨fs329, hr329, hrun329, hended329, hW329, hsame329⟩ := X326.leave (v := some (.int (0 : Int32))) (fun h => by rw [Bd.returns] at h; cases h)
                refine own_done (retN X326 hx (t := .boolean) Bd.returns (by simp) (hb hby d8_43) hr329) hrun329 hended329 ⟨_, _, rfl, ?_, ⟨_, rfl⟩, hW329, hsame329.mono (by decide) (by decide)⟩
                show Qeqi Z a1 a2 cs sv n c0 c1 c2 q d0 d1 d2 h0 n0 _ T326.heap _
                rw [e326]
                exact ⟨(by rw [own_eqv, if_pos hnq, if_pos hx0, if_pos he0, if_pos hx1, if_pos he1, if_pos hx2, if_neg he2]), N326, rfl⟩
            · refine own_go (XS.icmpYes X322.here hx rfl (pc0 := 20) (pc' := 50) rfl (hb hby d8_20) rfl (flt hx2).2.1 (by decide) (by decide) (Steps.refl _)) ?_
              show own_Fin _ _ _ _ (T322.setTop (mkF m 50 #[rv a1, rv a2, iv (2 : Int32)] []))
              refine own_go (XS.iconst X322.here hx rfl (hb hby d8_50) (Steps.refl _)) ?_
              show own_Fin _ _ _ _ (T322.setTop (mkF m 51 #[rv a1, rv a2, iv (2 : Int32)] [(.int (1 : Int32))]))
              obtain ⟨fs330, hr330, hrun330, hended330, hW330, hsame330⟩ := X322.leave (v := some (.int (1 : Int32))) (fun h => by rw [Bd.returns] at h; cases h)
              refine own_done (retN X322 hx (t := .boolean) Bd.returns (by simp) (hb hby d8_51) hr330) hrun330 hended330 ⟨_, _, rfl, ?_, ⟨_, rfl⟩, hW330, hsame330.mono (by decide) (by decide)⟩
              show Qeqi Z a1 a2 cs sv n c0 c1 c2 q d0 d1 d2 h0 n0 _ T322.heap _
              rw [e322]
              exact ⟨(by rw [own_eqv, if_pos hnq, if_pos hx0, if_pos he0, if_pos hx1, if_pos he1, if_neg hx2]), N322, rfl⟩
          · refine own_go (XS.icmpNo X321.here hx rfl (hb hby d8_39) rfl (feq he1).1 (Steps.refl _)) ?_
            show own_Fin _ _ _ _ (T321.setTop (mkF m 42 #[rv a1, rv a2, iv (1 : Int32)] []))
            refine own_go (XS.iconst X321.here hx rfl (hb hby d8_42) (Steps.refl _)) ?_
            show own_Fin _ _ _ _ (T321.setTop (mkF m 43 #[rv a1, rv a2, iv (1 : Int32)] [(.int (0 : Int32))]))
            obtain ⟨fs331, hr331, hrun331, hended331, hW331, hsame331⟩ := X321.leave (v := some (.int (0 : Int32))) (fun h => by rw [Bd.returns] at h; cases h)
            refine own_done (retN X321 hx (t := .boolean) Bd.returns (by simp) (hb hby d8_43) hr331) hrun331 hended331 ⟨_, _, rfl, ?_, ⟨_, rfl⟩, hW331, hsame331.mono (by decide) (by decide)⟩
            show Qeqi Z a1 a2 cs sv n c0 c1 c2 q d0 d1 d2 h0 n0 _ T321.heap _
            rw [e321]
            exact ⟨(by rw [own_eqv, if_pos hnq, if_pos hx0, if_pos he0, if_pos hx1, if_neg he1]), N321, rfl⟩
        · refine own_go (XS.icmpYes X317.here hx rfl (pc0 := 20) (pc' := 50) rfl (hb hby d8_20) rfl (flt hx1).2.1 (by decide) (by decide) (Steps.refl _)) ?_
          show own_Fin _ _ _ _ (T317.setTop (mkF m 50 #[rv a1, rv a2, iv (1 : Int32)] []))
          refine own_go (XS.iconst X317.here hx rfl (hb hby d8_50) (Steps.refl _)) ?_
          show own_Fin _ _ _ _ (T317.setTop (mkF m 51 #[rv a1, rv a2, iv (1 : Int32)] [(.int (1 : Int32))]))
          obtain ⟨fs332, hr332, hrun332, hended332, hW332, hsame332⟩ := X317.leave (v := some (.int (1 : Int32))) (fun h => by rw [Bd.returns] at h; cases h)
          refine own_done (retN X317 hx (t := .boolean) Bd.returns (by simp) (hb hby d8_51) hr332) hrun332 hended332 ⟨_, _, rfl, ?_, ⟨_, rfl⟩, hW332, hsame332.mono (by decide) (by decide)⟩
          show Qeqi Z a1 a2 cs sv n c0 c1 c2 q d0 d1 d2 h0 n0 _ T317.heap _
          rw [e317]
          exact ⟨(by rw [own_eqv, if_pos hnq, if_pos hx0, if_pos he0, if_neg hx1]), N317, rfl⟩
      · refine own_go (XS.icmpNo X316.here hx rfl (hb hby d8_39) rfl (feq he0).1 (Steps.refl _)) ?_
        show own_Fin _ _ _ _ (T316.setTop (mkF m 42 #[rv a1, rv a2, iv (0 : Int32)] []))
        refine own_go (XS.iconst X316.here hx rfl (hb hby d8_42) (Steps.refl _)) ?_
        show own_Fin _ _ _ _ (T316.setTop (mkF m 43 #[rv a1, rv a2, iv (0 : Int32)] [(.int (0 : Int32))]))
        obtain ⟨fs333, hr333, hrun333, hended333, hW333, hsame333⟩ := X316.leave (v := some (.int (0 : Int32))) (fun h => by rw [Bd.returns] at h; cases h)
        refine own_done (retN X316 hx (t := .boolean) Bd.returns (by simp) (hb hby d8_43) hr333) hrun333 hended333 ⟨_, _, rfl, ?_, ⟨_, rfl⟩, hW333, hsame333.mono (by decide) (by decide)⟩
        show Qeqi Z a1 a2 cs sv n c0 c1 c2 q d0 d1 d2 h0 n0 _ T316.heap _
        rw [e316]
        exact ⟨(by rw [own_eqv, if_pos hnq, if_pos hx0, if_neg he0]), N316, rfl⟩
    · refine own_go (XS.icmpYes X312.here hx rfl (pc0 := 20) (pc' := 50) rfl (hb hby d8_20) rfl (flt hx0).2.1 (by decide) (by decide) (Steps.refl _)) ?_
      show own_Fin _ _ _ _ (T312.setTop (mkF m 50 #[rv a1, rv a2, iv (0 : Int32)] []))
      refine own_go (XS.iconst X312.here hx rfl (hb hby d8_50) (Steps.refl _)) ?_
      show own_Fin _ _ _ _ (T312.setTop (mkF m 51 #[rv a1, rv a2, iv (0 : Int32)] [(.int (1 : Int32))]))
      obtain ⟨fs334, hr334, hrun334, hended334, hW334, hsame334⟩ := X312.leave (v := some (.int (1 : Int32))) (fun h => by rw [Bd.returns] at h; cases h)
      refine own_done (retN X312 hx (t := .boolean) Bd.returns (by simp) (hb hby d8_51) hr334) hrun334 hended334 ⟨_, _, rfl, ?_, ⟨_, rfl⟩, hW334, hsame334.mono (by decide) (by decide)⟩
      show Qeqi Z a1 a2 cs sv n c0 c1 c2 q d0 d1 d2 h0 n0 _ T312.heap _
      rw [e312]
      exact ⟨(by rw [own_eqv, if_pos hnq, if_neg hx0]), N312, rfl⟩
  · refine own_go (XS.icmpNo X311.here hx rfl (hb hby d8_8) rfl (feq hnq).1 (Steps.refl _)) ?_
    show own_Fin _ _ _ _ (T311.setTop (mkF m 11 #[rv a1, rv a2, .unset] []))
    refine own_go (XS.iconst X311.here hx rfl (hb hby d8_11) (Steps.refl _)) ?_
    show own_Fin _ _ _ _ (T311.setTop (mkF m 12 #[rv a1, rv a2, .unset] [(.int (0 : Int32))]))
    obtain ⟨fs335, hr335, hrun335, hended335, hW335, hsame335⟩ := X311.leave (v := some (.int (0 : Int32))) (fun h => by rw [Bd.returns] at h; cases h)
    refine own_done (retN X311 hx (t := .boolean) Bd.returns (by simp) (hb hby d8_12) hr335) hrun335 hended335 ⟨_, _, rfl, ?_, ⟨_, rfl⟩, hW335, hsame335.mono (by decide) (by decide)⟩
    show Qeqi Z a1 a2 cs sv n c0 c1 c2 q d0 d1 d2 h0 n0 _ T311.heap _
    rw [e311]
    exact ⟨(by rw [own_eqv, if_neg hnq]), N311, rfl⟩
theorem ef_0 (m : MethodId) (x0 : Int32) (x1 : Int32) (x2 : Int32) (x3 : Int32) (x4 : Int32) : entryFrame m #[(.int x0), (.int x1), (.int x2), (.int x3), (.int x4)] maxLocals = mkF m 0 #[.val (.int x0), .val (.int x1), .val (.int x2), .val (.int x3), .val (.int x4), .unset, .unset, .unset, .unset, .unset, .unset, .unset, .unset, .unset, .unset, .unset, .unset] [] := by first | (simp [entryFrame, mkF, argsToLocals, Value.category, maxLocals]; done) | rfl
def Q0 (Z : State) (p1 : Int32) (p2 : Int32) (p3 : Int32) (p4 : Int32) (p5 : Int32) (cs : Int32) (sv : Value) (h0 : Heap) (n0 : Nat) (v : Option Value) (h : Heap) (L : List Loc) : Prop := v = some (.int 1) ∧ Fr n0 L
abbrev G0 (Z : State) (p1 : Int32) (p2 : Int32) (p3 : Int32) (p4 : Int32) (p5 : Int32) (cs : Int32) (sv : Value) (h0 : Heap) (n0 : Nat) (s : State) : Outcome → State → Prop := fun o U' => ∃ v L, o = .returned v ∧ Q0 Z p1 p2 p3 p4 p5 cs sv h0 n0 v U'.heap L ∧ ReturnedEndW s o U' L 24 1152
theorem pd__28_CII_29_C : parseMethodDescriptor "(CII)C" = some ⟨[.char, .int, .int], some .char⟩ := by decide +kernel
theorem pd__28__5b_C_29_V : parseMethodDescriptor "([C)V" = some ⟨[(.array .char)], none⟩ := by decide +kernel
theorem pd__28_Ljava_2f_lang_2f_String_3b_Ljava_2f_lang_2f_String_3b__29_Z : parseMethodDescriptor "(Ljava/lang/String;Ljava/lang/String;)Z" = some ⟨[(.object "java/lang/String"), (.object "java/lang/String")], some .boolean⟩ := by decide +kernel
theorem pd__28_CC_29_Z : parseMethodDescriptor "(CC)Z" = some ⟨[.char, .char], some .boolean⟩ := by decide +kernel
set_option maxRecDepth 65536 in
set_option maxHeartbeats 40000000 in
theorem rm0 (l : Launch) (Z : State) (a0 : Array Value) (hw : ∀ d ∈ tables_1, d.before a0 Z = true) (ws : List Jvm.Cond) (p1 : Int32) (p2 : Int32) (p3 : Int32) (p4 : Int32) (p5 : Int32) (cs : Int32) (sv : Value) (h0 : Heap) (n0 : Nat) (Z0 : n0 ≤ h0.size) (O0 : Old Z n0 h0) (S__assertionsDisabled : Sta Z Z.heap "java/lang/StringUTF16" "$assertionsDisabled" "Z" (.int (1 : Int32))) (S_HI_BYTE_SHIFT : Sta Z Z.heap "java/lang/StringUTF16" "HI_BYTE_SHIFT" "I" (.int (0 : Int32))) (S_LO_BYTE_SHIFT : Sta Z Z.heap "java/lang/StringUTF16" "LO_BYTE_SHIFT" "I" (.int (8 : Int32))) (S_COMPACT_STRINGS : Sta Z Z.heap "java/lang/String" "COMPACT_STRINGS" "Z" (.int cs)) (S_SIOOBE_FORMATTER : Sta Z Z.heap "jdk/internal/util/Preconditions" "SIOOBE_FORMATTER" "Ljava/util/function/BiFunction;" sv) (hcs : ¬ cs = (0 : Int32)) (hsv : sv = Value.null ∨ ∃ sf : Addr, sv = Value.ref sf) (hh7 : Jvm.Lit.constHeld Z "java/lang/String" 7) (hcw : Jvm.Lit.compactW.before a0 Z = true) :
    MetFree l x (head1 (Jvm.Cond.code x code maxLocals ret :: ws) room_1) (fun a U => a = #[(.int p1), (.int p2), (.int p3), (.int p4), (.int p5)] ∧ (Z.Warmed39 U.vm ∧ Z = U) ∧ U.heap = h0) (fun _ _ _ _ _ => True) (fun _ U o U' => ∃ v L, o = .returned v ∧ Q0 Z p1 p2 p3 p4 p5 cs sv h0 n0 v U'.heap L ∧ ReturnedEndW U o U' L 24 1152) := by
  refine MetFree.of_bodySF (plainFor_of_name pn_com_example_headwright_headwright_HeaderEqualsIgnoringAsciiCasePinLaw) hisR ?_
  intro p e s m args below meth c s₁ Bd hml0 hP hK
  obtain ⟨rfl, ⟨hZ, hZs⟩, hh⟩ := hP
  have hx := Bd.exec
  have hby := Bd.bytes
  have hml : c.maxLocals = 17 := hml0
  have hown : s.vm.findClass "com/example/headwright/headwright/HeaderEqualsIgnoringAsciiCasePinLaw" = some m.cls := findClass_of_methodNamed Bd.named
  have hnm := (name_of_methodNamed Bd.named Bd.method).1
  have X0 : Stand p l e room_1 s m #[(.int p1), (.int p2), (.int p3), (.int p4), (.int p5)] below meth c s₁ [] 0 0 := Stand.of_body Bd
  have e0 : s₁.heap = h0 := by rw [← hh, Bd.state]; rfl
  have es0 : s.heap = h0 := hh
  have N0 := Fr.nil n0
  show own_Fin p e below (G0 Z p1 p2 p3 p4 p5 cs sv h0 n0 s) (s₁.setTop (entryFrame m #[(.int p1), (.int p2), (.int p3), (.int p4), (.int p5)] maxLocals))
  rw [ef_0 m p1 p2 p3 p4 p5]
  have X0w : Stand p l e room_1 (s.setVm s.vm) m #[(.int p1), (.int p2), (.int p3), (.int p4), (.int p5)] below meth c s₁ [] 0 0 := X0
  have hS0 : s.Since s.vm 0 := (State.WarmedH.refl s).since 0
  have hk0 : 0 ≤ h0.size := Nat.zero_le _
  have IB0 : IB Z s.vm [] := hZs ▸ IB.start
  refine own_go (XS.iloadN X0w.here hx rfl (hb hby at_0) rfl (Steps.refl _)) ?_
  show own_Fin _ _ _ _ (s₁.setTop (mkF m 1 #[iv p1, iv p2, iv p3, iv p4, iv p5, .unset, .unset, .unset, .unset, .unset, .unset, .unset, .unset, .unset, .unset, .unset, .unset] [(.int p4)]))
  refine own_go (XS.iconst X0w.here hx rfl (hb hby at_1) (Steps.refl _)) ?_
  show own_Fin _ _ _ _ (s₁.setTop (mkF m 2 #[iv p1, iv p2, iv p3, iv p4, iv p5, .unset, .unset, .unset, .unset, .unset, .unset, .unset, .unset, .unset, .unset, .unset, .unset] [(.int (3 : Int32)), (.int p4)]))
  refine own_go (XS.iand X0w.here hx rfl (hb hby at_2) rfl (Steps.refl _)) ?_
  show own_Fin _ _ _ _ (s₁.setTop (mkF m 3 #[iv p1, iv p2, iv p3, iv p4, iv p5, .unset, .unset, .unset, .unset, .unset, .unset, .unset, .unset, .unset, .unset, .unset, .unset] [(.int (p4 &&& (3 : Int32)))]))
  refine own_go (XS.istore X0w.here hx rfl (hb hby at_3) rfl rfl (Steps.refl _)) ?_
  show own_Fin _ _ _ _ (s₁.setTop (mkF m 5 #[iv p1, iv p2, iv p3, iv p4, iv p5, iv (p4 &&& (3 : Int32)), .unset, .unset, .unset, .unset, .unset, .unset, .unset, .unset, .unset, .unset, .unset] []))
  generalize hz_v5_336 : (p4 &&& (3 : Int32)) = v5_336
  refine own_go (XS.iloadN X0w.here hx rfl (hb hby at_5) rfl (Steps.refl _)) ?_
  show own_Fin _ _ _ _ (s₁.setTop (mkF m 6 #[iv p1, iv p2, iv p3, iv p4, iv p5, iv v5_336, .unset, .unset, .unset, .unset, .unset, .unset, .unset, .unset, .unset, .unset, .unset] [(.int p3)]))
  refine own_go (XS.iconst X0w.here hx rfl (hb hby at_6) (Steps.refl _)) ?_
  show own_Fin _ _ _ _ (s₁.setTop (mkF m 7 #[iv p1, iv p2, iv p3, iv p4, iv p5, iv v5_336, .unset, .unset, .unset, .unset, .unset, .unset, .unset, .unset, .unset, .unset, .unset] [(.int (1 : Int32)), (.int p3)]))
  refine own_go (XS.iand X0w.here hx rfl (hb hby at_7) rfl (Steps.refl _)) ?_
  show own_Fin _ _ _ _ (s₁.setTop (mkF m 8 #[iv p1, iv p2, iv p3, iv p4, iv p5, iv v5_336, .unset, .unset, .unset, .unset, .unset, .unset, .unset, .unset, .unset, .unset, .unset] [(.int (p3 &&& (1 : Int32)))]))
  have di337 : Steps p.tables e below (s₁.setTop (mkF m 8 #[iv p1, iv p2, iv p3, iv p4, iv p5, iv v5_336, .unset, .unset, .unset, .unset, .unset, .unset, .unset, .unset, .unset, .unset, .unset] [(.int (p3 &&& (1 : Int32)))])) (s₁.setTop (mkF m 20 #[iv p1, iv p2, iv p3, iv p4, iv p5, iv v5_336, .unset, .unset, .unset, .unset, .unset, .unset, .unset, .unset, .unset, .unset, .unset] [(.int (own_sel (p3 &&& (1 : Int32)) v5_336 (p5 &&& (3 : Int32))))])) := by
    by_cases c8_338 : (p3 &&& (1 : Int32)) = (0 : Int32)
    · refine XS.ifYes X0w.here hx rfl (pc0 := 8) (pc' := 16) rfl (hb hby at_8) rfl ((if0 _ _).trans (teq c8_338).1) (by decide) (by decide) ?_
      show Steps _ _ _ (s₁.setTop (mkF m 16 #[iv p1, iv p2, iv p3, iv p4, iv p5, iv v5_336, .unset, .unset, .unset, .unset, .unset, .unset, .unset, .unset, .unset, .unset, .unset] [])) _
      refine XS.iload X0w.here hx rfl (hb hby at_16) rfl ?_
      show Steps _ _ _ (s₁.setTop (mkF m 18 #[iv p1, iv p2, iv p3, iv p4, iv p5, iv v5_336, .unset, .unset, .unset, .unset, .unset, .unset, .unset, .unset, .unset, .unset, .unset] [(.int p5)])) _
      refine XS.iconst X0w.here hx rfl (hb hby at_18) ?_
      show Steps _ _ _ (s₁.setTop (mkF m 19 #[iv p1, iv p2, iv p3, iv p4, iv p5, iv v5_336, .unset, .unset, .unset, .unset, .unset, .unset, .unset, .unset, .unset, .unset, .unset] [(.int (3 : Int32)), (.int p5)])) _
      refine XS.iand X0w.here hx rfl (hb hby at_19) rfl ?_
      show Steps _ _ _ (s₁.setTop (mkF m 20 #[iv p1, iv p2, iv p3, iv p4, iv p5, iv v5_336, .unset, .unset, .unset, .unset, .unset, .unset, .unset, .unset, .unset, .unset, .unset] [(.int (p5 &&& (3 : Int32)))])) _
      rw [show (own_sel (p3 &&& (1 : Int32)) v5_336 (p5 &&& (3 : Int32))) = (p5 &&& (3 : Int32)) from by simp [own_sel, c8_338]]; exact Steps.refl _
    · refine XS.ifNo X0w.here hx rfl (hb hby at_8) rfl ((if0 _ _).trans (feq c8_338).1) ?_
      show Steps _ _ _ (s₁.setTop (mkF m 11 #[iv p1, iv p2, iv p3, iv p4, iv p5, iv v5_336, .unset, .unset, .unset, .unset, .unset, .unset, .unset, .unset, .unset, .unset, .unset] [])) _
      refine XS.iload X0w.here hx rfl (hb hby at_11) rfl ?_
      show Steps _ _ _ (s₁.setTop (mkF m 13 #[iv p1, iv p2, iv p3, iv p4, iv p5, iv v5_336, .unset, .unset, .unset, .unset, .unset, .unset, .unset, .unset, .unset, .unset, .unset] [(.int v5_336)])) _
      refine XS.goto X0w.here hx rfl (pc0 := 13) (pc' := 20) rfl (hb hby at_13) (by decide) (by decide) ?_
      show Steps _ _ _ (s₁.setTop (mkF m 20 #[iv p1, iv p2, iv p3, iv p4, iv p5, iv v5_336, .unset, .unset, .unset, .unset, .unset, .unset, .unset, .unset, .unset, .unset, .unset] [(.int v5_336)])) _
      rw [show (own_sel (p3 &&& (1 : Int32)) v5_336 (p5 &&& (3 : Int32))) = v5_336 from by simp [own_sel, c8_338]]; exact Steps.refl _
  refine own_go di337 ?_
  show own_Fin _ _ _ _ (s₁.setTop (mkF m 20 #[iv p1, iv p2, iv p3, iv p4, iv p5, iv v5_336, .unset, .unset, .unset, .unset, .unset, .unset, .unset, .unset, .unset, .unset, .unset] [(.int (own_sel (p3 &&& (1 : Int32)) v5_336 (p5 &&& (3 : Int32))))]))
  refine own_go (XS.istore X0w.here hx rfl (hb hby at_20) rfl rfl (Steps.refl _)) ?_
  show own_Fin _ _ _ _ (s₁.setTop (mkF m 22 #[iv p1, iv p2, iv p3, iv p4, iv p5, iv v5_336, iv (own_sel (p3 &&& (1 : Int32)) v5_336 (p5 &&& (3 : Int32))), .unset, .unset, .unset, .unset, .unset, .unset, .unset, .unset, .unset, .unset] []))
  generalize hz_v6_339 : (own_sel (p3 &&& (1 : Int32)) v5_336 (p5 &&& (3 : Int32))) = v6_339
  refine own_go (XS.iloadN X0w.here hx rfl (hb hby at_22) rfl (Steps.refl _)) ?_
  show own_Fin _ _ _ _ (s₁.setTop (mkF m 23 #[iv p1, iv p2, iv p3, iv p4, iv p5, iv v5_336, iv v6_339, .unset, .unset, .unset, .unset, .unset, .unset, .unset, .unset, .unset, .unset] [(.int p1)]))
  refine own_go (XS.sipush X0w.here hx rfl (hb hby at_23) (Steps.refl _)) ?_
  show own_Fin _ _ _ _ (s₁.setTop (mkF m 26 #[iv p1, iv p2, iv p3, iv p4, iv p5, iv v5_336, iv v6_339, .unset, .unset, .unset, .unset, .unset, .unset, .unset, .unset, .unset, .unset] [(.int (255 : Int32)), (.int p1)]))
  refine own_go (XS.iand X0w.here hx rfl (hb hby at_26) rfl (Steps.refl _)) ?_
  show own_Fin _ _ _ _ (s₁.setTop (mkF m 27 #[iv p1, iv p2, iv p3, iv p4, iv p5, iv v5_336, iv v6_339, .unset, .unset, .unset, .unset, .unset, .unset, .unset, .unset, .unset, .unset] [(.int (p1 &&& (255 : Int32)))]))
  refine own_go (XS.i2c X0w.here hx rfl (hb hby at_27) rfl (Steps.refl _)) ?_
  show own_Fin _ _ _ _ (s₁.setTop (mkF m 28 #[iv p1, iv p2, iv p3, iv p4, iv p5, iv v5_336, iv v6_339, .unset, .unset, .unset, .unset, .unset, .unset, .unset, .unset, .unset, .unset] [(.int ((p1 &&& (255 : Int32)).toUInt32.toUInt16.toUInt32.toInt32))]))
  refine own_go (XS.istore X0w.here hx rfl (hb hby at_28) rfl rfl (Steps.refl _)) ?_
  show own_Fin _ _ _ _ (s₁.setTop (mkF m 30 #[iv p1, iv p2, iv p3, iv p4, iv p5, iv v5_336, iv v6_339, iv ((p1 &&& (255 : Int32)).toUInt32.toUInt16.toUInt32.toInt32), .unset, .unset, .unset, .unset, .unset, .unset, .unset, .unset, .unset] []))
  generalize hz_v7_340 : ((p1 &&& (255 : Int32)).toUInt32.toUInt16.toUInt32.toInt32) = v7_340
  refine own_go (XS.iloadN X0w.here hx rfl (hb hby at_30) rfl (Steps.refl _)) ?_
  show own_Fin _ _ _ _ (s₁.setTop (mkF m 31 #[iv p1, iv p2, iv p3, iv p4, iv p5, iv v5_336, iv v6_339, iv v7_340, .unset, .unset, .unset, .unset, .unset, .unset, .unset, .unset, .unset] [(.int p1)]))
  refine own_go (XS.bipush X0w.here hx rfl (hb hby at_31) (Steps.refl _)) ?_
  show own_Fin _ _ _ _ (s₁.setTop (mkF m 33 #[iv p1, iv p2, iv p3, iv p4, iv p5, iv v5_336, iv v6_339, iv v7_340, .unset, .unset, .unset, .unset, .unset, .unset, .unset, .unset, .unset] [(.int (8 : Int32)), (.int p1)]))
  refine own_go (XS.iushr X0w.here hx rfl (hb hby at_33) rfl (Steps.refl _)) ?_
  show own_Fin _ _ _ _ (s₁.setTop (mkF m 34 #[iv p1, iv p2, iv p3, iv p4, iv p5, iv v5_336, iv v6_339, iv v7_340, .unset, .unset, .unset, .unset, .unset, .unset, .unset, .unset, .unset] [(.int ((p1.toUInt32 >>> ((8 : Int32) &&& 31).toUInt32).toInt32))]))
  refine own_go (XS.sipush X0w.here hx rfl (hb hby at_34) (Steps.refl _)) ?_
  show own_Fin _ _ _ _ (s₁.setTop (mkF m 37 #[iv p1, iv p2, iv p3, iv p4, iv p5, iv v5_336, iv v6_339, iv v7_340, .unset, .unset, .unset, .unset, .unset, .unset, .unset, .unset, .unset] [(.int (255 : Int32)), (.int ((p1.toUInt32 >>> ((8 : Int32) &&& 31).toUInt32).toInt32))]))
  refine own_go (XS.iand X0w.here hx rfl (hb hby at_37) rfl (Steps.refl _)) ?_
  show own_Fin _ _ _ _ (s₁.setTop (mkF m 38 #[iv p1, iv p2, iv p3, iv p4, iv p5, iv v5_336, iv v6_339, iv v7_340, .unset, .unset, .unset, .unset, .unset, .unset, .unset, .unset, .unset] [(.int (((p1.toUInt32 >>> ((8 : Int32) &&& 31).toUInt32).toInt32) &&& (255 : Int32)))]))
  refine own_go (XS.i2c X0w.here hx rfl (hb hby at_38) rfl (Steps.refl _)) ?_
  show own_Fin _ _ _ _ (s₁.setTop (mkF m 39 #[iv p1, iv p2, iv p3, iv p4, iv p5, iv v5_336, iv v6_339, iv v7_340, .unset, .unset, .unset, .unset, .unset, .unset, .unset, .unset, .unset] [(.int ((((p1.toUInt32 >>> ((8 : Int32) &&& 31).toUInt32).toInt32) &&& (255 : Int32)).toUInt32.toUInt16.toUInt32.toInt32))]))
  refine own_go (XS.istore X0w.here hx rfl (hb hby at_39) rfl rfl (Steps.refl _)) ?_
  show own_Fin _ _ _ _ (s₁.setTop (mkF m 41 #[iv p1, iv p2, iv p3, iv p4, iv p5, iv v5_336, iv v6_339, iv v7_340, iv ((((p1.toUInt32 >>> ((8 : Int32) &&& 31).toUInt32).toInt32) &&& (255 : Int32)).toUInt32.toUInt16.toUInt32.toInt32), .unset, .unset, .unset, .unset, .unset, .unset, .unset, .unset] []))
  generalize hz_v8_341 : ((((p1.toUInt32 >>> ((8 : Int32) &&& 31).toUInt32).toInt32) &&& (255 : Int32)).toUInt32.toUInt16.toUInt32.toInt32) = v8_341
  refine own_go (XS.iloadN X0w.here hx rfl (hb hby at_41) rfl (Steps.refl _)) ?_
  show own_Fin _ _ _ _ (s₁.setTop (mkF m 42 #[iv p1, iv p2, iv p3, iv p4, iv p5, iv v5_336, iv v6_339, iv v7_340, iv v8_341, .unset, .unset, .unset, .unset, .unset, .unset, .unset, .unset] [(.int p1)]))
  refine own_go (XS.bipush X0w.here hx rfl (hb hby at_42) (Steps.refl _)) ?_
  show own_Fin _ _ _ _ (s₁.setTop (mkF m 44 #[iv p1, iv p2, iv p3, iv p4, iv p5, iv v5_336, iv v6_339, iv v7_340, iv v8_341, .unset, .unset, .unset, .unset, .unset, .unset, .unset, .unset] [(.int (16 : Int32)), (.int p1)]))
  refine own_go (XS.iushr X0w.here hx rfl (hb hby at_44) rfl (Steps.refl _)) ?_
  show own_Fin _ _ _ _ (s₁.setTop (mkF m 45 #[iv p1, iv p2, iv p3, iv p4, iv p5, iv v5_336, iv v6_339, iv v7_340, iv v8_341, .unset, .unset, .unset, .unset, .unset, .unset, .unset, .unset] [(.int ((p1.toUInt32 >>> ((16 : Int32) &&& 31).toUInt32).toInt32))]))
  refine own_go (XS.sipush X0w.here hx rfl (hb hby at_45) (Steps.refl _)) ?_
  show own_Fin _ _ _ _ (s₁.setTop (mkF m 48 #[iv p1, iv p2, iv p3, iv p4, iv p5, iv v5_336, iv v6_339, iv v7_340, iv v8_341, .unset, .unset, .unset, .unset, .unset, .unset, .unset, .unset] [(.int (255 : Int32)), (.int ((p1.toUInt32 >>> ((16 : Int32) &&& 31).toUInt32).toInt32))]))
  refine own_go (XS.iand X0w.here hx rfl (hb hby at_48) rfl (Steps.refl _)) ?_
  show own_Fin _ _ _ _ (s₁.setTop (mkF m 49 #[iv p1, iv p2, iv p3, iv p4, iv p5, iv v5_336, iv v6_339, iv v7_340, iv v8_341, .unset, .unset, .unset, .unset, .unset, .unset, .unset, .unset] [(.int (((p1.toUInt32 >>> ((16 : Int32) &&& 31).toUInt32).toInt32) &&& (255 : Int32)))]))
  refine own_go (XS.i2c X0w.here hx rfl (hb hby at_49) rfl (Steps.refl _)) ?_
  show own_Fin _ _ _ _ (s₁.setTop (mkF m 50 #[iv p1, iv p2, iv p3, iv p4, iv p5, iv v5_336, iv v6_339, iv v7_340, iv v8_341, .unset, .unset, .unset, .unset, .unset, .unset, .unset, .unset] [(.int ((((p1.toUInt32 >>> ((16 : Int32) &&& 31).toUInt32).toInt32) &&& (255 : Int32)).toUInt32.toUInt16.toUInt32.toInt32))]))
  refine own_go (XS.istore X0w.here hx rfl (hb hby at_50) rfl rfl (Steps.refl _)) ?_
  show own_Fin _ _ _ _ (s₁.setTop (mkF m 52 #[iv p1, iv p2, iv p3, iv p4, iv p5, iv v5_336, iv v6_339, iv v7_340, iv v8_341, iv ((((p1.toUInt32 >>> ((16 : Int32) &&& 31).toUInt32).toInt32) &&& (255 : Int32)).toUInt32.toUInt16.toUInt32.toInt32), .unset, .unset, .unset, .unset, .unset, .unset, .unset] []))
  generalize hz_v9_342 : ((((p1.toUInt32 >>> ((16 : Int32) &&& 31).toUInt32).toInt32) &&& (255 : Int32)).toUInt32.toUInt16.toUInt32.toInt32) = v9_342
  refine own_go (XS.iload X0w.here hx rfl (hb hby at_52) rfl (Steps.refl _)) ?_
  show own_Fin _ _ _ _ (s₁.setTop (mkF m 54 #[iv p1, iv p2, iv p3, iv p4, iv p5, iv v5_336, iv v6_339, iv v7_340, iv v8_341, iv v9_342, .unset, .unset, .unset, .unset, .unset, .unset, .unset] [(.int v7_340)]))
  refine own_go (XS.iloadN X0w.here hx rfl (hb hby at_54) rfl (Steps.refl _)) ?_
  show own_Fin _ _ _ _ (s₁.setTop (mkF m 55 #[iv p1, iv p2, iv p3, iv p4, iv p5, iv v5_336, iv v6_339, iv v7_340, iv v8_341, iv v9_342, .unset, .unset, .unset, .unset, .unset, .unset, .unset] [(.int p3), (.int v7_340)]))
  refine own_go (XS.iconst X0w.here hx rfl (hb hby at_55) (Steps.refl _)) ?_
  show own_Fin _ _ _ _ (s₁.setTop (mkF m 56 #[iv p1, iv p2, iv p3, iv p4, iv p5, iv v5_336, iv v6_339, iv v7_340, iv v8_341, iv v9_342, .unset, .unset, .unset, .unset, .unset, .unset, .unset] [(.int (1 : Int32)), (.int p3), (.int v7_340)]))
  refine own_go (XS.iushr X0w.here hx rfl (hb hby at_56) rfl (Steps.refl _)) ?_
  show own_Fin _ _ _ _ (s₁.setTop (mkF m 57 #[iv p1, iv p2, iv p3, iv p4, iv p5, iv v5_336, iv v6_339, iv v7_340, iv v8_341, iv v9_342, .unset, .unset, .unset, .unset, .unset, .unset, .unset] [(.int ((p3.toUInt32 >>> ((1 : Int32) &&& 31).toUInt32).toInt32)), (.int v7_340)]))
  refine own_go (XS.iconst X0w.here hx rfl (hb hby at_57) (Steps.refl _)) ?_
  show own_Fin _ _ _ _ (s₁.setTop (mkF m 58 #[iv p1, iv p2, iv p3, iv p4, iv p5, iv v5_336, iv v6_339, iv v7_340, iv v8_341, iv v9_342, .unset, .unset, .unset, .unset, .unset, .unset, .unset] [(.int (3 : Int32)), (.int ((p3.toUInt32 >>> ((1 : Int32) &&& 31).toUInt32).toInt32)), (.int v7_340)]))
  refine own_go (XS.iand X0w.here hx rfl (hb hby at_58) rfl (Steps.refl _)) ?_
  show own_Fin _ _ _ _ (s₁.setTop (mkF m 59 #[iv p1, iv p2, iv p3, iv p4, iv p5, iv v5_336, iv v6_339, iv v7_340, iv v8_341, iv v9_342, .unset, .unset, .unset, .unset, .unset, .unset, .unset] [(.int (((p3.toUInt32 >>> ((1 : Int32) &&& 31).toUInt32).toInt32) &&& (3 : Int32))), (.int v7_340)]))
  refine own_go (XS.iloadN X0w.here hx rfl (hb hby at_59) rfl (Steps.refl _)) ?_
  show own_Fin _ _ _ _ (s₁.setTop (mkF m 60 #[iv p1, iv p2, iv p3, iv p4, iv p5, iv v5_336, iv v6_339, iv v7_340, iv v8_341, iv v9_342, .unset, .unset, .unset, .unset, .unset, .unset, .unset] [(.int p2), (.int (((p3.toUInt32 >>> ((1 : Int32) &&& 31).toUInt32).toInt32) &&& (3 : Int32))), (.int v7_340)]))
  refine own_go (XS.sipush X0w.here hx rfl (hb hby at_60) (Steps.refl _)) ?_
  show own_Fin _ _ _ _ (s₁.setTop (mkF m 63 #[iv p1, iv p2, iv p3, iv p4, iv p5, iv v5_336, iv v6_339, iv v7_340, iv v8_341, iv v9_342, .unset, .unset, .unset, .unset, .unset, .unset, .unset] [(.int (255 : Int32)), (.int p2), (.int (((p3.toUInt32 >>> ((1 : Int32) &&& 31).toUInt32).toInt32) &&& (3 : Int32))), (.int v7_340)]))
  refine own_go (XS.iand X0w.here hx rfl (hb hby at_63) rfl (Steps.refl _)) ?_
  show own_Fin _ _ _ _ (s₁.setTop (mkF m 64 #[iv p1, iv p2, iv p3, iv p4, iv p5, iv v5_336, iv v6_339, iv v7_340, iv v8_341, iv v9_342, .unset, .unset, .unset, .unset, .unset, .unset, .unset] [(.int (p2 &&& (255 : Int32))), (.int (((p3.toUInt32 >>> ((1 : Int32) &&& 31).toUInt32).toInt32) &&& (3 : Int32))), (.int v7_340)]))
  obtain ⟨_, _, ⟨T343, L343, k343, n343⟩, -, X343, ⟨Lc343, hQ343, l343, y343, z343⟩, st343⟩ := Jvm.LawKit.callS X0w hx (y := (⟨"com/example/headwright/headwright/HeaderEqualsIgnoringAsciiCasePinLaw", "other", "(CII)C"⟩ : MethodName)) hown (mvT hZ (hw _ (List.mem_of_getElem? (i := 0) rfl))) (mvT hZ (hw _ (List.mem_of_getElem? (i := 1) rfl))) (mvT hZ (hw _ (List.mem_of_getElem? (i := 2) rfl))) (mvT hZ (hw _ (List.mem_of_getElem? (i := 3) rfl))) (by decide) (backOf (W := 0) (rmoth l Z a0 hw [] v7_340 (((p3.toUInt32 >>> ((1 : Int32) &&& 31).toUInt32).toInt32) &&& (3 : Int32)) (p2 &&& (255 : Int32)) h0 n0 Z0) hZ (hw _ (List.mem_of_getElem? (i := 3) rfl)) (hw _ (List.mem_of_getElem? (i := 2) rfl)) (by decide) (by decide)) (g := (mkF m 64 #[iv p1, iv p2, iv p3, iv p4, iv p5, iv v5_336, iv v6_339, iv v7_340, iv v8_341, iv v9_342, .unset, .unset, .unset, .unset, .unset, .unset, .unset] [(.int (p2 &&& (255 : Int32))), (.int (((p3.toUInt32 >>> ((1 : Int32) &&& 31).toUInt32).toInt32) &&& (3 : Int32))), (.int v7_340)])) rfl (by rw [hml]; rfl) (argsL := [(.int v7_340), (.int (((p3.toUInt32 >>> ((1 : Int32) &&& 31).toUInt32).toInt32) &&& (3 : Int32))), (.int (p2 &&& (255 : Int32)))]) (rest := []) (lenOf pd__28_CII_29_C rfl) rfl (by show 2 * 0 + _ ≤ _; exact Nat.le_of_eq rfl) (hb hby at_64) (fun _ hv => ⟨rfl, e0, (by decide : 0 + 0 ≤ _), (by decide : 0 + 0 ≤ _)⟩)
  dsimp only [Pt.U, Pt.locs, Pt.cells, Pt.slots] at X343 l343 y343 z343 st343 hQ343
  subst l343 y343 z343
  obtain ⟨rfl, Nq343, e343⟩ := hQ343
  refine own_by st343 ?_
  have N343 := Fr.app N0 Nq343
  show own_Fin _ _ _ _ (T343.setTop (mkF m 67 #[iv p1, iv p2, iv p3, iv p4, iv p5, iv v5_336, iv v6_339, iv v7_340, iv v8_341, iv v9_342, .unset, .unset, .unset, .unset, .unset, .unset, .unset] [(.int (own_oth v7_340 (((p3.toUInt32 >>> ((1 : Int32) &&& 31).toUInt32).toInt32) &&& (3 : Int32)) (p2 &&& (255 : Int32))))]))
  refine own_go (XS.istore X343.here hx rfl (hb hby at_67) rfl rfl (Steps.refl _)) ?_
  show own_Fin _ _ _ _ (T343.setTop (mkF m 69 #[iv p1, iv p2, iv p3, iv p4, iv p5, iv v5_336, iv v6_339, iv v7_340, iv v8_341, iv v9_342, iv (own_oth v7_340 (((p3.toUInt32 >>> ((1 : Int32) &&& 31).toUInt32).toInt32) &&& (3 : Int32)) (p2 &&& (255 : Int32))), .unset, .unset, .unset, .unset, .unset, .unset] []))
  generalize hz_v10_344 : (own_oth v7_340 (((p3.toUInt32 >>> ((1 : Int32) &&& 31).toUInt32).toInt32) &&& (3 : Int32)) (p2 &&& (255 : Int32))) = v10_344
  refine own_go (XS.iload X343.here hx rfl (hb hby at_69) rfl (Steps.refl _)) ?_
  show own_Fin _ _ _ _ (T343.setTop (mkF m 71 #[iv p1, iv p2, iv p3, iv p4, iv p5, iv v5_336, iv v6_339, iv v7_340, iv v8_341, iv v9_342, iv v10_344, .unset, .unset, .unset, .unset, .unset, .unset] [(.int v8_341)]))
  refine own_go (XS.iloadN X343.here hx rfl (hb hby at_71) rfl (Steps.refl _)) ?_
  show own_Fin _ _ _ _ (T343.setTop (mkF m 72 #[iv p1, iv p2, iv p3, iv p4, iv p5, iv v5_336, iv v6_339, iv v7_340, iv v8_341, iv v9_342, iv v10_344, .unset, .unset, .unset, .unset, .unset, .unset] [(.int p3), (.int v8_341)]))
  refine own_go (XS.iconst X343.here hx rfl (hb hby at_72) (Steps.refl _)) ?_
  show own_Fin _ _ _ _ (T343.setTop (mkF m 73 #[iv p1, iv p2, iv p3, iv p4, iv p5, iv v5_336, iv v6_339, iv v7_340, iv v8_341, iv v9_342, iv v10_344, .unset, .unset, .unset, .unset, .unset, .unset] [(.int (3 : Int32)), (.int p3), (.int v8_341)]))
  refine own_go (XS.iushr X343.here hx rfl (hb hby at_73) rfl (Steps.refl _)) ?_
  show own_Fin _ _ _ _ (T343.setTop (mkF m 74 #[iv p1, iv p2, iv p3, iv p4, iv p5, iv v5_336, iv v6_339, iv v7_340, iv v8_341, iv v9_342, iv v10_344, .unset, .unset, .unset, .unset, .unset, .unset] [(.int ((p3.toUInt32 >>> ((3 : Int32) &&& 31).toUInt32).toInt32)), (.int v8_341)]))
  refine own_go (XS.iconst X343.here hx rfl (hb hby at_74) (Steps.refl _)) ?_
  show own_Fin _ _ _ _ (T343.setTop (mkF m 75 #[iv p1, iv p2, iv p3, iv p4, iv p5, iv v5_336, iv v6_339, iv v7_340, iv v8_341, iv v9_342, iv v10_344, .unset, .unset, .unset, .unset, .unset, .unset] [(.int (3 : Int32)), (.int ((p3.toUInt32 >>> ((3 : Int32) &&& 31).toUInt32).toInt32)), (.int v8_341)]))
  refine own_go (XS.iand X343.here hx rfl (hb hby at_75) rfl (Steps.refl _)) ?_
  show own_Fin _ _ _ _ (T343.setTop (mkF m 76 #[iv p1, iv p2, iv p3, iv p4, iv p5, iv v5_336, iv v6_339, iv v7_340, iv v8_341, iv v9_342, iv v10_344, .unset, .unset, .unset, .unset, .unset, .unset] [(.int (((p3.toUInt32 >>> ((3 : Int32) &&& 31).toUInt32).toInt32) &&& (3 : Int32))), (.int v8_341)]))
  refine own_go (XS.iloadN X343.here hx rfl (hb hby at_76) rfl (Steps.refl _)) ?_
  show own_Fin _ _ _ _ (T343.setTop (mkF m 77 #[iv p1, iv p2, iv p3, iv p4, iv p5, iv v5_336, iv v6_339, iv v7_340, iv v8_341, iv v9_342, iv v10_344, .unset, .unset, .unset, .unset, .unset, .unset] [(.int p2), (.int (((p3.toUInt32 >>> ((3 : Int32) &&& 31).toUInt32).toInt32) &&& (3 : Int32))), (.int v8_341)]))
  refine own_go (XS.bipush X343.here hx rfl (hb hby at_77) (Steps.refl _)) ?_
  show own_Fin _ _ _ _ (T343.setTop (mkF m 79 #[iv p1, iv p2, iv p3, iv p4, iv p5, iv v5_336, iv v6_339, iv v7_340, iv v8_341, iv v9_342, iv v10_344, .unset, .unset, .unset, .unset, .unset, .unset] [(.int (8 : Int32)), (.int p2), (.int (((p3.toUInt32 >>> ((3 : Int32) &&& 31).toUInt32).toInt32) &&& (3 : Int32))), (.int v8_341)]))
  refine own_go (XS.iushr X343.here hx rfl (hb hby at_79) rfl (Steps.refl _)) ?_
  show own_Fin _ _ _ _ (T343.setTop (mkF m 80 #[iv p1, iv p2, iv p3, iv p4, iv p5, iv v5_336, iv v6_339, iv v7_340, iv v8_341, iv v9_342, iv v10_344, .unset, .unset, .unset, .unset, .unset, .unset] [(.int ((p2.toUInt32 >>> ((8 : Int32) &&& 31).toUInt32).toInt32)), (.int (((p3.toUInt32 >>> ((3 : Int32) &&& 31).toUInt32).toInt32) &&& (3 : Int32))), (.int v8_341)]))
  refine own_go (XS.sipush X343.here hx rfl (hb hby at_80) (Steps.refl _)) ?_
  show own_Fin _ _ _ _ (T343.setTop (mkF m 83 #[iv p1, iv p2, iv p3, iv p4, iv p5, iv v5_336, iv v6_339, iv v7_340, iv v8_341, iv v9_342, iv v10_344, .unset, .unset, .unset, .unset, .unset, .unset] [(.int (255 : Int32)), (.int ((p2.toUInt32 >>> ((8 : Int32) &&& 31).toUInt32).toInt32)), (.int (((p3.toUInt32 >>> ((3 : Int32) &&& 31).toUInt32).toInt32) &&& (3 : Int32))), (.int v8_341)]))
  refine own_go (XS.iand X343.here hx rfl (hb hby at_83) rfl (Steps.refl _)) ?_
  show own_Fin _ _ _ _ (T343.setTop (mkF m 84 #[iv p1, iv p2, iv p3, iv p4, iv p5, iv v5_336, iv v6_339, iv v7_340, iv v8_341, iv v9_342, iv v10_344, .unset, .unset, .unset, .unset, .unset, .unset] [(.int (((p2.toUInt32 >>> ((8 : Int32) &&& 31).toUInt32).toInt32) &&& (255 : Int32))), (.int (((p3.toUInt32 >>> ((3 : Int32) &&& 31).toUInt32).toInt32) &&& (3 : Int32))), (.int v8_341)]))
  obtain ⟨_, _, ⟨T345, L345, k345, n345⟩, -, X345, ⟨Lc345, hQ345, l345, y345, z345⟩, st345⟩ := Jvm.LawKit.callS X343 hx (y := (⟨"com/example/headwright/headwright/HeaderEqualsIgnoringAsciiCasePinLaw", "other", "(CII)C"⟩ : MethodName)) hown (mvT hZ (hw _ (List.mem_of_getElem? (i := 0) rfl))) (mvT hZ (hw _ (List.mem_of_getElem? (i := 1) rfl))) (mvT hZ (hw _ (List.mem_of_getElem? (i := 2) rfl))) (mvT hZ (hw _ (List.mem_of_getElem? (i := 3) rfl))) (by decide) (backOf (W := 0) (rmoth l Z a0 hw [] v8_341 (((p3.toUInt32 >>> ((3 : Int32) &&& 31).toUInt32).toInt32) &&& (3 : Int32)) (((p2.toUInt32 >>> ((8 : Int32) &&& 31).toUInt32).toInt32) &&& (255 : Int32)) h0 n0 Z0) hZ (hw _ (List.mem_of_getElem? (i := 3) rfl)) (hw _ (List.mem_of_getElem? (i := 2) rfl)) (by decide) (by decide)) (g := (mkF m 84 #[iv p1, iv p2, iv p3, iv p4, iv p5, iv v5_336, iv v6_339, iv v7_340, iv v8_341, iv v9_342, iv v10_344, .unset, .unset, .unset, .unset, .unset, .unset] [(.int (((p2.toUInt32 >>> ((8 : Int32) &&& 31).toUInt32).toInt32) &&& (255 : Int32))), (.int (((p3.toUInt32 >>> ((3 : Int32) &&& 31).toUInt32).toInt32) &&& (3 : Int32))), (.int v8_341)])) rfl (by rw [hml]; rfl) (argsL := [(.int v8_341), (.int (((p3.toUInt32 >>> ((3 : Int32) &&& 31).toUInt32).toInt32) &&& (3 : Int32))), (.int (((p2.toUInt32 >>> ((8 : Int32) &&& 31).toUInt32).toInt32) &&& (255 : Int32)))]) (rest := []) (lenOf pd__28_CII_29_C rfl) rfl (by show 2 * 0 + _ ≤ _; exact Nat.le_of_eq rfl) (hb hby at_84) (fun _ hv => ⟨rfl, e343, (by decide : 0 + 0 ≤ _), (by decide : 0 + 0 ≤ _)⟩)
  dsimp only [Pt.U, Pt.locs, Pt.cells, Pt.slots] at X345 l345 y345 z345 st345 hQ345
  subst l345 y345 z345
  obtain ⟨rfl, Nq345, e345⟩ := hQ345
  refine own_by st345 ?_
  have N345 := Fr.app N343 Nq345
  show own_Fin _ _ _ _ (T345.setTop (mkF m 87 #[iv p1, iv p2, iv p3, iv p4, iv p5, iv v5_336, iv v6_339, iv v7_340, iv v8_341, iv v9_342, iv v10_344, .unset, .unset, .unset, .unset, .unset, .unset] [(.int (own_oth v8_341 (((p3.toUInt32 >>> ((3 : Int32) &&& 31).toUInt32).toInt32) &&& (3 : Int32)) (((p2.toUInt32 >>> ((8 : Int32) &&& 31).toUInt32).toInt32) &&& (255 : Int32))))]))
  refine own_go (XS.istore X345.here hx rfl (hb hby at_87) rfl rfl (Steps.refl _)) ?_
  show own_Fin _ _ _ _ (T345.setTop (mkF m 89 #[iv p1, iv p2, iv p3, iv p4, iv p5, iv v5_336, iv v6_339, iv v7_340, iv v8_341, iv v9_342, iv v10_344, iv (own_oth v8_341 (((p3.toUInt32 >>> ((3 : Int32) &&& 31).toUInt32).toInt32) &&& (3 : Int32)) (((p2.toUInt32 >>> ((8 : Int32) &&& 31).toUInt32).toInt32) &&& (255 : Int32))), .unset, .unset, .unset, .unset, .unset] []))
  generalize hz_v11_346 : (own_oth v8_341 (((p3.toUInt32 >>> ((3 : Int32) &&& 31).toUInt32).toInt32) &&& (3 : Int32)) (((p2.toUInt32 >>> ((8 : Int32) &&& 31).toUInt32).toInt32) &&& (255 : Int32))) = v11_346
  refine own_go (XS.iload X345.here hx rfl (hb hby at_89) rfl (Steps.refl _)) ?_
  show own_Fin _ _ _ _ (T345.setTop (mkF m 91 #[iv p1, iv p2, iv p3, iv p4, iv p5, iv v5_336, iv v6_339, iv v7_340, iv v8_341, iv v9_342, iv v10_344, iv v11_346, .unset, .unset, .unset, .unset, .unset] [(.int v9_342)]))
  refine own_go (XS.iloadN X345.here hx rfl (hb hby at_91) rfl (Steps.refl _)) ?_
  show own_Fin _ _ _ _ (T345.setTop (mkF m 92 #[iv p1, iv p2, iv p3, iv p4, iv p5, iv v5_336, iv v6_339, iv v7_340, iv v8_341, iv v9_342, iv v10_344, iv v11_346, .unset, .unset, .unset, .unset, .unset] [(.int p3), (.int v9_342)]))
  refine own_go (XS.iconst X345.here hx rfl (hb hby at_92) (Steps.refl _)) ?_
  show own_Fin _ _ _ _ (T345.setTop (mkF m 93 #[iv p1, iv p2, iv p3, iv p4, iv p5, iv v5_336, iv v6_339, iv v7_340, iv v8_341, iv v9_342, iv v10_344, iv v11_346, .unset, .unset, .unset, .unset, .unset] [(.int (5 : Int32)), (.int p3), (.int v9_342)]))
  refine own_go (XS.iushr X345.here hx rfl (hb hby at_93) rfl (Steps.refl _)) ?_
  show own_Fin _ _ _ _ (T345.setTop (mkF m 94 #[iv p1, iv p2, iv p3, iv p4, iv p5, iv v5_336, iv v6_339, iv v7_340, iv v8_341, iv v9_342, iv v10_344, iv v11_346, .unset, .unset, .unset, .unset, .unset] [(.int ((p3.toUInt32 >>> ((5 : Int32) &&& 31).toUInt32).toInt32)), (.int v9_342)]))
  refine own_go (XS.iconst X345.here hx rfl (hb hby at_94) (Steps.refl _)) ?_
  show own_Fin _ _ _ _ (T345.setTop (mkF m 95 #[iv p1, iv p2, iv p3, iv p4, iv p5, iv v5_336, iv v6_339, iv v7_340, iv v8_341, iv v9_342, iv v10_344, iv v11_346, .unset, .unset, .unset, .unset, .unset] [(.int (3 : Int32)), (.int ((p3.toUInt32 >>> ((5 : Int32) &&& 31).toUInt32).toInt32)), (.int v9_342)]))
  refine own_go (XS.iand X345.here hx rfl (hb hby at_95) rfl (Steps.refl _)) ?_
  show own_Fin _ _ _ _ (T345.setTop (mkF m 96 #[iv p1, iv p2, iv p3, iv p4, iv p5, iv v5_336, iv v6_339, iv v7_340, iv v8_341, iv v9_342, iv v10_344, iv v11_346, .unset, .unset, .unset, .unset, .unset] [(.int (((p3.toUInt32 >>> ((5 : Int32) &&& 31).toUInt32).toInt32) &&& (3 : Int32))), (.int v9_342)]))
  refine own_go (XS.iloadN X345.here hx rfl (hb hby at_96) rfl (Steps.refl _)) ?_
  show own_Fin _ _ _ _ (T345.setTop (mkF m 97 #[iv p1, iv p2, iv p3, iv p4, iv p5, iv v5_336, iv v6_339, iv v7_340, iv v8_341, iv v9_342, iv v10_344, iv v11_346, .unset, .unset, .unset, .unset, .unset] [(.int p2), (.int (((p3.toUInt32 >>> ((5 : Int32) &&& 31).toUInt32).toInt32) &&& (3 : Int32))), (.int v9_342)]))
  refine own_go (XS.bipush X345.here hx rfl (hb hby at_97) (Steps.refl _)) ?_
  show own_Fin _ _ _ _ (T345.setTop (mkF m 99 #[iv p1, iv p2, iv p3, iv p4, iv p5, iv v5_336, iv v6_339, iv v7_340, iv v8_341, iv v9_342, iv v10_344, iv v11_346, .unset, .unset, .unset, .unset, .unset] [(.int (16 : Int32)), (.int p2), (.int (((p3.toUInt32 >>> ((5 : Int32) &&& 31).toUInt32).toInt32) &&& (3 : Int32))), (.int v9_342)]))
  refine own_go (XS.iushr X345.here hx rfl (hb hby at_99) rfl (Steps.refl _)) ?_
  show own_Fin _ _ _ _ (T345.setTop (mkF m 100 #[iv p1, iv p2, iv p3, iv p4, iv p5, iv v5_336, iv v6_339, iv v7_340, iv v8_341, iv v9_342, iv v10_344, iv v11_346, .unset, .unset, .unset, .unset, .unset] [(.int ((p2.toUInt32 >>> ((16 : Int32) &&& 31).toUInt32).toInt32)), (.int (((p3.toUInt32 >>> ((5 : Int32) &&& 31).toUInt32).toInt32) &&& (3 : Int32))), (.int v9_342)]))
  refine own_go (XS.sipush X345.here hx rfl (hb hby at_100) (Steps.refl _)) ?_
  show own_Fin _ _ _ _ (T345.setTop (mkF m 103 #[iv p1, iv p2, iv p3, iv p4, iv p5, iv v5_336, iv v6_339, iv v7_340, iv v8_341, iv v9_342, iv v10_344, iv v11_346, .unset, .unset, .unset, .unset, .unset] [(.int (255 : Int32)), (.int ((p2.toUInt32 >>> ((16 : Int32) &&& 31).toUInt32).toInt32)), (.int (((p3.toUInt32 >>> ((5 : Int32) &&& 31).toUInt32).toInt32) &&& (3 : Int32))), (.int v9_342)]))
  refine own_go (XS.iand X345.here hx rfl (hb hby at_103) rfl (Steps.refl _)) ?_
  show own_Fin _ _ _ _ (T345.setTop (mkF m 104 #[iv p1, iv p2, iv p3, iv p4, iv p5, iv v5_336, iv v6_339, iv v7_340, iv v8_341, iv v9_342, iv v10_344, iv v11_346, .unset, .unset, .unset, .unset, .unset] [(.int (((p2.toUInt32 >>> ((16 : Int32) &&& 31).toUInt32).toInt32) &&& (255 : Int32))), (.int (((p3.toUInt32 >>> ((5 : Int32) &&& 31).toUInt32).toInt32) &&& (3 : Int32))), (.int v9_342)]))
  obtain ⟨_, _, ⟨T347, L347, k347, n347⟩, -, X347, ⟨Lc347, hQ347, l347, y347, z347⟩, st347⟩ := Jvm.LawKit.callS X345 hx (y := (⟨"com/example/headwright/headwright/HeaderEqualsIgnoringAsciiCasePinLaw", "other", "(CII)C"⟩ : MethodName)) hown (mvT hZ (hw _ (List.mem_of_getElem? (i := 0) rfl))) (mvT hZ (hw _ (List.mem_of_getElem? (i := 1) rfl))) (mvT hZ (hw _ (List.mem_of_getElem? (i := 2) rfl))) (mvT hZ (hw _ (List.mem_of_getElem? (i := 3) rfl))) (by decide) (backOf (W := 0) (rmoth l Z a0 hw [] v9_342 (((p3.toUInt32 >>> ((5 : Int32) &&& 31).toUInt32).toInt32) &&& (3 : Int32)) (((p2.toUInt32 >>> ((16 : Int32) &&& 31).toUInt32).toInt32) &&& (255 : Int32)) h0 n0 Z0) hZ (hw _ (List.mem_of_getElem? (i := 3) rfl)) (hw _ (List.mem_of_getElem? (i := 2) rfl)) (by decide) (by decide)) (g := (mkF m 104 #[iv p1, iv p2, iv p3, iv p4, iv p5, iv v5_336, iv v6_339, iv v7_340, iv v8_341, iv v9_342, iv v10_344, iv v11_346, .unset, .unset, .unset, .unset, .unset] [(.int (((p2.toUInt32 >>> ((16 : Int32) &&& 31).toUInt32).toInt32) &&& (255 : Int32))), (.int (((p3.toUInt32 >>> ((5 : Int32) &&& 31).toUInt32).toInt32) &&& (3 : Int32))), (.int v9_342)])) rfl (by rw [hml]; rfl) (argsL := [(.int v9_342), (.int (((p3.toUInt32 >>> ((5 : Int32) &&& 31).toUInt32).toInt32) &&& (3 : Int32))), (.int (((p2.toUInt32 >>> ((16 : Int32) &&& 31).toUInt32).toInt32) &&& (255 : Int32)))]) (rest := []) (lenOf pd__28_CII_29_C rfl) rfl (by show 2 * 0 + _ ≤ _; exact Nat.le_of_eq rfl) (hb hby at_104) (fun _ hv => ⟨rfl, e345, (by decide : 0 + 0 ≤ _), (by decide : 0 + 0 ≤ _)⟩)
  dsimp only [Pt.U, Pt.locs, Pt.cells, Pt.slots] at X347 l347 y347 z347 st347 hQ347
  subst l347 y347 z347
  obtain ⟨rfl, Nq347, e347⟩ := hQ347
  refine own_by st347 ?_
  have N347 := Fr.app N345 Nq347
  show own_Fin _ _ _ _ (T347.setTop (mkF m 107 #[iv p1, iv p2, iv p3, iv p4, iv p5, iv v5_336, iv v6_339, iv v7_340, iv v8_341, iv v9_342, iv v10_344, iv v11_346, .unset, .unset, .unset, .unset, .unset] [(.int (own_oth v9_342 (((p3.toUInt32 >>> ((5 : Int32) &&& 31).toUInt32).toInt32) &&& (3 : Int32)) (((p2.toUInt32 >>> ((16 : Int32) &&& 31).toUInt32).toInt32) &&& (255 : Int32))))]))
  refine own_go (XS.istore X347.here hx rfl (hb hby at_107) rfl rfl (Steps.refl _)) ?_
  show own_Fin _ _ _ _ (T347.setTop (mkF m 109 #[iv p1, iv p2, iv p3, iv p4, iv p5, iv v5_336, iv v6_339, iv v7_340, iv v8_341, iv v9_342, iv v10_344, iv v11_346, iv (own_oth v9_342 (((p3.toUInt32 >>> ((5 : Int32) &&& 31).toUInt32).toInt32) &&& (3 : Int32)) (((p2.toUInt32 >>> ((16 : Int32) &&& 31).toUInt32).toInt32) &&& (255 : Int32))), .unset, .unset, .unset, .unset] []))
  generalize hz_v12_348 : (own_oth v9_342 (((p3.toUInt32 >>> ((5 : Int32) &&& 31).toUInt32).toInt32) &&& (3 : Int32)) (((p2.toUInt32 >>> ((16 : Int32) &&& 31).toUInt32).toInt32) &&& (255 : Int32))) = v12_348
  have hla : own_r4 v5_336 := hz_v5_336 ▸ own_and3 p4
  have hlb : own_r4 v6_339 := hz_v6_339 ▸ own_selr hla (own_and3 p5)
  have h8_v7_340 : own_c8 v7_340 := hz_v7_340 ▸ own_c8a _
  have hr_v7_340 : own_ch v7_340 := own_c8h h8_v7_340
  have h8_v8_341 : own_c8 v8_341 := hz_v8_341 ▸ own_c8a _
  have hr_v8_341 : own_ch v8_341 := own_c8h h8_v8_341
  have h8_v9_342 : own_c8 v9_342 := hz_v9_342 ▸ own_c8a _
  have hr_v9_342 : own_ch v9_342 := own_c8h h8_v9_342
  have hr_v10_344 : own_ch v10_344 := hz_v10_344 ▸ own_othc h8_v7_340 (own_c8b _)
  have hr_v11_346 : own_ch v11_346 := hz_v11_346 ▸ own_othc h8_v8_341 (own_c8b _)
  have hr_v12_348 : own_ch v12_348 := hz_v12_348 ▸ own_othc h8_v9_342 (own_c8b _)
  have hj349 : ∀ (Tj349 : State) (Lj349 : List Loc) (hp349 : Heap) (bA : Addr) (kA : ClassId), Stand p l e room_1 (s.setVm s.vm) m #[(.int p1), (.int p2), (.int p3), (.int p4), (.int p5)] below meth c Tj349 Lj349 1 3 → Tj349.heap = hp349 → Fr n0 Lj349 → n0 ≤ hp349.size → Old Z n0 hp349 → (Arv Z hp349 bA kA .char v5_336 (List.map Value.int (own_ca v5_336 v7_340 v8_341 v9_342)) (.int (0 : Int32))) → n0 ≤ bA → own_Fin p e below (G0 Z p1 p2 p3 p4 p5 cs sv h0 n0 s) (Tj349.setTop (mkF m 150 #[iv p1, iv p2, iv p3, iv p4, iv p5, iv v5_336, iv v6_339, iv v7_340, iv v8_341, iv v9_342, iv v10_344, iv v11_346, iv v12_348, rv bA, .unset, .unset, .unset] [])) := by
    intro Tj349 Lj349 hp349 bA kA Xj349 ej349 Nj349 Zj349 Oj349 V_bA_j349 g_bA
    have hkj349 : 0 ≤ hp349.size := Nat.zero_le _
    show own_Fin _ _ _ _ (Tj349.setTop (mkF m 150 #[iv p1, iv p2, iv p3, iv p4, iv p5, iv v5_336, iv v6_339, iv v7_340, iv v8_341, iv v9_342, iv v10_344, iv v11_346, iv v12_348, rv bA, .unset, .unset, .unset] []))
    have hj350 : ∀ (Tj350 : State) (Lj350 : List Loc) (hp350 : Heap) (bB : Addr) (kB : ClassId), Stand p l e room_1 (s.setVm s.vm) m #[(.int p1), (.int p2), (.int p3), (.int p4), (.int p5)] below meth c Tj350 Lj350 2 6 → Tj350.heap = hp350 → Fr n0 Lj350 → n0 ≤ hp350.size → Old Z n0 hp350 → (Arv Z hp350 bA kA .char v5_336 (List.map Value.int (own_ca v5_336 v7_340 v8_341 v9_342)) (.int (0 : Int32))) → (Arv Z hp350 bB kB .char v6_339 (List.map Value.int (own_ca v6_339 v10_344 v11_346 v12_348)) (.int (0 : Int32))) → n0 ≤ bB → own_Fin p e below (G0 Z p1 p2 p3 p4 p5 cs sv h0 n0 s) (Tj350.setTop (mkF m 191 #[iv p1, iv p2, iv p3, iv p4, iv p5, iv v5_336, iv v6_339, iv v7_340, iv v8_341, iv v9_342, iv v10_344, iv v11_346, iv v12_348, rv bA, rv bB, .unset, .unset] [])) := by
      intro Tj350 Lj350 hp350 bB kB Xj350 ej350 Nj350 Zj350 Oj350 V_bA_j350 V_bB_j350 g_bB
      have hkj350 : 0 ≤ hp350.size := Nat.zero_le _
      show own_Fin _ _ _ _ (Tj350.setTop (mkF m 191 #[iv p1, iv p2, iv p3, iv p4, iv p5, iv v5_336, iv v6_339, iv v7_340, iv v8_341, iv v9_342, iv v10_344, iv v11_346, iv v12_348, rv bA, rv bB, .unset, .unset] []))
      have jn351 : ∀ (Tj351 : State) (Lj351 : List Loc) (ex : Int32), Stand p l e room_1 (s.setVm s.vm) m #[(.int p1), (.int p2), (.int p3), (.int p4), (.int p5)] below meth c Tj351 Lj351 2 6 → Tj351.heap = hp350 → Fr n0 Lj351 → (ex = own_exp v5_336 v6_339 v7_340 v8_341 v9_342 v10_344 v11_346 v12_348) → own_Fin p e below (G0 Z p1 p2 p3 p4 p5 cs sv h0 n0 s) (Tj351.setTop (mkF m 251 #[iv p1, iv p2, iv p3, iv p4, iv p5, iv v5_336, iv v6_339, iv v7_340, iv v8_341, iv v9_342, iv v10_344, iv v11_346, iv v12_348, rv bA, rv bB, .unset, .unset] [(.int ex)])) := by
        intro Tj351 Lj351 ex Xj351 ej351 Nj351 hj351
        refine own_go (XS.istore Xj351.here hx rfl (hb hby at_251) rfl rfl (Steps.refl _)) ?_
        show own_Fin _ _ _ _ (Tj351.setTop (mkF m 253 #[iv p1, iv p2, iv p3, iv p4, iv p5, iv v5_336, iv v6_339, iv v7_340, iv v8_341, iv v9_342, iv v10_344, iv v11_346, iv v12_348, rv bA, rv bB, iv ex, .unset] []))
        obtain ⟨T352, h352, X352, e352, E352, A352, D352, U352, st352⟩ := newO Xj351 hx hZ hown (hw _ (List.mem_of_getElem? (i := 5) rfl)) (hw _ (List.mem_of_getElem? (i := 6) rfl)) (hw _ (List.mem_of_getElem? (i := 7) rfl)) ej351 (g := (mkF m 253 #[iv p1, iv p2, iv p3, iv p4, iv p5, iv v5_336, iv v6_339, iv v7_340, iv v8_341, iv v9_342, iv v10_344, iv v11_346, iv v12_348, rv bA, rv bB, iv ex, .unset] [])) rfl (hb hby at_253) (by decide) (by decide)
        obtain ⟨b352, g352⟩ : ∃ z, z = hp350.size := ⟨_, rfl⟩
        rw [← g352] at A352 D352 U352 st352
        refine own_by st352 ?_
        have ne_bA_b352 : bA ≠ b352 := Nat.ne_of_lt (Nat.lt_of_lt_of_eq V_bA_j350.lt g352.symm)
        have ne_bB_b352 : bB ≠ b352 := Nat.ne_of_lt (Nat.lt_of_lt_of_eq V_bB_j350.lt g352.symm)
        have Od352 := Oj350.ext E352
        have V_bA_j350_352 := V_bA_j350.ext E352
        have V_bB_j350_352 := V_bB_j350.ext E352
        have g_b352 : n0 ≤ b352 := Nat.le_trans Zj350 (Nat.le_of_eq g352.symm)
        have Z352 : n0 ≤ h352.size := Nat.le_trans Zj350 E352.1
        have hk352 : 0 ≤ h352.size := Nat.le_trans hkj350 E352.1
        have E_b352 := A352
        have F_coder_b352 : Fld Z h352 b352 "java/lang/String" "coder" "B" (.int (0 : Int32)) := D352 (Or.inr (hw _ (List.mem_of_getElem? (i := 31) rfl))) (ty := .byte) (by decide)
        have F_value_b352 : Fld Z h352 b352 "java/lang/String" "value" "[B" .null := D352 (Or.inr (hw _ (List.mem_of_getElem? (i := 33) rfl))) (ty := (.array .byte)) (by decide)
        show own_Fin _ _ _ _ (T352.setTop (mkF m 256 #[iv p1, iv p2, iv p3, iv p4, iv p5, iv v5_336, iv v6_339, iv v7_340, iv v8_341, iv v9_342, iv v10_344, iv v11_346, iv v12_348, rv bA, rv bB, iv ex, .unset] [(.ref b352)]))
        refine own_go (XS.dup X352.here hx rfl (hb hby at_256) rfl rfl (Steps.refl _)) ?_
        show own_Fin _ _ _ _ (T352.setTop (mkF m 257 #[iv p1, iv p2, iv p3, iv p4, iv p5, iv v5_336, iv v6_339, iv v7_340, iv v8_341, iv v9_342, iv v10_344, iv v11_346, iv v12_348, rv bA, rv bB, iv ex, .unset] [(.ref b352), (.ref b352)]))
        refine own_go (XS.aload X352.here hx rfl (hb hby at_257) rfl rfl (Steps.refl _)) ?_
        show own_Fin _ _ _ _ (T352.setTop (mkF m 259 #[iv p1, iv p2, iv p3, iv p4, iv p5, iv v5_336, iv v6_339, iv v7_340, iv v8_341, iv v9_342, iv v10_344, iv v11_346, iv v12_348, rv bA, rv bB, iv ex, .unset] [(.ref bA), (.ref b352), (.ref b352)]))
        obtain ⟨_, _, ⟨T353, L353, k353, n353⟩, -, X353, hs2353, hgr353, ⟨Lc353, ⟨hQ353, hK353⟩, l353, y353, z353⟩, st353⟩ := X352.specialBackS hx (y := (⟨"java/lang/String", "<init>", "([C)V"⟩ : MethodName)) rfl hown (mvT hZ (hw _ (List.mem_of_getElem? (i := 8) rfl))) (mvT hZ (hw _ (List.mem_of_getElem? (i := 9) rfl))) (mvT hZ (hw _ (List.mem_of_getElem? (i := 10) rfl))) (by decide) (own_backK (W := 1) (rmstrS l Z a0 hw [] b352 bA kA cs v5_336 v7_340 v8_341 v9_342 h352 n0 Z352 E_b352 F_value_b352 F_coder_b352 g_b352 Od352 S__assertionsDisabled S_HI_BYTE_SHIFT S_LO_BYTE_SHIFT S_COMPACT_STRINGS hcs V_bA_j350_352 hla hr_v7_340 hr_v8_341 hr_v9_342 hh7 hcw) hZ (hw _ (List.mem_of_getElem? (i := 10) rfl)) (hw _ (List.mem_of_getElem? (i := 7) rfl)) (by decide) (by decide)) (g := (mkF m 259 #[iv p1, iv p2, iv p3, iv p4, iv p5, iv v5_336, iv v6_339, iv v7_340, iv v8_341, iv v9_342, iv v10_344, iv v11_346, iv v12_348, rv bA, rv bB, iv ex, .unset] [(.ref bA), (.ref b352), (.ref b352)])) rfl (by rw [hml]; rfl) (Steps.refl _) (a := b352) (argsL := [(.ref bA)]) (rest := [(.ref b352)]) (lenOf pd__28__5b_C_29_V rfl) rfl (by show 2 * 0 + _ ≤ _; exact Nat.le_of_eq rfl) (hb hby at_259) (fun _ hv => ⟨rfl, e352, (by decide : 3 + 2 ≤ _), (by decide : 10 + 9 ≤ _), own_K.warm (Or.inl IB0) hv⟩)
        dsimp only [Pt.U, Pt.locs, Pt.cells, Pt.slots] at X353 l353 y353 z353 st353 hQ353 hs2353 hgr353 hK353
        subst l353 y353 z353
        obtain ⟨Xr353, hS353, hZ353, hown353⟩ := rebS hS0 (show 0 ≤ T352.heap.size by rw [e352]; exact hk352) X353 hs2353 hgr353 hZ hown
        refine own_go st353 ?_
        obtain ⟨rfl, Nq353, K353, r353_0⟩ := hQ353
        have Od353 := Od352.keep K353 (allS g_b352 all0)
        have V_bA_j350_353 := V_bA_j350_352.keep K353 (ninS ne_bA_b352 nin0)
        have V_bB_j350_353 := V_bB_j350_352.keep K353 (ninS ne_bB_b352 nin0)
        have E_b352_353 := E_b352.keep K353
        have Z353 : n0 ≤ T353.heap.size := Nat.le_trans Z352 K353.1
        have hk353 : 0 ≤ T353.heap.size := Nat.le_trans hk352 K353.1
        have hkr353 : T353.heap.size ≤ T353.heap.size := Nat.le_refl _
        have N353 := Fr.app Nj351 Nq353
        show own_Fin _ _ _ _ (T353.setTop (mkF m 262 #[iv p1, iv p2, iv p3, iv p4, iv p5, iv v5_336, iv v6_339, iv v7_340, iv v8_341, iv v9_342, iv v10_344, iv v11_346, iv v12_348, rv bA, rv bB, iv ex, .unset] [(.ref b352)]))
        obtain ⟨T354, h354, X354, e354, E354, A354, D354, U354, st354⟩ := newO Xr353 hx hZ353 hown353 (hw _ (List.mem_of_getElem? (i := 5) rfl)) (hw _ (List.mem_of_getElem? (i := 6) rfl)) (hw _ (List.mem_of_getElem? (i := 7) rfl)) rfl (g := (mkF m 262 #[iv p1, iv p2, iv p3, iv p4, iv p5, iv v5_336, iv v6_339, iv v7_340, iv v8_341, iv v9_342, iv v10_344, iv v11_346, iv v12_348, rv bA, rv bB, iv ex, .unset] [(.ref b352)])) rfl (hb hby at_262) (by decide) (by decide)
        obtain ⟨b354, g354⟩ : ∃ z, z = T353.heap.size := ⟨_, rfl⟩
        rw [← g354] at A354 D354 U354 st354
        refine own_by st354 ?_
        have ne_bA_b354 : bA ≠ b354 := Nat.ne_of_lt (Nat.lt_of_lt_of_eq V_bA_j350_353.lt g354.symm)
        have ne_bB_b354 : bB ≠ b354 := Nat.ne_of_lt (Nat.lt_of_lt_of_eq V_bB_j350_353.lt g354.symm)
        have ne_b352_b354 : b352 ≠ b354 := Nat.ne_of_lt (Nat.lt_of_lt_of_eq E_b352_353.lt g354.symm)
        have Od354 := Od353.ext E354
        have V_bA_j350_354 := V_bA_j350_353.ext E354
        have V_bB_j350_354 := V_bB_j350_353.ext E354
        have E_b352_354 := E_b352_353.ext E354
        have g_b354 : n0 ≤ b354 := Nat.le_trans Z353 (Nat.le_of_eq g354.symm)
        have Z354 : n0 ≤ h354.size := Nat.le_trans Z353 E354.1
        have hk354 : T353.heap.size ≤ h354.size := Nat.le_trans hkr353 E354.1
        have E_b354 := A354
        have F_coder_b354 : Fld Z h354 b354 "java/lang/String" "coder" "B" (.int (0 : Int32)) := D354 (Or.inr (hw _ (List.mem_of_getElem? (i := 31) rfl))) (ty := .byte) (by decide)
        have F_value_b354 : Fld Z h354 b354 "java/lang/String" "value" "[B" .null := D354 (Or.inr (hw _ (List.mem_of_getElem? (i := 33) rfl))) (ty := (.array .byte)) (by decide)
        show own_Fin _ _ _ _ (T354.setTop (mkF m 265 #[iv p1, iv p2, iv p3, iv p4, iv p5, iv v5_336, iv v6_339, iv v7_340, iv v8_341, iv v9_342, iv v10_344, iv v11_346, iv v12_348, rv bA, rv bB, iv ex, .unset] [(.ref b354), (.ref b352)]))
        refine own_go (XS.dup X354.here hx rfl (hb hby at_265) rfl rfl (Steps.refl _)) ?_
        show own_Fin _ _ _ _ (T354.setTop (mkF m 266 #[iv p1, iv p2, iv p3, iv p4, iv p5, iv v5_336, iv v6_339, iv v7_340, iv v8_341, iv v9_342, iv v10_344, iv v11_346, iv v12_348, rv bA, rv bB, iv ex, .unset] [(.ref b354), (.ref b354), (.ref b352)]))
        refine own_go (XS.aload X354.here hx rfl (hb hby at_266) rfl rfl (Steps.refl _)) ?_
        show own_Fin _ _ _ _ (T354.setTop (mkF m 268 #[iv p1, iv p2, iv p3, iv p4, iv p5, iv v5_336, iv v6_339, iv v7_340, iv v8_341, iv v9_342, iv v10_344, iv v11_346, iv v12_348, rv bA, rv bB, iv ex, .unset] [(.ref bB), (.ref b354), (.ref b354), (.ref b352)]))
        obtain ⟨_, _, ⟨T355, L355, k355, n355⟩, -, X355, hs2355, hgr355, ⟨Lc355, ⟨hQ355, hK355⟩, l355, y355, z355⟩, st355⟩ := X354.specialBackS hx (y := (⟨"java/lang/String", "<init>", "([C)V"⟩ : MethodName)) rfl hown353 (mvT hZ353 (hw _ (List.mem_of_getElem? (i := 8) rfl))) (mvT hZ353 (hw _ (List.mem_of_getElem? (i := 9) rfl))) (mvT hZ353 (hw _ (List.mem_of_getElem? (i := 10) rfl))) (by decide) (own_backK (W := 2) (rmstrS l Z a0 hw [] b354 bB kB cs v6_339 v10_344 v11_346 v12_348 h354 n0 Z354 E_b354 F_value_b354 F_coder_b354 g_b354 Od354 S__assertionsDisabled S_HI_BYTE_SHIFT S_LO_BYTE_SHIFT S_COMPACT_STRINGS hcs V_bB_j350_354 hlb hr_v10_344 hr_v11_346 hr_v12_348 hh7 hcw) hZ353 (hw _ (List.mem_of_getElem? (i := 10) rfl)) (hw _ (List.mem_of_getElem? (i := 7) rfl)) (by decide) (by decide)) (g := (mkF m 268 #[iv p1, iv p2, iv p3, iv p4, iv p5, iv v5_336, iv v6_339, iv v7_340, iv v8_341, iv v9_342, iv v10_344, iv v11_346, iv v12_348, rv bA, rv bB, iv ex, .unset] [(.ref bB), (.ref b354), (.ref b354), (.ref b352)])) rfl (by rw [hml]; rfl) (Steps.refl _) (a := b354) (argsL := [(.ref bB)]) (rest := [(.ref b354), (.ref b352)]) (lenOf pd__28__5b_C_29_V rfl) rfl (by show 2 * 0 + _ ≤ _; exact Nat.le_of_eq rfl) (hb hby at_268) (fun _ hv => ⟨rfl, e354, (by decide : 6 + 2 ≤ _), (by decide : 23 + 9 ≤ _), own_K.warm (own_K.keep hK353 ((Keep.refl _ []).ext E354)) hv⟩)
        dsimp only [Pt.U, Pt.locs, Pt.cells, Pt.slots] at X355 l355 y355 z355 st355 hQ355 hs2355 hgr355 hK355
        subst l355 y355 z355
        obtain ⟨Xr355, hS355, hZ355, hown355⟩ := rebS hS353 (show T353.heap.size ≤ T354.heap.size by rw [e354]; exact hk354) X355 hs2355 hgr355 hZ353 hown353
        refine own_go st355 ?_
        obtain ⟨rfl, Nq355, K355, r355_0⟩ := hQ355
        have Od355 := Od354.keep K355 (allS g_b354 all0)
        have V_bA_j350_355 := V_bA_j350_354.keep K355 (ninS ne_bA_b354 nin0)
        have V_bB_j350_355 := V_bB_j350_354.keep K355 (ninS ne_bB_b354 nin0)
        have E_b352_355 := E_b352_354.keep K355
        have E_b354_355 := E_b354.keep K355
        have Z355 : n0 ≤ T355.heap.size := Nat.le_trans Z354 K355.1
        have hk355 : T353.heap.size ≤ T355.heap.size := Nat.le_trans hk354 K355.1
        have hkr355 : T355.heap.size ≤ T355.heap.size := Nat.le_refl _
        have N355 := Fr.app N353 Nq355
        show own_Fin _ _ _ _ (T355.setTop (mkF m 271 #[iv p1, iv p2, iv p3, iv p4, iv p5, iv v5_336, iv v6_339, iv v7_340, iv v8_341, iv v9_342, iv v10_344, iv v11_346, iv v12_348, rv bA, rv bB, iv ex, .unset] [(.ref b354), (.ref b352)]))
        have hS1 : own_Str Z T355.heap b352 v5_336 v7_340 v8_341 v9_342 := r353_0.ext (own_extk E354 K355 (Nat.le_of_eq g354.symm))
        obtain ⟨_, _, ⟨T356, L356, k356, n356⟩, -, X356, ⟨Lc356, hQ356, l356, y356, z356⟩, st356⟩ := Jvm.LawKit.callS Xr355 hx (y := (⟨"com/example/headwright/headwright/Header", "equalsIgnoringAsciiCase", "(Ljava/lang/String;Ljava/lang/String;)Z"⟩ : MethodName)) hown355 (mvT hZ355 (hw _ (List.mem_of_getElem? (i := 37) rfl))) (mvT hZ355 (hw _ (List.mem_of_getElem? (i := 38) rfl))) (mvT hZ355 (hw _ (List.mem_of_getElem? (i := 39) rfl))) (mvT hZ355 (hw _ (List.mem_of_getElem? (i := 40) rfl))) (by decide) (backOf (W := 0) (rmeqi l Z a0 hw [] b352 b354 cs sv v5_336 v7_340 v8_341 v9_342 v6_339 v10_344 v11_346 v12_348 T355.heap n0 Z355 hS1 r355_0 Od355 S__assertionsDisabled S_HI_BYTE_SHIFT S_LO_BYTE_SHIFT S_COMPACT_STRINGS hcs S_SIOOBE_FORMATTER hsv hla hlb (own_chs hla hr_v7_340 hr_v8_341 hr_v9_342) (own_chs hlb hr_v10_344 hr_v11_346 hr_v12_348)) hZ355 (hw _ (List.mem_of_getElem? (i := 40) rfl)) (hw _ (List.mem_of_getElem? (i := 39) rfl)) (by decide) (by decide)) (g := (mkF m 271 #[iv p1, iv p2, iv p3, iv p4, iv p5, iv v5_336, iv v6_339, iv v7_340, iv v8_341, iv v9_342, iv v10_344, iv v11_346, iv v12_348, rv bA, rv bB, iv ex, .unset] [(.ref b354), (.ref b352)])) rfl (by rw [hml]; rfl) (argsL := [(.ref b352), (.ref b354)]) (rest := []) (lenOf pd__28_Ljava_2f_lang_2f_String_3b_Ljava_2f_lang_2f_String_3b__29_Z rfl) rfl (by show 2 * 0 + _ ≤ _; exact Nat.le_of_eq rfl) (hb hby at_271) (fun _ hv => ⟨rfl, rfl, (by decide : 8 + 0 ≤ _), (by decide : 32 + 0 ≤ _)⟩)
        dsimp only [Pt.U, Pt.locs, Pt.cells, Pt.slots] at X356 l356 y356 z356 st356 hQ356
        subst l356 y356 z356
        obtain ⟨rfl, Nq356, e356⟩ := hQ356
        refine own_by st356 ?_
        have N356 := Fr.app N355 Nq356
        show own_Fin _ _ _ _ (T356.setTop (mkF m 274 #[iv p1, iv p2, iv p3, iv p4, iv p5, iv v5_336, iv v6_339, iv v7_340, iv v8_341, iv v9_342, iv v10_344, iv v11_346, iv v12_348, rv bA, rv bB, iv ex, .unset] [(.int (own_eqv v5_336 v6_339 v7_340 v8_341 v9_342 v10_344 v11_346 v12_348))]))
        refine own_go (XS.istore X356.here hx rfl (hb hby at_274) rfl rfl (Steps.refl _)) ?_
        show own_Fin _ _ _ _ (T356.setTop (mkF m 276 #[iv p1, iv p2, iv p3, iv p4, iv p5, iv v5_336, iv v6_339, iv v7_340, iv v8_341, iv v9_342, iv v10_344, iv v11_346, iv v12_348, rv bA, rv bB, iv ex, iv (own_eqv v5_336 v6_339 v7_340 v8_341 v9_342 v10_344 v11_346 v12_348)] []))
        generalize hz_v16_357 : (own_eqv v5_336 v6_339 v7_340 v8_341 v9_342 v10_344 v11_346 v12_348) = v16_357
        refine own_go (XS.iload X356.here hx rfl (hb hby at_276) rfl (Steps.refl _)) ?_
        show own_Fin _ _ _ _ (T356.setTop (mkF m 278 #[iv p1, iv p2, iv p3, iv p4, iv p5, iv v5_336, iv v6_339, iv v7_340, iv v8_341, iv v9_342, iv v10_344, iv v11_346, iv v12_348, rv bA, rv bB, iv ex, iv v16_357] [(.int v16_357)]))
        refine own_go (XS.iload X356.here hx rfl (hb hby at_278) rfl (Steps.refl _)) ?_
        show own_Fin _ _ _ _ (T356.setTop (mkF m 280 #[iv p1, iv p2, iv p3, iv p4, iv p5, iv v5_336, iv v6_339, iv v7_340, iv v8_341, iv v9_342, iv v10_344, iv v11_346, iv v12_348, rv bA, rv bB, iv ex, iv v16_357] [(.int ex), (.int v16_357)]))
        refine own_go (XS.icmpNo X356.here hx rfl (hb hby at_280) rfl (teq (show v16_357 = ex from by rw [← hz_v16_357, hj351]; exact own_law hla hr_v7_340 hr_v8_341 hr_v9_342 hr_v10_344 hr_v11_346 hr_v12_348)).2 (Steps.refl _)) ?_
        show own_Fin _ _ _ _ (T356.setTop (mkF m 283 #[iv p1, iv p2, iv p3, iv p4, iv p5, iv v5_336, iv v6_339, iv v7_340, iv v8_341, iv v9_342, iv v10_344, iv v11_346, iv v12_348, rv bA, rv bB, iv ex, iv v16_357] []))
        refine own_go (XS.iconst X356.here hx rfl (hb hby at_283) (Steps.refl _)) ?_
        show own_Fin _ _ _ _ (T356.setTop (mkF m 284 #[iv p1, iv p2, iv p3, iv p4, iv p5, iv v5_336, iv v6_339, iv v7_340, iv v8_341, iv v9_342, iv v10_344, iv v11_346, iv v12_348, rv bA, rv bB, iv ex, iv v16_357] [(.int (1 : Int32))]))
        refine own_go (XS.goto X356.here hx rfl (pc0 := 284) (pc' := 288) rfl (hb hby at_284) (by decide) (by decide) (Steps.refl _)) ?_
        show own_Fin _ _ _ _ (T356.setTop (mkF m 288 #[iv p1, iv p2, iv p3, iv p4, iv p5, iv v5_336, iv v6_339, iv v7_340, iv v8_341, iv v9_342, iv v10_344, iv v11_346, iv v12_348, rv bA, rv bB, iv ex, iv v16_357] [(.int (1 : Int32))]))
        obtain ⟨fs358, hr358, hrun358, hended358, hRW358⟩ := X356.leaveW (s := s) hS355 (n := T355.heap.size) (by rw [e356]; exact hkr355) (v := some (.int (1 : Int32))) (fun h => by rw [Bd.returns] at h; cases h)
        refine own_done (retN X356 hx (t := .boolean) Bd.returns (by simp) (hb hby at_288) hr358) hrun358 hended358 ⟨_, _, rfl, ?_, hRW358.1, hRW358.2.1, hRW358.2.2.1, hRW358.2.2.2.mono (by decide) (by decide)⟩
        show Q0 Z p1 p2 p3 p4 p5 cs sv h0 n0 _ T356.heap _
        rw [e356]
        exact ⟨rfl, N356⟩
      refine own_go (XS.iload Xj350.here hx rfl (hb hby at_191) rfl (Steps.refl _)) ?_
      show own_Fin _ _ _ _ (Tj350.setTop (mkF m 193 #[iv p1, iv p2, iv p3, iv p4, iv p5, iv v5_336, iv v6_339, iv v7_340, iv v8_341, iv v9_342, iv v10_344, iv v11_346, iv v12_348, rv bA, rv bB, .unset, .unset] [(.int v5_336)]))
      refine own_go (XS.iload Xj350.here hx rfl (hb hby at_193) rfl (Steps.refl _)) ?_
      show own_Fin _ _ _ _ (Tj350.setTop (mkF m 195 #[iv p1, iv p2, iv p3, iv p4, iv p5, iv v5_336, iv v6_339, iv v7_340, iv v8_341, iv v9_342, iv v10_344, iv v11_346, iv v12_348, rv bA, rv bB, .unset, .unset] [(.int v6_339), (.int v5_336)]))
      by_cases hll : v5_336 = v6_339
      · refine own_go (XS.icmpNo Xj350.here hx rfl (hb hby at_195) rfl (teq hll).2 (Steps.refl _)) ?_
        show own_Fin _ _ _ _ (Tj350.setTop (mkF m 198 #[iv p1, iv p2, iv p3, iv p4, iv p5, iv v5_336, iv v6_339, iv v7_340, iv v8_341, iv v9_342, iv v10_344, iv v11_346, iv v12_348, rv bA, rv bB, .unset, .unset] []))
        refine own_go (XS.iload Xj350.here hx rfl (hb hby at_198) rfl (Steps.refl _)) ?_
        show own_Fin _ _ _ _ (Tj350.setTop (mkF m 200 #[iv p1, iv p2, iv p3, iv p4, iv p5, iv v5_336, iv v6_339, iv v7_340, iv v8_341, iv v9_342, iv v10_344, iv v11_346, iv v12_348, rv bA, rv bB, .unset, .unset] [(.int v5_336)]))
        refine own_go (XS.iconst Xj350.here hx rfl (hb hby at_200) (Steps.refl _)) ?_
        show own_Fin _ _ _ _ (Tj350.setTop (mkF m 201 #[iv p1, iv p2, iv p3, iv p4, iv p5, iv v5_336, iv v6_339, iv v7_340, iv v8_341, iv v9_342, iv v10_344, iv v11_346, iv v12_348, rv bA, rv bB, .unset, .unset] [(.int (1 : Int32)), (.int v5_336)]))
        by_cases hl1 : v5_336 < (1 : Int32)
        · refine own_go (XS.icmpYes Xj350.here hx rfl (pc0 := 201) (pc' := 214) rfl (hb hby at_201) rfl (tlt hl1).1 (by decide) (by decide) (Steps.refl _)) ?_
          show own_Fin _ _ _ _ (Tj350.setTop (mkF m 214 #[iv p1, iv p2, iv p3, iv p4, iv p5, iv v5_336, iv v6_339, iv v7_340, iv v8_341, iv v9_342, iv v10_344, iv v11_346, iv v12_348, rv bA, rv bB, .unset, .unset] []))
          refine own_go (XS.iload Xj350.here hx rfl (hb hby at_214) rfl (Steps.refl _)) ?_
          show own_Fin _ _ _ _ (Tj350.setTop (mkF m 216 #[iv p1, iv p2, iv p3, iv p4, iv p5, iv v5_336, iv v6_339, iv v7_340, iv v8_341, iv v9_342, iv v10_344, iv v11_346, iv v12_348, rv bA, rv bB, .unset, .unset] [(.int v5_336)]))
          refine own_go (XS.iconst Xj350.here hx rfl (hb hby at_216) (Steps.refl _)) ?_
          show own_Fin _ _ _ _ (Tj350.setTop (mkF m 217 #[iv p1, iv p2, iv p3, iv p4, iv p5, iv v5_336, iv v6_339, iv v7_340, iv v8_341, iv v9_342, iv v10_344, iv v11_346, iv v12_348, rv bA, rv bB, .unset, .unset] [(.int (2 : Int32)), (.int v5_336)]))
          refine own_go (XS.icmpYes Xj350.here hx rfl (pc0 := 217) (pc' := 230) rfl (hb hby at_217) rfl (tlt (show v5_336 < (2 : Int32) from own_llt hl1 (by decide))).1 (by decide) (by decide) (Steps.refl _)) ?_
          show own_Fin _ _ _ _ (Tj350.setTop (mkF m 230 #[iv p1, iv p2, iv p3, iv p4, iv p5, iv v5_336, iv v6_339, iv v7_340, iv v8_341, iv v9_342, iv v10_344, iv v11_346, iv v12_348, rv bA, rv bB, .unset, .unset] []))
          refine own_go (XS.iload Xj350.here hx rfl (hb hby at_230) rfl (Steps.refl _)) ?_
          show own_Fin _ _ _ _ (Tj350.setTop (mkF m 232 #[iv p1, iv p2, iv p3, iv p4, iv p5, iv v5_336, iv v6_339, iv v7_340, iv v8_341, iv v9_342, iv v10_344, iv v11_346, iv v12_348, rv bA, rv bB, .unset, .unset] [(.int v5_336)]))
          refine own_go (XS.iconst Xj350.here hx rfl (hb hby at_232) (Steps.refl _)) ?_
          show own_Fin _ _ _ _ (Tj350.setTop (mkF m 233 #[iv p1, iv p2, iv p3, iv p4, iv p5, iv v5_336, iv v6_339, iv v7_340, iv v8_341, iv v9_342, iv v10_344, iv v11_346, iv v12_348, rv bA, rv bB, .unset, .unset] [(.int (3 : Int32)), (.int v5_336)]))
          refine own_go (XS.icmpYes Xj350.here hx rfl (pc0 := 233) (pc' := 246) rfl (hb hby at_233) rfl (tlt (show v5_336 < (3 : Int32) from own_llt hl1 (by decide))).1 (by decide) (by decide) (Steps.refl _)) ?_
          show own_Fin _ _ _ _ (Tj350.setTop (mkF m 246 #[iv p1, iv p2, iv p3, iv p4, iv p5, iv v5_336, iv v6_339, iv v7_340, iv v8_341, iv v9_342, iv v10_344, iv v11_346, iv v12_348, rv bA, rv bB, .unset, .unset] []))
          refine own_go (XS.iconst Xj350.here hx rfl (hb hby at_246) (Steps.refl _)) ?_
          show own_Fin _ _ _ _ (Tj350.setTop (mkF m 247 #[iv p1, iv p2, iv p3, iv p4, iv p5, iv v5_336, iv v6_339, iv v7_340, iv v8_341, iv v9_342, iv v10_344, iv v11_346, iv v12_348, rv bA, rv bB, .unset, .unset] [(.int (1 : Int32))]))
          refine own_go (XS.goto Xj350.here hx rfl (pc0 := 247) (pc' := 251) rfl (hb hby at_247) (by decide) (by decide) (Steps.refl _)) ?_
          show own_Fin _ _ _ _ (Tj350.setTop (mkF m 251 #[iv p1, iv p2, iv p3, iv p4, iv p5, iv v5_336, iv v6_339, iv v7_340, iv v8_341, iv v9_342, iv v10_344, iv v11_346, iv v12_348, rv bA, rv bB, .unset, .unset] [(.int (1 : Int32))]))
          exact jn351 Tj350 _ (1 : Int32) Xj350 ej350 Nj350 (by rw [own_exp, if_pos hll, if_pos ⟨Or.inl hl1, Or.inl (own_llt hl1 (by decide)), Or.inl (own_llt hl1 (by decide))⟩])
        · refine own_go (XS.icmpNo Xj350.here hx rfl (hb hby at_201) rfl (flt hl1).1 (Steps.refl _)) ?_
          show own_Fin _ _ _ _ (Tj350.setTop (mkF m 204 #[iv p1, iv p2, iv p3, iv p4, iv p5, iv v5_336, iv v6_339, iv v7_340, iv v8_341, iv v9_342, iv v10_344, iv v11_346, iv v12_348, rv bA, rv bB, .unset, .unset] []))
          refine own_go (XS.iload Xj350.here hx rfl (hb hby at_204) rfl (Steps.refl _)) ?_
          show own_Fin _ _ _ _ (Tj350.setTop (mkF m 206 #[iv p1, iv p2, iv p3, iv p4, iv p5, iv v5_336, iv v6_339, iv v7_340, iv v8_341, iv v9_342, iv v10_344, iv v11_346, iv v12_348, rv bA, rv bB, .unset, .unset] [(.int v7_340)]))
          refine own_go (XS.iload Xj350.here hx rfl (hb hby at_206) rfl (Steps.refl _)) ?_
          show own_Fin _ _ _ _ (Tj350.setTop (mkF m 208 #[iv p1, iv p2, iv p3, iv p4, iv p5, iv v5_336, iv v6_339, iv v7_340, iv v8_341, iv v9_342, iv v10_344, iv v11_346, iv v12_348, rv bA, rv bB, .unset, .unset] [(.int v10_344), (.int v7_340)]))
          obtain ⟨_, _, ⟨T359, L359, k359, n359⟩, -, X359, ⟨Lc359, hQ359, l359, y359, z359⟩, st359⟩ := Jvm.LawKit.callS Xj350 hx (y := (⟨"com/example/headwright/headwright/HeaderEqualsIgnoringAsciiCasePinLaw", "same", "(CC)Z"⟩ : MethodName)) hown (mvT hZ (hw _ (List.mem_of_getElem? (i := 51) rfl))) (mvT hZ (hw _ (List.mem_of_getElem? (i := 52) rfl))) (mvT hZ (hw _ (List.mem_of_getElem? (i := 2) rfl))) (mvT hZ (hw _ (List.mem_of_getElem? (i := 53) rfl))) (by decide) (backOf (W := 0) (rmsm l Z a0 hw [] v7_340 v10_344 hp350 n0 Zj350) hZ (hw _ (List.mem_of_getElem? (i := 53) rfl)) (hw _ (List.mem_of_getElem? (i := 2) rfl)) (by decide) (by decide)) (g := (mkF m 208 #[iv p1, iv p2, iv p3, iv p4, iv p5, iv v5_336, iv v6_339, iv v7_340, iv v8_341, iv v9_342, iv v10_344, iv v11_346, iv v12_348, rv bA, rv bB, .unset, .unset] [(.int v10_344), (.int v7_340)])) rfl (by rw [hml]; rfl) (argsL := [(.int v7_340), (.int v10_344)]) (rest := []) (lenOf pd__28_CC_29_Z rfl) rfl (by show 2 * 0 + _ ≤ _; exact Nat.le_of_eq rfl) (hb hby at_208) (fun _ hv => ⟨rfl, ej350, (by decide : 2 + 0 ≤ _), (by decide : 6 + 0 ≤ _)⟩)
          dsimp only [Pt.U, Pt.locs, Pt.cells, Pt.slots] at X359 l359 y359 z359 st359 hQ359
          subst l359 y359 z359
          obtain ⟨rfl, Nq359, e359⟩ := hQ359
          refine own_by st359 ?_
          have N359 := Fr.app Nj350 Nq359
          show own_Fin _ _ _ _ (T359.setTop (mkF m 211 #[iv p1, iv p2, iv p3, iv p4, iv p5, iv v5_336, iv v6_339, iv v7_340, iv v8_341, iv v9_342, iv v10_344, iv v11_346, iv v12_348, rv bA, rv bB, .unset, .unset] [(.int (own_same v7_340 v10_344))]))
          by_cases hs1 : (own_same v7_340 v10_344) = (0 : Int32)
          · refine own_go (XS.ifYes X359.here hx rfl (pc0 := 211) (pc' := 250) rfl (hb hby at_211) rfl ((if0 _ _).trans (teq hs1).1) (by decide) (by decide) (Steps.refl _)) ?_
            show own_Fin _ _ _ _ (T359.setTop (mkF m 250 #[iv p1, iv p2, iv p3, iv p4, iv p5, iv v5_336, iv v6_339, iv v7_340, iv v8_341, iv v9_342, iv v10_344, iv v11_346, iv v12_348, rv bA, rv bB, .unset, .unset] []))
            refine own_go (XS.iconst X359.here hx rfl (hb hby at_250) (Steps.refl _)) ?_
            show own_Fin _ _ _ _ (T359.setTop (mkF m 251 #[iv p1, iv p2, iv p3, iv p4, iv p5, iv v5_336, iv v6_339, iv v7_340, iv v8_341, iv v9_342, iv v10_344, iv v11_346, iv v12_348, rv bA, rv bB, .unset, .unset] [(.int (0 : Int32))]))
            exact jn351 T359 _ (0 : Int32) X359 e359 N359 (by rw [own_exp, if_pos hll, if_neg (fun q => q.1.elim hl1 (fun y => y hs1))])
          · refine own_go (XS.ifNo X359.here hx rfl (hb hby at_211) rfl ((if0 _ _).trans (feq hs1).1) (Steps.refl _)) ?_
            show own_Fin _ _ _ _ (T359.setTop (mkF m 214 #[iv p1, iv p2, iv p3, iv p4, iv p5, iv v5_336, iv v6_339, iv v7_340, iv v8_341, iv v9_342, iv v10_344, iv v11_346, iv v12_348, rv bA, rv bB, .unset, .unset] []))
            refine own_go (XS.iload X359.here hx rfl (hb hby at_214) rfl (Steps.refl _)) ?_
            show own_Fin _ _ _ _ (T359.setTop (mkF m 216 #[iv p1, iv p2, iv p3, iv p4, iv p5, iv v5_336, iv v6_339, iv v7_340, iv v8_341, iv v9_342, iv v10_344, iv v11_346, iv v12_348, rv bA, rv bB, .unset, .unset] [(.int v5_336)]))
            refine own_go (XS.iconst X359.here hx rfl (hb hby at_216) (Steps.refl _)) ?_
            show own_Fin _ _ _ _ (T359.setTop (mkF m 217 #[iv p1, iv p2, iv p3, iv p4, iv p5, iv v5_336, iv v6_339, iv v7_340, iv v8_341, iv v9_342, iv v10_344, iv v11_346, iv v12_348, rv bA, rv bB, .unset, .unset] [(.int (2 : Int32)), (.int v5_336)]))
            by_cases hl2 : v5_336 < (2 : Int32)
            · refine own_go (XS.icmpYes X359.here hx rfl (pc0 := 217) (pc' := 230) rfl (hb hby at_217) rfl (tlt hl2).1 (by decide) (by decide) (Steps.refl _)) ?_
              show own_Fin _ _ _ _ (T359.setTop (mkF m 230 #[iv p1, iv p2, iv p3, iv p4, iv p5, iv v5_336, iv v6_339, iv v7_340, iv v8_341, iv v9_342, iv v10_344, iv v11_346, iv v12_348, rv bA, rv bB, .unset, .unset] []))
              refine own_go (XS.iload X359.here hx rfl (hb hby at_230) rfl (Steps.refl _)) ?_
              show own_Fin _ _ _ _ (T359.setTop (mkF m 232 #[iv p1, iv p2, iv p3, iv p4, iv p5, iv v5_336, iv v6_339, iv v7_340, iv v8_341, iv v9_342, iv v10_344, iv v11_346, iv v12_348, rv bA, rv bB, .unset, .unset] [(.int v5_336)]))
              refine own_go (XS.iconst X359.here hx rfl (hb hby at_232) (Steps.refl _)) ?_
              show own_Fin _ _ _ _ (T359.setTop (mkF m 233 #[iv p1, iv p2, iv p3, iv p4, iv p5, iv v5_336, iv v6_339, iv v7_340, iv v8_341, iv v9_342, iv v10_344, iv v11_346, iv v12_348, rv bA, rv bB, .unset, .unset] [(.int (3 : Int32)), (.int v5_336)]))
              refine own_go (XS.icmpYes X359.here hx rfl (pc0 := 233) (pc' := 246) rfl (hb hby at_233) rfl (tlt (show v5_336 < (3 : Int32) from own_llt hl2 (by decide))).1 (by decide) (by decide) (Steps.refl _)) ?_
              show own_Fin _ _ _ _ (T359.setTop (mkF m 246 #[iv p1, iv p2, iv p3, iv p4, iv p5, iv v5_336, iv v6_339, iv v7_340, iv v8_341, iv v9_342, iv v10_344, iv v11_346, iv v12_348, rv bA, rv bB, .unset, .unset] []))
              refine own_go (XS.iconst X359.here hx rfl (hb hby at_246) (Steps.refl _)) ?_
              show own_Fin _ _ _ _ (T359.setTop (mkF m 247 #[iv p1, iv p2, iv p3, iv p4, iv p5, iv v5_336, iv v6_339, iv v7_340, iv v8_341, iv v9_342, iv v10_344, iv v11_346, iv v12_348, rv bA, rv bB, .unset, .unset] [(.int (1 : Int32))]))
              refine own_go (XS.goto X359.here hx rfl (pc0 := 247) (pc' := 251) rfl (hb hby at_247) (by decide) (by decide) (Steps.refl _)) ?_
              show own_Fin _ _ _ _ (T359.setTop (mkF m 251 #[iv p1, iv p2, iv p3, iv p4, iv p5, iv v5_336, iv v6_339, iv v7_340, iv v8_341, iv v9_342, iv v10_344, iv v11_346, iv v12_348, rv bA, rv bB, .unset, .unset] [(.int (1 : Int32))]))
              exact jn351 T359 _ (1 : Int32) X359 e359 N359 (by rw [own_exp, if_pos hll, if_pos ⟨Or.inr hs1, Or.inl hl2, Or.inl (own_llt hl2 (by decide))⟩])
            · refine own_go (XS.icmpNo X359.here hx rfl (hb hby at_217) rfl (flt hl2).1 (Steps.refl _)) ?_
              show own_Fin _ _ _ _ (T359.setTop (mkF m 220 #[iv p1, iv p2, iv p3, iv p4, iv p5, iv v5_336, iv v6_339, iv v7_340, iv v8_341, iv v9_342, iv v10_344, iv v11_346, iv v12_348, rv bA, rv bB, .unset, .unset] []))
              refine own_go (XS.iload X359.here hx rfl (hb hby at_220) rfl (Steps.refl _)) ?_
              show own_Fin _ _ _ _ (T359.setTop (mkF m 222 #[iv p1, iv p2, iv p3, iv p4, iv p5, iv v5_336, iv v6_339, iv v7_340, iv v8_341, iv v9_342, iv v10_344, iv v11_346, iv v12_348, rv bA, rv bB, .unset, .unset] [(.int v8_341)]))
              refine own_go (XS.iload X359.here hx rfl (hb hby at_222) rfl (Steps.refl _)) ?_
              show own_Fin _ _ _ _ (T359.setTop (mkF m 224 #[iv p1, iv p2, iv p3, iv p4, iv p5, iv v5_336, iv v6_339, iv v7_340, iv v8_341, iv v9_342, iv v10_344, iv v11_346, iv v12_348, rv bA, rv bB, .unset, .unset] [(.int v11_346), (.int v8_341)]))
              obtain ⟨_, _, ⟨T360, L360, k360, n360⟩, -, X360, ⟨Lc360, hQ360, l360, y360, z360⟩, st360⟩ := Jvm.LawKit.callS X359 hx (y := (⟨"com/example/headwright/headwright/HeaderEqualsIgnoringAsciiCasePinLaw", "same", "(CC)Z"⟩ : MethodName)) hown (mvT hZ (hw _ (List.mem_of_getElem? (i := 51) rfl))) (mvT hZ (hw _ (List.mem_of_getElem? (i := 52) rfl))) (mvT hZ (hw _ (List.mem_of_getElem? (i := 2) rfl))) (mvT hZ (hw _ (List.mem_of_getElem? (i := 53) rfl))) (by decide) (backOf (W := 0) (rmsm l Z a0 hw [] v8_341 v11_346 hp350 n0 Zj350) hZ (hw _ (List.mem_of_getElem? (i := 53) rfl)) (hw _ (List.mem_of_getElem? (i := 2) rfl)) (by decide) (by decide)) (g := (mkF m 224 #[iv p1, iv p2, iv p3, iv p4, iv p5, iv v5_336, iv v6_339, iv v7_340, iv v8_341, iv v9_342, iv v10_344, iv v11_346, iv v12_348, rv bA, rv bB, .unset, .unset] [(.int v11_346), (.int v8_341)])) rfl (by rw [hml]; rfl) (argsL := [(.int v8_341), (.int v11_346)]) (rest := []) (lenOf pd__28_CC_29_Z rfl) rfl (by show 2 * 0 + _ ≤ _; exact Nat.le_of_eq rfl) (hb hby at_224) (fun _ hv => ⟨rfl, e359, (by decide : 2 + 0 ≤ _), (by decide : 6 + 0 ≤ _)⟩)
              dsimp only [Pt.U, Pt.locs, Pt.cells, Pt.slots] at X360 l360 y360 z360 st360 hQ360
              subst l360 y360 z360
              obtain ⟨rfl, Nq360, e360⟩ := hQ360
              refine own_by st360 ?_
              have N360 := Fr.app N359 Nq360
              show own_Fin _ _ _ _ (T360.setTop (mkF m 227 #[iv p1, iv p2, iv p3, iv p4, iv p5, iv v5_336, iv v6_339, iv v7_340, iv v8_341, iv v9_342, iv v10_344, iv v11_346, iv v12_348, rv bA, rv bB, .unset, .unset] [(.int (own_same v8_341 v11_346))]))
              by_cases hs2 : (own_same v8_341 v11_346) = (0 : Int32)
              · refine own_go (XS.ifYes X360.here hx rfl (pc0 := 227) (pc' := 250) rfl (hb hby at_227) rfl ((if0 _ _).trans (teq hs2).1) (by decide) (by decide) (Steps.refl _)) ?_
                show own_Fin _ _ _ _ (T360.setTop (mkF m 250 #[iv p1, iv p2, iv p3, iv p4, iv p5, iv v5_336, iv v6_339, iv v7_340, iv v8_341, iv v9_342, iv v10_344, iv v11_346, iv v12_348, rv bA, rv bB, .unset, .unset] []))
                refine own_go (XS.iconst X360.here hx rfl (hb hby at_250) (Steps.refl _)) ?_
                show own_Fin _ _ _ _ (T360.setTop (mkF m 251 #[iv p1, iv p2, iv p3, iv p4, iv p5, iv v5_336, iv v6_339, iv v7_340, iv v8_341, iv v9_342, iv v10_344, iv v11_346, iv v12_348, rv bA, rv bB, .unset, .unset] [(.int (0 : Int32))]))
                exact jn351 T360 _ (0 : Int32) X360 e360 N360 (by rw [own_exp, if_pos hll, if_neg (fun q => q.2.1.elim hl2 (fun y => y hs2))])
              · refine own_go (XS.ifNo X360.here hx rfl (hb hby at_227) rfl ((if0 _ _).trans (feq hs2).1) (Steps.refl _)) ?_
                show own_Fin _ _ _ _ (T360.setTop (mkF m 230 #[iv p1, iv p2, iv p3, iv p4, iv p5, iv v5_336, iv v6_339, iv v7_340, iv v8_341, iv v9_342, iv v10_344, iv v11_346, iv v12_348, rv bA, rv bB, .unset, .unset] []))
                refine own_go (XS.iload X360.here hx rfl (hb hby at_230) rfl (Steps.refl _)) ?_
                show own_Fin _ _ _ _ (T360.setTop (mkF m 232 #[iv p1, iv p2, iv p3, iv p4, iv p5, iv v5_336, iv v6_339, iv v7_340, iv v8_341, iv v9_342, iv v10_344, iv v11_346, iv v12_348, rv bA, rv bB, .unset, .unset] [(.int v5_336)]))
                refine own_go (XS.iconst X360.here hx rfl (hb hby at_232) (Steps.refl _)) ?_
                show own_Fin _ _ _ _ (T360.setTop (mkF m 233 #[iv p1, iv p2, iv p3, iv p4, iv p5, iv v5_336, iv v6_339, iv v7_340, iv v8_341, iv v9_342, iv v10_344, iv v11_346, iv v12_348, rv bA, rv bB, .unset, .unset] [(.int (3 : Int32)), (.int v5_336)]))
                by_cases hl3 : v5_336 < (3 : Int32)
                · refine own_go (XS.icmpYes X360.here hx rfl (pc0 := 233) (pc' := 246) rfl (hb hby at_233) rfl (tlt hl3).1 (by decide) (by decide) (Steps.refl _)) ?_
                  show own_Fin _ _ _ _ (T360.setTop (mkF m 246 #[iv p1, iv p2, iv p3, iv p4, iv p5, iv v5_336, iv v6_339, iv v7_340, iv v8_341, iv v9_342, iv v10_344, iv v11_346, iv v12_348, rv bA, rv bB, .unset, .unset] []))
                  refine own_go (XS.iconst X360.here hx rfl (hb hby at_246) (Steps.refl _)) ?_
                  show own_Fin _ _ _ _ (T360.setTop (mkF m 247 #[iv p1, iv p2, iv p3, iv p4, iv p5, iv v5_336, iv v6_339, iv v7_340, iv v8_341, iv v9_342, iv v10_344, iv v11_346, iv v12_348, rv bA, rv bB, .unset, .unset] [(.int (1 : Int32))]))
                  refine own_go (XS.goto X360.here hx rfl (pc0 := 247) (pc' := 251) rfl (hb hby at_247) (by decide) (by decide) (Steps.refl _)) ?_
                  show own_Fin _ _ _ _ (T360.setTop (mkF m 251 #[iv p1, iv p2, iv p3, iv p4, iv p5, iv v5_336, iv v6_339, iv v7_340, iv v8_341, iv v9_342, iv v10_344, iv v11_346, iv v12_348, rv bA, rv bB, .unset, .unset] [(.int (1 : Int32))]))
                  exact jn351 T360 _ (1 : Int32) X360 e360 N360 (by rw [own_exp, if_pos hll, if_pos ⟨Or.inr hs1, Or.inr hs2, Or.inl hl3⟩])
                · refine own_go (XS.icmpNo X360.here hx rfl (hb hby at_233) rfl (flt hl3).1 (Steps.refl _)) ?_
                  show own_Fin _ _ _ _ (T360.setTop (mkF m 236 #[iv p1, iv p2, iv p3, iv p4, iv p5, iv v5_336, iv v6_339, iv v7_340, iv v8_341, iv v9_342, iv v10_344, iv v11_346, iv v12_348, rv bA, rv bB, .unset, .unset] []))
                  refine own_go (XS.iload X360.here hx rfl (hb hby at_236) rfl (Steps.refl _)) ?_
                  show own_Fin _ _ _ _ (T360.setTop (mkF m 238 #[iv p1, iv p2, iv p3, iv p4, iv p5, iv v5_336, iv v6_339, iv v7_340, iv v8_341, iv v9_342, iv v10_344, iv v11_346, iv v12_348, rv bA, rv bB, .unset, .unset] [(.int v9_342)]))
                  refine own_go (XS.iload X360.here hx rfl (hb hby at_238) rfl (Steps.refl _)) ?_
                  show own_Fin _ _ _ _ (T360.setTop (mkF m 240 #[iv p1, iv p2, iv p3, iv p4, iv p5, iv v5_336, iv v6_339, iv v7_340, iv v8_341, iv v9_342, iv v10_344, iv v11_346, iv v12_348, rv bA, rv bB, .unset, .unset] [(.int v12_348), (.int v9_342)]))
                  obtain ⟨_, _, ⟨T361, L361, k361, n361⟩, -, X361, ⟨Lc361, hQ361, l361, y361, z361⟩, st361⟩ := Jvm.LawKit.callS X360 hx (y := (⟨"com/example/headwright/headwright/HeaderEqualsIgnoringAsciiCasePinLaw", "same", "(CC)Z"⟩ : MethodName)) hown (mvT hZ (hw _ (List.mem_of_getElem? (i := 51) rfl))) (mvT hZ (hw _ (List.mem_of_getElem? (i := 52) rfl))) (mvT hZ (hw _ (List.mem_of_getElem? (i := 2) rfl))) (mvT hZ (hw _ (List.mem_of_getElem? (i := 53) rfl))) (by decide) (backOf (W := 0) (rmsm l Z a0 hw [] v9_342 v12_348 hp350 n0 Zj350) hZ (hw _ (List.mem_of_getElem? (i := 53) rfl)) (hw _ (List.mem_of_getElem? (i := 2) rfl)) (by decide) (by decide)) (g := (mkF m 240 #[iv p1, iv p2, iv p3, iv p4, iv p5, iv v5_336, iv v6_339, iv v7_340, iv v8_341, iv v9_342, iv v10_344, iv v11_346, iv v12_348, rv bA, rv bB, .unset, .unset] [(.int v12_348), (.int v9_342)])) rfl (by rw [hml]; rfl) (argsL := [(.int v9_342), (.int v12_348)]) (rest := []) (lenOf pd__28_CC_29_Z rfl) rfl (by show 2 * 0 + _ ≤ _; exact Nat.le_of_eq rfl) (hb hby at_240) (fun _ hv => ⟨rfl, e360, (by decide : 2 + 0 ≤ _), (by decide : 6 + 0 ≤ _)⟩)
                  dsimp only [Pt.U, Pt.locs, Pt.cells, Pt.slots] at X361 l361 y361 z361 st361 hQ361
                  subst l361 y361 z361
                  obtain ⟨rfl, Nq361, e361⟩ := hQ361
                  refine own_by st361 ?_
                  have N361 := Fr.app N360 Nq361
                  show own_Fin _ _ _ _ (T361.setTop (mkF m 243 #[iv p1, iv p2, iv p3, iv p4, iv p5, iv v5_336, iv v6_339, iv v7_340, iv v8_341, iv v9_342, iv v10_344, iv v11_346, iv v12_348, rv bA, rv bB, .unset, .unset] [(.int (own_same v9_342 v12_348))]))
                  by_cases hs3 : (own_same v9_342 v12_348) = (0 : Int32)
                  · refine own_go (XS.ifYes X361.here hx rfl (pc0 := 243) (pc' := 250) rfl (hb hby at_243) rfl ((if0 _ _).trans (teq hs3).1) (by decide) (by decide) (Steps.refl _)) ?_
                    show own_Fin _ _ _ _ (T361.setTop (mkF m 250 #[iv p1, iv p2, iv p3, iv p4, iv p5, iv v5_336, iv v6_339, iv v7_340, iv v8_341, iv v9_342, iv v10_344, iv v11_346, iv v12_348, rv bA, rv bB, .unset, .unset] []))
                    refine own_go (XS.iconst X361.here hx rfl (hb hby at_250) (Steps.refl _)) ?_
                    show own_Fin _ _ _ _ (T361.setTop (mkF m 251 #[iv p1, iv p2, iv p3, iv p4, iv p5, iv v5_336, iv v6_339, iv v7_340, iv v8_341, iv v9_342, iv v10_344, iv v11_346, iv v12_348, rv bA, rv bB, .unset, .unset] [(.int (0 : Int32))]))
                    exact jn351 T361 _ (0 : Int32) X361 e361 N361 (by rw [own_exp, if_pos hll, if_neg (fun q => q.2.2.elim hl3 (fun y => y hs3))])
                  · refine own_go (XS.ifNo X361.here hx rfl (hb hby at_243) rfl ((if0 _ _).trans (feq hs3).1) (Steps.refl _)) ?_
                    show own_Fin _ _ _ _ (T361.setTop (mkF m 246 #[iv p1, iv p2, iv p3, iv p4, iv p5, iv v5_336, iv v6_339, iv v7_340, iv v8_341, iv v9_342, iv v10_344, iv v11_346, iv v12_348, rv bA, rv bB, .unset, .unset] []))
                    refine own_go (XS.iconst X361.here hx rfl (hb hby at_246) (Steps.refl _)) ?_
                    show own_Fin _ _ _ _ (T361.setTop (mkF m 247 #[iv p1, iv p2, iv p3, iv p4, iv p5, iv v5_336, iv v6_339, iv v7_340, iv v8_341, iv v9_342, iv v10_344, iv v11_346, iv v12_348, rv bA, rv bB, .unset, .unset] [(.int (1 : Int32))]))
                    refine own_go (XS.goto X361.here hx rfl (pc0 := 247) (pc' := 251) rfl (hb hby at_247) (by decide) (by decide) (Steps.refl _)) ?_
                    show own_Fin _ _ _ _ (T361.setTop (mkF m 251 #[iv p1, iv p2, iv p3, iv p4, iv p5, iv v5_336, iv v6_339, iv v7_340, iv v8_341, iv v9_342, iv v10_344, iv v11_346, iv v12_348, rv bA, rv bB, .unset, .unset] [(.int (1 : Int32))]))
                    exact jn351 T361 _ (1 : Int32) X361 e361 N361 (by rw [own_exp, if_pos hll, if_pos ⟨Or.inr hs1, Or.inr hs2, Or.inr hs3⟩])
      · refine own_go (XS.icmpYes Xj350.here hx rfl (pc0 := 195) (pc' := 250) rfl (hb hby at_195) rfl (feq hll).2 (by decide) (by decide) (Steps.refl _)) ?_
        show own_Fin _ _ _ _ (Tj350.setTop (mkF m 250 #[iv p1, iv p2, iv p3, iv p4, iv p5, iv v5_336, iv v6_339, iv v7_340, iv v8_341, iv v9_342, iv v10_344, iv v11_346, iv v12_348, rv bA, rv bB, .unset, .unset] []))
        refine own_go (XS.iconst Xj350.here hx rfl (hb hby at_250) (Steps.refl _)) ?_
        show own_Fin _ _ _ _ (Tj350.setTop (mkF m 251 #[iv p1, iv p2, iv p3, iv p4, iv p5, iv v5_336, iv v6_339, iv v7_340, iv v8_341, iv v9_342, iv v10_344, iv v11_346, iv v12_348, rv bA, rv bB, .unset, .unset] [(.int (0 : Int32))]))
        exact jn351 Tj350 _ (0 : Int32) Xj350 ej350 Nj350 (by rw [own_exp, if_neg hll])
    have hcs362 : v6_339 = (0 : Int32) ∨ v6_339 = (1 : Int32) ∨ v6_339 = (2 : Int32) ∨ v6_339 = (3 : Int32) := hlb
    rcases hcs362 with rfl | rfl | rfl | rfl
    · show own_Fin _ _ _ _ (Tj349.setTop (mkF m 150 #[iv p1, iv p2, iv p3, iv p4, iv p5, iv v5_336, iv (0 : Int32), iv v7_340, iv v8_341, iv v9_342, iv v10_344, iv v11_346, iv v12_348, rv bA, .unset, .unset, .unset] []))
      refine own_go (XS.iload Xj349.here hx rfl (hb hby at_150) rfl (Steps.refl _)) ?_
      show own_Fin _ _ _ _ (Tj349.setTop (mkF m 152 #[iv p1, iv p2, iv p3, iv p4, iv p5, iv v5_336, iv (0 : Int32), iv v7_340, iv v8_341, iv v9_342, iv v10_344, iv v11_346, iv v12_348, rv bA, .unset, .unset, .unset] [(.int (0 : Int32))]))
      obtain ⟨T363, h363, k363, X363, e363, E363, A363, st363⟩ := newP Xj349 hx hZ (hw _ (List.mem_of_getElem? (i := 4) rfl)) ej349 (g := (mkF m 152 #[iv p1, iv p2, iv p3, iv p4, iv p5, iv v5_336, iv (0 : Int32), iv v7_340, iv v8_341, iv v9_342, iv v10_344, iv v11_346, iv v12_348, rv bA, .unset, .unset, .unset] [(.int (0 : Int32))])) rfl (hb hby at_152) rfl (by decide) (cap := 0) (by decide) (by decide) (by decide) (by decide)
      obtain ⟨b363, g363⟩ : ∃ z, z = hp349.size := ⟨_, rfl⟩
      rw [← g363] at A363 st363
      refine own_by st363 ?_
      have ne_bA_b363 : bA ≠ b363 := Nat.ne_of_lt (Nat.lt_of_lt_of_eq V_bA_j349.lt g363.symm)
      have Od363 := Oj349.ext E363
      have V_bA_j349_363 := V_bA_j349.ext E363
      have g_b363 : n0 ≤ b363 := Nat.le_trans Zj349 (Nat.le_of_eq g363.symm)
      have Z363 : n0 ≤ h363.size := Nat.le_trans Zj349 E363.1
      have hk363 : 0 ≤ h363.size := Nat.le_trans hkj349 E363.1
      have V_b363 : Arv Z h363 b363 k363 .char (0 : Int32) [] (.int (0 : Int32)) := (Arv.new A363 (by decide)).pad (pad_rep [] (.int (0 : Int32)) 0)
      show own_Fin _ _ _ _ (T363.setTop (mkF m 154 #[iv p1, iv p2, iv p3, iv p4, iv p5, iv v5_336, iv (0 : Int32), iv v7_340, iv v8_341, iv v9_342, iv v10_344, iv v11_346, iv v12_348, rv bA, .unset, .unset, .unset] [(.ref b363)]))
      refine own_go (XS.astore X363.here hx rfl (hb hby at_154) rfl rfl rfl (Steps.refl _)) ?_
      show own_Fin _ _ _ _ (T363.setTop (mkF m 156 #[iv p1, iv p2, iv p3, iv p4, iv p5, iv v5_336, iv (0 : Int32), iv v7_340, iv v8_341, iv v9_342, iv v10_344, iv v11_346, iv v12_348, rv bA, rv b363, .unset, .unset] []))
      refine own_go (XS.iload X363.here hx rfl (hb hby at_156) rfl (Steps.refl _)) ?_
      show own_Fin _ _ _ _ (T363.setTop (mkF m 158 #[iv p1, iv p2, iv p3, iv p4, iv p5, iv v5_336, iv (0 : Int32), iv v7_340, iv v8_341, iv v9_342, iv v10_344, iv v11_346, iv v12_348, rv bA, rv b363, .unset, .unset] [(.int (0 : Int32))]))
      refine own_go (XS.ifYes X363.here hx rfl (pc0 := 158) (pc' := 167) rfl (hb hby at_158) rfl ((if0 _ _).trans (flt (by decide : ¬ ((0 : Int32) < (0 : Int32)))).2.2.2) (by decide) (by decide) (Steps.refl _)) ?_
      show own_Fin _ _ _ _ (T363.setTop (mkF m 167 #[iv p1, iv p2, iv p3, iv p4, iv p5, iv v5_336, iv (0 : Int32), iv v7_340, iv v8_341, iv v9_342, iv v10_344, iv v11_346, iv v12_348, rv bA, rv b363, .unset, .unset] []))
      refine own_go (XS.iload X363.here hx rfl (hb hby at_167) rfl (Steps.refl _)) ?_
      show own_Fin _ _ _ _ (T363.setTop (mkF m 169 #[iv p1, iv p2, iv p3, iv p4, iv p5, iv v5_336, iv (0 : Int32), iv v7_340, iv v8_341, iv v9_342, iv v10_344, iv v11_346, iv v12_348, rv bA, rv b363, .unset, .unset] [(.int (0 : Int32))]))
      refine own_go (XS.iconst X363.here hx rfl (hb hby at_169) (Steps.refl _)) ?_
      show own_Fin _ _ _ _ (T363.setTop (mkF m 170 #[iv p1, iv p2, iv p3, iv p4, iv p5, iv v5_336, iv (0 : Int32), iv v7_340, iv v8_341, iv v9_342, iv v10_344, iv v11_346, iv v12_348, rv bA, rv b363, .unset, .unset] [(.int (1 : Int32)), (.int (0 : Int32))]))
      refine own_go (XS.icmpYes X363.here hx rfl (pc0 := 170) (pc' := 179) rfl (hb hby at_170) rfl (flt (by decide : ¬ ((1 : Int32) < (0 : Int32)))).2.2.2 (by decide) (by decide) (Steps.refl _)) ?_
      show own_Fin _ _ _ _ (T363.setTop (mkF m 179 #[iv p1, iv p2, iv p3, iv p4, iv p5, iv v5_336, iv (0 : Int32), iv v7_340, iv v8_341, iv v9_342, iv v10_344, iv v11_346, iv v12_348, rv bA, rv b363, .unset, .unset] []))
      refine own_go (XS.iload X363.here hx rfl (hb hby at_179) rfl (Steps.refl _)) ?_
      show own_Fin _ _ _ _ (T363.setTop (mkF m 181 #[iv p1, iv p2, iv p3, iv p4, iv p5, iv v5_336, iv (0 : Int32), iv v7_340, iv v8_341, iv v9_342, iv v10_344, iv v11_346, iv v12_348, rv bA, rv b363, .unset, .unset] [(.int (0 : Int32))]))
      refine own_go (XS.iconst X363.here hx rfl (hb hby at_181) (Steps.refl _)) ?_
      show own_Fin _ _ _ _ (T363.setTop (mkF m 182 #[iv p1, iv p2, iv p3, iv p4, iv p5, iv v5_336, iv (0 : Int32), iv v7_340, iv v8_341, iv v9_342, iv v10_344, iv v11_346, iv v12_348, rv bA, rv b363, .unset, .unset] [(.int (2 : Int32)), (.int (0 : Int32))]))
      refine own_go (XS.icmpYes X363.here hx rfl (pc0 := 182) (pc' := 191) rfl (hb hby at_182) rfl (flt (by decide : ¬ ((2 : Int32) < (0 : Int32)))).2.2.2 (by decide) (by decide) (Steps.refl _)) ?_
      show own_Fin _ _ _ _ (T363.setTop (mkF m 191 #[iv p1, iv p2, iv p3, iv p4, iv p5, iv v5_336, iv (0 : Int32), iv v7_340, iv v8_341, iv v9_342, iv v10_344, iv v11_346, iv v12_348, rv bA, rv b363, .unset, .unset] []))
      exact hj350 T363 _ h363 b363 k363 (X363.more (by decide) (by decide)) e363 Nj349 Z363 Od363 V_bA_j349_363 V_b363 g_b363
    · show own_Fin _ _ _ _ (Tj349.setTop (mkF m 150 #[iv p1, iv p2, iv p3, iv p4, iv p5, iv v5_336, iv (1 : Int32), iv v7_340, iv v8_341, iv v9_342, iv v10_344, iv v11_346, iv v12_348, rv bA, .unset, .unset, .unset] []))
      refine own_go (XS.iload Xj349.here hx rfl (hb hby at_150) rfl (Steps.refl _)) ?_
      show own_Fin _ _ _ _ (Tj349.setTop (mkF m 152 #[iv p1, iv p2, iv p3, iv p4, iv p5, iv v5_336, iv (1 : Int32), iv v7_340, iv v8_341, iv v9_342, iv v10_344, iv v11_346, iv v12_348, rv bA, .unset, .unset, .unset] [(.int (1 : Int32))]))
      obtain ⟨T364, h364, k364, X364, e364, E364, A364, st364⟩ := newP Xj349 hx hZ (hw _ (List.mem_of_getElem? (i := 4) rfl)) ej349 (g := (mkF m 152 #[iv p1, iv p2, iv p3, iv p4, iv p5, iv v5_336, iv (1 : Int32), iv v7_340, iv v8_341, iv v9_342, iv v10_344, iv v11_346, iv v12_348, rv bA, .unset, .unset, .unset] [(.int (1 : Int32))])) rfl (hb hby at_152) rfl (by decide) (cap := 1) (by decide) (by decide) (by decide) (by decide)
      obtain ⟨b364, g364⟩ : ∃ z, z = hp349.size := ⟨_, rfl⟩
      rw [← g364] at A364 st364
      refine own_by st364 ?_
      have ne_bA_b364 : bA ≠ b364 := Nat.ne_of_lt (Nat.lt_of_lt_of_eq V_bA_j349.lt g364.symm)
      have Od364 := Oj349.ext E364
      have V_bA_j349_364 := V_bA_j349.ext E364
      have g_b364 : n0 ≤ b364 := Nat.le_trans Zj349 (Nat.le_of_eq g364.symm)
      have Z364 : n0 ≤ h364.size := Nat.le_trans Zj349 E364.1
      have hk364 : 0 ≤ h364.size := Nat.le_trans hkj349 E364.1
      have V_b364 : Arv Z h364 b364 k364 .char (1 : Int32) [(.int (0 : Int32))] (.int (0 : Int32)) := (Arv.new A364 (by decide)).pad (pad_rep [] (.int (0 : Int32)) 1)
      show own_Fin _ _ _ _ (T364.setTop (mkF m 154 #[iv p1, iv p2, iv p3, iv p4, iv p5, iv v5_336, iv (1 : Int32), iv v7_340, iv v8_341, iv v9_342, iv v10_344, iv v11_346, iv v12_348, rv bA, .unset, .unset, .unset] [(.ref b364)]))
      refine own_go (XS.astore X364.here hx rfl (hb hby at_154) rfl rfl rfl (Steps.refl _)) ?_
      show own_Fin _ _ _ _ (T364.setTop (mkF m 156 #[iv p1, iv p2, iv p3, iv p4, iv p5, iv v5_336, iv (1 : Int32), iv v7_340, iv v8_341, iv v9_342, iv v10_344, iv v11_346, iv v12_348, rv bA, rv b364, .unset, .unset] []))
      refine own_go (XS.iload X364.here hx rfl (hb hby at_156) rfl (Steps.refl _)) ?_
      show own_Fin _ _ _ _ (T364.setTop (mkF m 158 #[iv p1, iv p2, iv p3, iv p4, iv p5, iv v5_336, iv (1 : Int32), iv v7_340, iv v8_341, iv v9_342, iv v10_344, iv v11_346, iv v12_348, rv bA, rv b364, .unset, .unset] [(.int (1 : Int32))]))
      refine own_go (XS.ifNo X364.here hx rfl (hb hby at_158) rfl ((if0 _ _).trans (tlt (by decide : (0 : Int32) < (1 : Int32))).2.2.2) (Steps.refl _)) ?_
      show own_Fin _ _ _ _ (T364.setTop (mkF m 161 #[iv p1, iv p2, iv p3, iv p4, iv p5, iv v5_336, iv (1 : Int32), iv v7_340, iv v8_341, iv v9_342, iv v10_344, iv v11_346, iv v12_348, rv bA, rv b364, .unset, .unset] []))
      refine own_go (XS.aload X364.here hx rfl (hb hby at_161) rfl rfl (Steps.refl _)) ?_
      show own_Fin _ _ _ _ (T364.setTop (mkF m 163 #[iv p1, iv p2, iv p3, iv p4, iv p5, iv v5_336, iv (1 : Int32), iv v7_340, iv v8_341, iv v9_342, iv v10_344, iv v11_346, iv v12_348, rv bA, rv b364, .unset, .unset] [(.ref b364)]))
      refine own_go (XS.iconst X364.here hx rfl (hb hby at_163) (Steps.refl _)) ?_
      show own_Fin _ _ _ _ (T364.setTop (mkF m 164 #[iv p1, iv p2, iv p3, iv p4, iv p5, iv v5_336, iv (1 : Int32), iv v7_340, iv v8_341, iv v9_342, iv v10_344, iv v11_346, iv v12_348, rv bA, rv b364, .unset, .unset] [(.int (0 : Int32)), (.ref b364)]))
      refine own_go (XS.iload X364.here hx rfl (hb hby at_164) rfl (Steps.refl _)) ?_
      show own_Fin _ _ _ _ (T364.setTop (mkF m 166 #[iv p1, iv p2, iv p3, iv p4, iv p5, iv v5_336, iv (1 : Int32), iv v7_340, iv v8_341, iv v9_342, iv v10_344, iv v11_346, iv v12_348, rv bA, rv b364, .unset, .unset] [(.int v10_344), (.int (0 : Int32)), (.ref b364)]))
      obtain ⟨cl365, Ar365, qa365, Sa365, Na365, Ha365, Ga365⟩ := id V_b364
      have hin365 : ¬ ((0 : Int32) < 0 ∨ cl365.slots.size ≤ ((0 : Int32)).toNatClampNeg) := inb_of Sa365 ⟨by decide, by decide⟩
      obtain ⟨T366, h366, X366, e366, W366, st366⟩ := stC X364 hx hZ e364 Ar365 (j := (0 : Int32)) hin365 (g := (mkF m 166 #[iv p1, iv p2, iv p3, iv p4, iv p5, iv v5_336, iv (1 : Int32), iv v7_340, iv v8_341, iv v9_342, iv v10_344, iv v11_346, iv v12_348, rv bA, rv b364, .unset, .unset] [(.int v10_344), (.int (0 : Int32)), (.ref b364)])) rfl rfl (hb hby at_166)
      refine own_by st366 ?_
      have hnr366 : nar .char v10_344 = v10_344 := own_chn hr_v10_344
      rw [hnr366] at W366
      have V_b364_366 : Arv Z h366 b364 k364 .char (1 : Int32) [(.int v10_344)] (.int (0 : Int32)) := Arv.set Ar365 qa365 Sa365 Na365 Ha365 Ga365 (hnr366 ▸ fits_nar_char v10_344) W366 0 rfl (Nat.le_of_ble_eq_true rfl)
      have Od366 := Od364.wr W366 g_b364
      have V_bA_j349_366 := V_bA_j349_364.other W366 ne_bA_b364
      have N366 := Fr.snoc X366 Nj349 g_b364
      have Z366 : n0 ≤ h366.size := Nat.le_trans Z364 (Keep.of_wr W366).1
      have hk366 : 0 ≤ h366.size := Nat.le_trans hk364 (Keep.of_wr W366).1
      show own_Fin _ _ _ _ (T366.setTop (mkF m 167 #[iv p1, iv p2, iv p3, iv p4, iv p5, iv v5_336, iv (1 : Int32), iv v7_340, iv v8_341, iv v9_342, iv v10_344, iv v11_346, iv v12_348, rv bA, rv b364, .unset, .unset] []))
      refine own_go (XS.iload X366.here hx rfl (hb hby at_167) rfl (Steps.refl _)) ?_
      show own_Fin _ _ _ _ (T366.setTop (mkF m 169 #[iv p1, iv p2, iv p3, iv p4, iv p5, iv v5_336, iv (1 : Int32), iv v7_340, iv v8_341, iv v9_342, iv v10_344, iv v11_346, iv v12_348, rv bA, rv b364, .unset, .unset] [(.int (1 : Int32))]))
      refine own_go (XS.iconst X366.here hx rfl (hb hby at_169) (Steps.refl _)) ?_
      show own_Fin _ _ _ _ (T366.setTop (mkF m 170 #[iv p1, iv p2, iv p3, iv p4, iv p5, iv v5_336, iv (1 : Int32), iv v7_340, iv v8_341, iv v9_342, iv v10_344, iv v11_346, iv v12_348, rv bA, rv b364, .unset, .unset] [(.int (1 : Int32)), (.int (1 : Int32))]))
      refine own_go (XS.icmpYes X366.here hx rfl (pc0 := 170) (pc' := 179) rfl (hb hby at_170) rfl (flt (by decide : ¬ ((1 : Int32) < (1 : Int32)))).2.2.2 (by decide) (by decide) (Steps.refl _)) ?_
      show own_Fin _ _ _ _ (T366.setTop (mkF m 179 #[iv p1, iv p2, iv p3, iv p4, iv p5, iv v5_336, iv (1 : Int32), iv v7_340, iv v8_341, iv v9_342, iv v10_344, iv v11_346, iv v12_348, rv bA, rv b364, .unset, .unset] []))
      refine own_go (XS.iload X366.here hx rfl (hb hby at_179) rfl (Steps.refl _)) ?_
      show own_Fin _ _ _ _ (T366.setTop (mkF m 181 #[iv p1, iv p2, iv p3, iv p4, iv p5, iv v5_336, iv (1 : Int32), iv v7_340, iv v8_341, iv v9_342, iv v10_344, iv v11_346, iv v12_348, rv bA, rv b364, .unset, .unset] [(.int (1 : Int32))]))
      refine own_go (XS.iconst X366.here hx rfl (hb hby at_181) (Steps.refl _)) ?_
      show own_Fin _ _ _ _ (T366.setTop (mkF m 182 #[iv p1, iv p2, iv p3, iv p4, iv p5, iv v5_336, iv (1 : Int32), iv v7_340, iv v8_341, iv v9_342, iv v10_344, iv v11_346, iv v12_348, rv bA, rv b364, .unset, .unset] [(.int (2 : Int32)), (.int (1 : Int32))]))
      refine own_go (XS.icmpYes X366.here hx rfl (pc0 := 182) (pc' := 191) rfl (hb hby at_182) rfl (flt (by decide : ¬ ((2 : Int32) < (1 : Int32)))).2.2.2 (by decide) (by decide) (Steps.refl _)) ?_
      show own_Fin _ _ _ _ (T366.setTop (mkF m 191 #[iv p1, iv p2, iv p3, iv p4, iv p5, iv v5_336, iv (1 : Int32), iv v7_340, iv v8_341, iv v9_342, iv v10_344, iv v11_346, iv v12_348, rv bA, rv b364, .unset, .unset] []))
      exact hj350 T366 _ h366 b364 k364 (X366.more (by decide) (by decide)) e366 N366 Z366 Od366 V_bA_j349_366 V_b364_366 g_b364
    · show own_Fin _ _ _ _ (Tj349.setTop (mkF m 150 #[iv p1, iv p2, iv p3, iv p4, iv p5, iv v5_336, iv (2 : Int32), iv v7_340, iv v8_341, iv v9_342, iv v10_344, iv v11_346, iv v12_348, rv bA, .unset, .unset, .unset] []))
      refine own_go (XS.iload Xj349.here hx rfl (hb hby at_150) rfl (Steps.refl _)) ?_
      show own_Fin _ _ _ _ (Tj349.setTop (mkF m 152 #[iv p1, iv p2, iv p3, iv p4, iv p5, iv v5_336, iv (2 : Int32), iv v7_340, iv v8_341, iv v9_342, iv v10_344, iv v11_346, iv v12_348, rv bA, .unset, .unset, .unset] [(.int (2 : Int32))]))
      obtain ⟨T367, h367, k367, X367, e367, E367, A367, st367⟩ := newP Xj349 hx hZ (hw _ (List.mem_of_getElem? (i := 4) rfl)) ej349 (g := (mkF m 152 #[iv p1, iv p2, iv p3, iv p4, iv p5, iv v5_336, iv (2 : Int32), iv v7_340, iv v8_341, iv v9_342, iv v10_344, iv v11_346, iv v12_348, rv bA, .unset, .unset, .unset] [(.int (2 : Int32))])) rfl (hb hby at_152) rfl (by decide) (cap := 2) (by decide) (by decide) (by decide) (by decide)
      obtain ⟨b367, g367⟩ : ∃ z, z = hp349.size := ⟨_, rfl⟩
      rw [← g367] at A367 st367
      refine own_by st367 ?_
      have ne_bA_b367 : bA ≠ b367 := Nat.ne_of_lt (Nat.lt_of_lt_of_eq V_bA_j349.lt g367.symm)
      have Od367 := Oj349.ext E367
      have V_bA_j349_367 := V_bA_j349.ext E367
      have g_b367 : n0 ≤ b367 := Nat.le_trans Zj349 (Nat.le_of_eq g367.symm)
      have Z367 : n0 ≤ h367.size := Nat.le_trans Zj349 E367.1
      have hk367 : 0 ≤ h367.size := Nat.le_trans hkj349 E367.1
      have V_b367 : Arv Z h367 b367 k367 .char (2 : Int32) [(.int (0 : Int32)), (.int (0 : Int32))] (.int (0 : Int32)) := (Arv.new A367 (by decide)).pad (pad_rep [] (.int (0 : Int32)) 2)
      show own_Fin _ _ _ _ (T367.setTop (mkF m 154 #[iv p1, iv p2, iv p3, iv p4, iv p5, iv v5_336, iv (2 : Int32), iv v7_340, iv v8_341, iv v9_342, iv v10_344, iv v11_346, iv v12_348, rv bA, .unset, .unset, .unset] [(.ref b367)]))
      refine own_go (XS.astore X367.here hx rfl (hb hby at_154) rfl rfl rfl (Steps.refl _)) ?_
      show own_Fin _ _ _ _ (T367.setTop (mkF m 156 #[iv p1, iv p2, iv p3, iv p4, iv p5, iv v5_336, iv (2 : Int32), iv v7_340, iv v8_341, iv v9_342, iv v10_344, iv v11_346, iv v12_348, rv bA, rv b367, .unset, .unset] []))
      refine own_go (XS.iload X367.here hx rfl (hb hby at_156) rfl (Steps.refl _)) ?_
      show own_Fin _ _ _ _ (T367.setTop (mkF m 158 #[iv p1, iv p2, iv p3, iv p4, iv p5, iv v5_336, iv (2 : Int32), iv v7_340, iv v8_341, iv v9_342, iv v10_344, iv v11_346, iv v12_348, rv bA, rv b367, .unset, .unset] [(.int (2 : Int32))]))
      refine own_go (XS.ifNo X367.here hx rfl (hb hby at_158) rfl ((if0 _ _).trans (tlt (by decide : (0 : Int32) < (2 : Int32))).2.2.2) (Steps.refl _)) ?_
      show own_Fin _ _ _ _ (T367.setTop (mkF m 161 #[iv p1, iv p2, iv p3, iv p4, iv p5, iv v5_336, iv (2 : Int32), iv v7_340, iv v8_341, iv v9_342, iv v10_344, iv v11_346, iv v12_348, rv bA, rv b367, .unset, .unset] []))
      refine own_go (XS.aload X367.here hx rfl (hb hby at_161) rfl rfl (Steps.refl _)) ?_
      show own_Fin _ _ _ _ (T367.setTop (mkF m 163 #[iv p1, iv p2, iv p3, iv p4, iv p5, iv v5_336, iv (2 : Int32), iv v7_340, iv v8_341, iv v9_342, iv v10_344, iv v11_346, iv v12_348, rv bA, rv b367, .unset, .unset] [(.ref b367)]))
      refine own_go (XS.iconst X367.here hx rfl (hb hby at_163) (Steps.refl _)) ?_
      show own_Fin _ _ _ _ (T367.setTop (mkF m 164 #[iv p1, iv p2, iv p3, iv p4, iv p5, iv v5_336, iv (2 : Int32), iv v7_340, iv v8_341, iv v9_342, iv v10_344, iv v11_346, iv v12_348, rv bA, rv b367, .unset, .unset] [(.int (0 : Int32)), (.ref b367)]))
      refine own_go (XS.iload X367.here hx rfl (hb hby at_164) rfl (Steps.refl _)) ?_
      show own_Fin _ _ _ _ (T367.setTop (mkF m 166 #[iv p1, iv p2, iv p3, iv p4, iv p5, iv v5_336, iv (2 : Int32), iv v7_340, iv v8_341, iv v9_342, iv v10_344, iv v11_346, iv v12_348, rv bA, rv b367, .unset, .unset] [(.int v10_344), (.int (0 : Int32)), (.ref b367)]))
      obtain ⟨cl368, Ar368, qa368, Sa368, Na368, Ha368, Ga368⟩ := id V_b367
      have hin368 : ¬ ((0 : Int32) < 0 ∨ cl368.slots.size ≤ ((0 : Int32)).toNatClampNeg) := inb_of Sa368 ⟨by decide, by decide⟩
      obtain ⟨T369, h369, X369, e369, W369, st369⟩ := stC X367 hx hZ e367 Ar368 (j := (0 : Int32)) hin368 (g := (mkF m 166 #[iv p1, iv p2, iv p3, iv p4, iv p5, iv v5_336, iv (2 : Int32), iv v7_340, iv v8_341, iv v9_342, iv v10_344, iv v11_346, iv v12_348, rv bA, rv b367, .unset, .unset] [(.int v10_344), (.int (0 : Int32)), (.ref b367)])) rfl rfl (hb hby at_166)
      refine own_by st369 ?_
      have hnr369 : nar .char v10_344 = v10_344 := own_chn hr_v10_344
      rw [hnr369] at W369
      have V_b367_369 : Arv Z h369 b367 k367 .char (2 : Int32) [(.int v10_344), (.int (0 : Int32))] (.int (0 : Int32)) := Arv.set Ar368 qa368 Sa368 Na368 Ha368 Ga368 (hnr369 ▸ fits_nar_char v10_344) W369 0 rfl (Nat.le_of_ble_eq_true rfl)
      have Od369 := Od367.wr W369 g_b367
      have V_bA_j349_369 := V_bA_j349_367.other W369 ne_bA_b367
      have N369 := Fr.snoc X369 Nj349 g_b367
      have Z369 : n0 ≤ h369.size := Nat.le_trans Z367 (Keep.of_wr W369).1
      have hk369 : 0 ≤ h369.size := Nat.le_trans hk367 (Keep.of_wr W369).1
      show own_Fin _ _ _ _ (T369.setTop (mkF m 167 #[iv p1, iv p2, iv p3, iv p4, iv p5, iv v5_336, iv (2 : Int32), iv v7_340, iv v8_341, iv v9_342, iv v10_344, iv v11_346, iv v12_348, rv bA, rv b367, .unset, .unset] []))
      refine own_go (XS.iload X369.here hx rfl (hb hby at_167) rfl (Steps.refl _)) ?_
      show own_Fin _ _ _ _ (T369.setTop (mkF m 169 #[iv p1, iv p2, iv p3, iv p4, iv p5, iv v5_336, iv (2 : Int32), iv v7_340, iv v8_341, iv v9_342, iv v10_344, iv v11_346, iv v12_348, rv bA, rv b367, .unset, .unset] [(.int (2 : Int32))]))
      refine own_go (XS.iconst X369.here hx rfl (hb hby at_169) (Steps.refl _)) ?_
      show own_Fin _ _ _ _ (T369.setTop (mkF m 170 #[iv p1, iv p2, iv p3, iv p4, iv p5, iv v5_336, iv (2 : Int32), iv v7_340, iv v8_341, iv v9_342, iv v10_344, iv v11_346, iv v12_348, rv bA, rv b367, .unset, .unset] [(.int (1 : Int32)), (.int (2 : Int32))]))
      refine own_go (XS.icmpNo X369.here hx rfl (hb hby at_170) rfl (tlt (by decide : (1 : Int32) < (2 : Int32))).2.2.2 (Steps.refl _)) ?_
      show own_Fin _ _ _ _ (T369.setTop (mkF m 173 #[iv p1, iv p2, iv p3, iv p4, iv p5, iv v5_336, iv (2 : Int32), iv v7_340, iv v8_341, iv v9_342, iv v10_344, iv v11_346, iv v12_348, rv bA, rv b367, .unset, .unset] []))
      refine own_go (XS.aload X369.here hx rfl (hb hby at_173) rfl rfl (Steps.refl _)) ?_
      show own_Fin _ _ _ _ (T369.setTop (mkF m 175 #[iv p1, iv p2, iv p3, iv p4, iv p5, iv v5_336, iv (2 : Int32), iv v7_340, iv v8_341, iv v9_342, iv v10_344, iv v11_346, iv v12_348, rv bA, rv b367, .unset, .unset] [(.ref b367)]))
      refine own_go (XS.iconst X369.here hx rfl (hb hby at_175) (Steps.refl _)) ?_
      show own_Fin _ _ _ _ (T369.setTop (mkF m 176 #[iv p1, iv p2, iv p3, iv p4, iv p5, iv v5_336, iv (2 : Int32), iv v7_340, iv v8_341, iv v9_342, iv v10_344, iv v11_346, iv v12_348, rv bA, rv b367, .unset, .unset] [(.int (1 : Int32)), (.ref b367)]))
      refine own_go (XS.iload X369.here hx rfl (hb hby at_176) rfl (Steps.refl _)) ?_
      show own_Fin _ _ _ _ (T369.setTop (mkF m 178 #[iv p1, iv p2, iv p3, iv p4, iv p5, iv v5_336, iv (2 : Int32), iv v7_340, iv v8_341, iv v9_342, iv v10_344, iv v11_346, iv v12_348, rv bA, rv b367, .unset, .unset] [(.int v11_346), (.int (1 : Int32)), (.ref b367)]))
      obtain ⟨cl370, Ar370, qa370, Sa370, Na370, Ha370, Ga370⟩ := id V_b367_369
      have hin370 : ¬ ((1 : Int32) < 0 ∨ cl370.slots.size ≤ ((1 : Int32)).toNatClampNeg) := inb_of Sa370 ⟨by decide, by decide⟩
      obtain ⟨T371, h371, X371, e371, W371, st371⟩ := stC X369 hx hZ e369 Ar370 (j := (1 : Int32)) hin370 (g := (mkF m 178 #[iv p1, iv p2, iv p3, iv p4, iv p5, iv v5_336, iv (2 : Int32), iv v7_340, iv v8_341, iv v9_342, iv v10_344, iv v11_346, iv v12_348, rv bA, rv b367, .unset, .unset] [(.int v11_346), (.int (1 : Int32)), (.ref b367)])) rfl rfl (hb hby at_178)
      refine own_by st371 ?_
      have hnr371 : nar .char v11_346 = v11_346 := own_chn hr_v11_346
      rw [hnr371] at W371
      have V_b367_371 : Arv Z h371 b367 k367 .char (2 : Int32) [(.int v10_344), (.int v11_346)] (.int (0 : Int32)) := Arv.set Ar370 qa370 Sa370 Na370 Ha370 Ga370 (hnr371 ▸ fits_nar_char v11_346) W371 1 rfl (Nat.le_of_ble_eq_true rfl)
      have Od371 := Od369.wr W371 g_b367
      have V_bA_j349_371 := V_bA_j349_369.other W371 ne_bA_b367
      have N371 := Fr.snoc X371 N369 g_b367
      have Z371 : n0 ≤ h371.size := Nat.le_trans Z369 (Keep.of_wr W371).1
      have hk371 : 0 ≤ h371.size := Nat.le_trans hk369 (Keep.of_wr W371).1
      show own_Fin _ _ _ _ (T371.setTop (mkF m 179 #[iv p1, iv p2, iv p3, iv p4, iv p5, iv v5_336, iv (2 : Int32), iv v7_340, iv v8_341, iv v9_342, iv v10_344, iv v11_346, iv v12_348, rv bA, rv b367, .unset, .unset] []))
      refine own_go (XS.iload X371.here hx rfl (hb hby at_179) rfl (Steps.refl _)) ?_
      show own_Fin _ _ _ _ (T371.setTop (mkF m 181 #[iv p1, iv p2, iv p3, iv p4, iv p5, iv v5_336, iv (2 : Int32), iv v7_340, iv v8_341, iv v9_342, iv v10_344, iv v11_346, iv v12_348, rv bA, rv b367, .unset, .unset] [(.int (2 : Int32))]))
      refine own_go (XS.iconst X371.here hx rfl (hb hby at_181) (Steps.refl _)) ?_
      show own_Fin _ _ _ _ (T371.setTop (mkF m 182 #[iv p1, iv p2, iv p3, iv p4, iv p5, iv v5_336, iv (2 : Int32), iv v7_340, iv v8_341, iv v9_342, iv v10_344, iv v11_346, iv v12_348, rv bA, rv b367, .unset, .unset] [(.int (2 : Int32)), (.int (2 : Int32))]))
      refine own_go (XS.icmpYes X371.here hx rfl (pc0 := 182) (pc' := 191) rfl (hb hby at_182) rfl (flt (by decide : ¬ ((2 : Int32) < (2 : Int32)))).2.2.2 (by decide) (by decide) (Steps.refl _)) ?_
      show own_Fin _ _ _ _ (T371.setTop (mkF m 191 #[iv p1, iv p2, iv p3, iv p4, iv p5, iv v5_336, iv (2 : Int32), iv v7_340, iv v8_341, iv v9_342, iv v10_344, iv v11_346, iv v12_348, rv bA, rv b367, .unset, .unset] []))
      exact hj350 T371 _ h371 b367 k367 (X371.more (by decide) (by decide)) e371 N371 Z371 Od371 V_bA_j349_371 V_b367_371 g_b367
    · show own_Fin _ _ _ _ (Tj349.setTop (mkF m 150 #[iv p1, iv p2, iv p3, iv p4, iv p5, iv v5_336, iv (3 : Int32), iv v7_340, iv v8_341, iv v9_342, iv v10_344, iv v11_346, iv v12_348, rv bA, .unset, .unset, .unset] []))
      refine own_go (XS.iload Xj349.here hx rfl (hb hby at_150) rfl (Steps.refl _)) ?_
      show own_Fin _ _ _ _ (Tj349.setTop (mkF m 152 #[iv p1, iv p2, iv p3, iv p4, iv p5, iv v5_336, iv (3 : Int32), iv v7_340, iv v8_341, iv v9_342, iv v10_344, iv v11_346, iv v12_348, rv bA, .unset, .unset, .unset] [(.int (3 : Int32))]))
      obtain ⟨T372, h372, k372, X372, e372, E372, A372, st372⟩ := newP Xj349 hx hZ (hw _ (List.mem_of_getElem? (i := 4) rfl)) ej349 (g := (mkF m 152 #[iv p1, iv p2, iv p3, iv p4, iv p5, iv v5_336, iv (3 : Int32), iv v7_340, iv v8_341, iv v9_342, iv v10_344, iv v11_346, iv v12_348, rv bA, .unset, .unset, .unset] [(.int (3 : Int32))])) rfl (hb hby at_152) rfl (by decide) (cap := 3) (by decide) (by decide) (by decide) (by decide)
      obtain ⟨b372, g372⟩ : ∃ z, z = hp349.size := ⟨_, rfl⟩
      rw [← g372] at A372 st372
      refine own_by st372 ?_
      have ne_bA_b372 : bA ≠ b372 := Nat.ne_of_lt (Nat.lt_of_lt_of_eq V_bA_j349.lt g372.symm)
      have Od372 := Oj349.ext E372
      have V_bA_j349_372 := V_bA_j349.ext E372
      have g_b372 : n0 ≤ b372 := Nat.le_trans Zj349 (Nat.le_of_eq g372.symm)
      have Z372 : n0 ≤ h372.size := Nat.le_trans Zj349 E372.1
      have hk372 : 0 ≤ h372.size := Nat.le_trans hkj349 E372.1
      have V_b372 : Arv Z h372 b372 k372 .char (3 : Int32) [(.int (0 : Int32)), (.int (0 : Int32)), (.int (0 : Int32))] (.int (0 : Int32)) := (Arv.new A372 (by decide)).pad (pad_rep [] (.int (0 : Int32)) 3)
      show own_Fin _ _ _ _ (T372.setTop (mkF m 154 #[iv p1, iv p2, iv p3, iv p4, iv p5, iv v5_336, iv (3 : Int32), iv v7_340, iv v8_341, iv v9_342, iv v10_344, iv v11_346, iv v12_348, rv bA, .unset, .unset, .unset] [(.ref b372)]))
      refine own_go (XS.astore X372.here hx rfl (hb hby at_154) rfl rfl rfl (Steps.refl _)) ?_
      show own_Fin _ _ _ _ (T372.setTop (mkF m 156 #[iv p1, iv p2, iv p3, iv p4, iv p5, iv v5_336, iv (3 : Int32), iv v7_340, iv v8_341, iv v9_342, iv v10_344, iv v11_346, iv v12_348, rv bA, rv b372, .unset, .unset] []))
      refine own_go (XS.iload X372.here hx rfl (hb hby at_156) rfl (Steps.refl _)) ?_
      show own_Fin _ _ _ _ (T372.setTop (mkF m 158 #[iv p1, iv p2, iv p3, iv p4, iv p5, iv v5_336, iv (3 : Int32), iv v7_340, iv v8_341, iv v9_342, iv v10_344, iv v11_346, iv v12_348, rv bA, rv b372, .unset, .unset] [(.int (3 : Int32))]))
      refine own_go (XS.ifNo X372.here hx rfl (hb hby at_158) rfl ((if0 _ _).trans (tlt (by decide : (0 : Int32) < (3 : Int32))).2.2.2) (Steps.refl _)) ?_
      show own_Fin _ _ _ _ (T372.setTop (mkF m 161 #[iv p1, iv p2, iv p3, iv p4, iv p5, iv v5_336, iv (3 : Int32), iv v7_340, iv v8_341, iv v9_342, iv v10_344, iv v11_346, iv v12_348, rv bA, rv b372, .unset, .unset] []))
      refine own_go (XS.aload X372.here hx rfl (hb hby at_161) rfl rfl (Steps.refl _)) ?_
      show own_Fin _ _ _ _ (T372.setTop (mkF m 163 #[iv p1, iv p2, iv p3, iv p4, iv p5, iv v5_336, iv (3 : Int32), iv v7_340, iv v8_341, iv v9_342, iv v10_344, iv v11_346, iv v12_348, rv bA, rv b372, .unset, .unset] [(.ref b372)]))
      refine own_go (XS.iconst X372.here hx rfl (hb hby at_163) (Steps.refl _)) ?_
      show own_Fin _ _ _ _ (T372.setTop (mkF m 164 #[iv p1, iv p2, iv p3, iv p4, iv p5, iv v5_336, iv (3 : Int32), iv v7_340, iv v8_341, iv v9_342, iv v10_344, iv v11_346, iv v12_348, rv bA, rv b372, .unset, .unset] [(.int (0 : Int32)), (.ref b372)]))
      refine own_go (XS.iload X372.here hx rfl (hb hby at_164) rfl (Steps.refl _)) ?_
      show own_Fin _ _ _ _ (T372.setTop (mkF m 166 #[iv p1, iv p2, iv p3, iv p4, iv p5, iv v5_336, iv (3 : Int32), iv v7_340, iv v8_341, iv v9_342, iv v10_344, iv v11_346, iv v12_348, rv bA, rv b372, .unset, .unset] [(.int v10_344), (.int (0 : Int32)), (.ref b372)]))
      obtain ⟨cl373, Ar373, qa373, Sa373, Na373, Ha373, Ga373⟩ := id V_b372
      have hin373 : ¬ ((0 : Int32) < 0 ∨ cl373.slots.size ≤ ((0 : Int32)).toNatClampNeg) := inb_of Sa373 ⟨by decide, by decide⟩
      obtain ⟨T374, h374, X374, e374, W374, st374⟩ := stC X372 hx hZ e372 Ar373 (j := (0 : Int32)) hin373 (g := (mkF m 166 #[iv p1, iv p2, iv p3, iv p4, iv p5, iv v5_336, iv (3 : Int32), iv v7_340, iv v8_341, iv v9_342, iv v10_344, iv v11_346, iv v12_348, rv bA, rv b372, .unset, .unset] [(.int v10_344), (.int (0 : Int32)), (.ref b372)])) rfl rfl (hb hby at_166)
      refine own_by st374 ?_
      have hnr374 : nar .char v10_344 = v10_344 := own_chn hr_v10_344
      rw [hnr374] at W374
      have V_b372_374 : Arv Z h374 b372 k372 .char (3 : Int32) [(.int v10_344), (.int (0 : Int32)), (.int (0 : Int32))] (.int (0 : Int32)) := Arv.set Ar373 qa373 Sa373 Na373 Ha373 Ga373 (hnr374 ▸ fits_nar_char v10_344) W374 0 rfl (Nat.le_of_ble_eq_true rfl)
      have Od374 := Od372.wr W374 g_b372
      have V_bA_j349_374 := V_bA_j349_372.other W374 ne_bA_b372
      have N374 := Fr.snoc X374 Nj349 g_b372
      have Z374 : n0 ≤ h374.size := Nat.le_trans Z372 (Keep.of_wr W374).1
      have hk374 : 0 ≤ h374.size := Nat.le_trans hk372 (Keep.of_wr W374).1
      show own_Fin _ _ _ _ (T374.setTop (mkF m 167 #[iv p1, iv p2, iv p3, iv p4, iv p5, iv v5_336, iv (3 : Int32), iv v7_340, iv v8_341, iv v9_342, iv v10_344, iv v11_346, iv v12_348, rv bA, rv b372, .unset, .unset] []))
      refine own_go (XS.iload X374.here hx rfl (hb hby at_167) rfl (Steps.refl _)) ?_
      show own_Fin _ _ _ _ (T374.setTop (mkF m 169 #[iv p1, iv p2, iv p3, iv p4, iv p5, iv v5_336, iv (3 : Int32), iv v7_340, iv v8_341, iv v9_342, iv v10_344, iv v11_346, iv v12_348, rv bA, rv b372, .unset, .unset] [(.int (3 : Int32))]))
      refine own_go (XS.iconst X374.here hx rfl (hb hby at_169) (Steps.refl _)) ?_
      show own_Fin _ _ _ _ (T374.setTop (mkF m 170 #[iv p1, iv p2, iv p3, iv p4, iv p5, iv v5_336, iv (3 : Int32), iv v7_340, iv v8_341, iv v9_342, iv v10_344, iv v11_346, iv v12_348, rv bA, rv b372, .unset, .unset] [(.int (1 : Int32)), (.int (3 : Int32))]))
      refine own_go (XS.icmpNo X374.here hx rfl (hb hby at_170) rfl (tlt (by decide : (1 : Int32) < (3 : Int32))).2.2.2 (Steps.refl _)) ?_
      show own_Fin _ _ _ _ (T374.setTop (mkF m 173 #[iv p1, iv p2, iv p3, iv p4, iv p5, iv v5_336, iv (3 : Int32), iv v7_340, iv v8_341, iv v9_342, iv v10_344, iv v11_346, iv v12_348, rv bA, rv b372, .unset, .unset] []))
      refine own_go (XS.aload X374.here hx rfl (hb hby at_173) rfl rfl (Steps.refl _)) ?_
      show own_Fin _ _ _ _ (T374.setTop (mkF m 175 #[iv p1, iv p2, iv p3, iv p4, iv p5, iv v5_336, iv (3 : Int32), iv v7_340, iv v8_341, iv v9_342, iv v10_344, iv v11_346, iv v12_348, rv bA, rv b372, .unset, .unset] [(.ref b372)]))
      refine own_go (XS.iconst X374.here hx rfl (hb hby at_175) (Steps.refl _)) ?_
      show own_Fin _ _ _ _ (T374.setTop (mkF m 176 #[iv p1, iv p2, iv p3, iv p4, iv p5, iv v5_336, iv (3 : Int32), iv v7_340, iv v8_341, iv v9_342, iv v10_344, iv v11_346, iv v12_348, rv bA, rv b372, .unset, .unset] [(.int (1 : Int32)), (.ref b372)]))
      refine own_go (XS.iload X374.here hx rfl (hb hby at_176) rfl (Steps.refl _)) ?_
      show own_Fin _ _ _ _ (T374.setTop (mkF m 178 #[iv p1, iv p2, iv p3, iv p4, iv p5, iv v5_336, iv (3 : Int32), iv v7_340, iv v8_341, iv v9_342, iv v10_344, iv v11_346, iv v12_348, rv bA, rv b372, .unset, .unset] [(.int v11_346), (.int (1 : Int32)), (.ref b372)]))
      obtain ⟨cl375, Ar375, qa375, Sa375, Na375, Ha375, Ga375⟩ := id V_b372_374
      have hin375 : ¬ ((1 : Int32) < 0 ∨ cl375.slots.size ≤ ((1 : Int32)).toNatClampNeg) := inb_of Sa375 ⟨by decide, by decide⟩
      obtain ⟨T376, h376, X376, e376, W376, st376⟩ := stC X374 hx hZ e374 Ar375 (j := (1 : Int32)) hin375 (g := (mkF m 178 #[iv p1, iv p2, iv p3, iv p4, iv p5, iv v5_336, iv (3 : Int32), iv v7_340, iv v8_341, iv v9_342, iv v10_344, iv v11_346, iv v12_348, rv bA, rv b372, .unset, .unset] [(.int v11_346), (.int (1 : Int32)), (.ref b372)])) rfl rfl (hb hby at_178)
      refine own_by st376 ?_
      have hnr376 : nar .char v11_346 = v11_346 := own_chn hr_v11_346
      rw [hnr376] at W376
      have V_b372_376 : Arv Z h376 b372 k372 .char (3 : Int32) [(.int v10_344), (.int v11_346), (.int (0 : Int32))] (.int (0 : Int32)) := Arv.set Ar375 qa375 Sa375 Na375 Ha375 Ga375 (hnr376 ▸ fits_nar_char v11_346) W376 1 rfl (Nat.le_of_ble_eq_true rfl)
      have Od376 := Od374.wr W376 g_b372
      have V_bA_j349_376 := V_bA_j349_374.other W376 ne_bA_b372
      have N376 := Fr.snoc X376 N374 g_b372
      have Z376 : n0 ≤ h376.size := Nat.le_trans Z374 (Keep.of_wr W376).1
      have hk376 : 0 ≤ h376.size := Nat.le_trans hk374 (Keep.of_wr W376).1
      show own_Fin _ _ _ _ (T376.setTop (mkF m 179 #[iv p1, iv p2, iv p3, iv p4, iv p5, iv v5_336, iv (3 : Int32), iv v7_340, iv v8_341, iv v9_342, iv v10_344, iv v11_346, iv v12_348, rv bA, rv b372, .unset, .unset] []))
      refine own_go (XS.iload X376.here hx rfl (hb hby at_179) rfl (Steps.refl _)) ?_
      show own_Fin _ _ _ _ (T376.setTop (mkF m 181 #[iv p1, iv p2, iv p3, iv p4, iv p5, iv v5_336, iv (3 : Int32), iv v7_340, iv v8_341, iv v9_342, iv v10_344, iv v11_346, iv v12_348, rv bA, rv b372, .unset, .unset] [(.int (3 : Int32))]))
      refine own_go (XS.iconst X376.here hx rfl (hb hby at_181) (Steps.refl _)) ?_
      show own_Fin _ _ _ _ (T376.setTop (mkF m 182 #[iv p1, iv p2, iv p3, iv p4, iv p5, iv v5_336, iv (3 : Int32), iv v7_340, iv v8_341, iv v9_342, iv v10_344, iv v11_346, iv v12_348, rv bA, rv b372, .unset, .unset] [(.int (2 : Int32)), (.int (3 : Int32))]))
      refine own_go (XS.icmpNo X376.here hx rfl (hb hby at_182) rfl (tlt (by decide : (2 : Int32) < (3 : Int32))).2.2.2 (Steps.refl _)) ?_
      show own_Fin _ _ _ _ (T376.setTop (mkF m 185 #[iv p1, iv p2, iv p3, iv p4, iv p5, iv v5_336, iv (3 : Int32), iv v7_340, iv v8_341, iv v9_342, iv v10_344, iv v11_346, iv v12_348, rv bA, rv b372, .unset, .unset] []))
      refine own_go (XS.aload X376.here hx rfl (hb hby at_185) rfl rfl (Steps.refl _)) ?_
      show own_Fin _ _ _ _ (T376.setTop (mkF m 187 #[iv p1, iv p2, iv p3, iv p4, iv p5, iv v5_336, iv (3 : Int32), iv v7_340, iv v8_341, iv v9_342, iv v10_344, iv v11_346, iv v12_348, rv bA, rv b372, .unset, .unset] [(.ref b372)]))
      refine own_go (XS.iconst X376.here hx rfl (hb hby at_187) (Steps.refl _)) ?_
      show own_Fin _ _ _ _ (T376.setTop (mkF m 188 #[iv p1, iv p2, iv p3, iv p4, iv p5, iv v5_336, iv (3 : Int32), iv v7_340, iv v8_341, iv v9_342, iv v10_344, iv v11_346, iv v12_348, rv bA, rv b372, .unset, .unset] [(.int (2 : Int32)), (.ref b372)]))
      refine own_go (XS.iload X376.here hx rfl (hb hby at_188) rfl (Steps.refl _)) ?_
      show own_Fin _ _ _ _ (T376.setTop (mkF m 190 #[iv p1, iv p2, iv p3, iv p4, iv p5, iv v5_336, iv (3 : Int32), iv v7_340, iv v8_341, iv v9_342, iv v10_344, iv v11_346, iv v12_348, rv bA, rv b372, .unset, .unset] [(.int v12_348), (.int (2 : Int32)), (.ref b372)]))
      obtain ⟨cl377, Ar377, qa377, Sa377, Na377, Ha377, Ga377⟩ := id V_b372_376
      have hin377 : ¬ ((2 : Int32) < 0 ∨ cl377.slots.size ≤ ((2 : Int32)).toNatClampNeg) := inb_of Sa377 ⟨by decide, by decide⟩
      obtain ⟨T378, h378, X378, e378, W378, st378⟩ := stC X376 hx hZ e376 Ar377 (j := (2 : Int32)) hin377 (g := (mkF m 190 #[iv p1, iv p2, iv p3, iv p4, iv p5, iv v5_336, iv (3 : Int32), iv v7_340, iv v8_341, iv v9_342, iv v10_344, iv v11_346, iv v12_348, rv bA, rv b372, .unset, .unset] [(.int v12_348), (.int (2 : Int32)), (.ref b372)])) rfl rfl (hb hby at_190)
      refine own_by st378 ?_
      have hnr378 : nar .char v12_348 = v12_348 := own_chn hr_v12_348
      rw [hnr378] at W378
      have V_b372_378 : Arv Z h378 b372 k372 .char (3 : Int32) [(.int v10_344), (.int v11_346), (.int v12_348)] (.int (0 : Int32)) := Arv.set Ar377 qa377 Sa377 Na377 Ha377 Ga377 (hnr378 ▸ fits_nar_char v12_348) W378 2 rfl (Nat.le_of_ble_eq_true rfl)
      have Od378 := Od376.wr W378 g_b372
      have V_bA_j349_378 := V_bA_j349_376.other W378 ne_bA_b372
      have N378 := Fr.snoc X378 N376 g_b372
      have Z378 : n0 ≤ h378.size := Nat.le_trans Z376 (Keep.of_wr W378).1
      have hk378 : 0 ≤ h378.size := Nat.le_trans hk376 (Keep.of_wr W378).1
      show own_Fin _ _ _ _ (T378.setTop (mkF m 191 #[iv p1, iv p2, iv p3, iv p4, iv p5, iv v5_336, iv (3 : Int32), iv v7_340, iv v8_341, iv v9_342, iv v10_344, iv v11_346, iv v12_348, rv bA, rv b372, .unset, .unset] []))
      exact hj350 T378 _ h378 b372 k372 (X378.more (by decide) (by decide)) e378 N378 Z378 Od378 V_bA_j349_378 V_b372_378 g_b372
  have hcs379 : v5_336 = (0 : Int32) ∨ v5_336 = (1 : Int32) ∨ v5_336 = (2 : Int32) ∨ v5_336 = (3 : Int32) := hla
  rcases hcs379 with rfl | rfl | rfl | rfl
  · show own_Fin _ _ _ _ (T347.setTop (mkF m 109 #[iv p1, iv p2, iv p3, iv p4, iv p5, iv (0 : Int32), iv v6_339, iv v7_340, iv v8_341, iv v9_342, iv v10_344, iv v11_346, iv v12_348, .unset, .unset, .unset, .unset] []))
    refine own_go (XS.iload X347.here hx rfl (hb hby at_109) rfl (Steps.refl _)) ?_
    show own_Fin _ _ _ _ (T347.setTop (mkF m 111 #[iv p1, iv p2, iv p3, iv p4, iv p5, iv (0 : Int32), iv v6_339, iv v7_340, iv v8_341, iv v9_342, iv v10_344, iv v11_346, iv v12_348, .unset, .unset, .unset, .unset] [(.int (0 : Int32))]))
    obtain ⟨T380, h380, k380, X380, e380, E380, A380, st380⟩ := newP X347 hx hZ (hw _ (List.mem_of_getElem? (i := 4) rfl)) e347 (g := (mkF m 111 #[iv p1, iv p2, iv p3, iv p4, iv p5, iv (0 : Int32), iv v6_339, iv v7_340, iv v8_341, iv v9_342, iv v10_344, iv v11_346, iv v12_348, .unset, .unset, .unset, .unset] [(.int (0 : Int32))])) rfl (hb hby at_111) rfl (by decide) (cap := 0) (by decide) (by decide) (by decide) (by decide)
    obtain ⟨b380, g380⟩ : ∃ z, z = h0.size := ⟨_, rfl⟩
    rw [← g380] at A380 st380
    refine own_by st380 ?_
    have Od380 := O0.ext E380
    have g_b380 : n0 ≤ b380 := Nat.le_trans Z0 (Nat.le_of_eq g380.symm)
    have Z380 : n0 ≤ h380.size := Nat.le_trans Z0 E380.1
    have hk380 : 0 ≤ h380.size := Nat.le_trans hk0 E380.1
    have V_b380 : Arv Z h380 b380 k380 .char (0 : Int32) [] (.int (0 : Int32)) := (Arv.new A380 (by decide)).pad (pad_rep [] (.int (0 : Int32)) 0)
    show own_Fin _ _ _ _ (T380.setTop (mkF m 113 #[iv p1, iv p2, iv p3, iv p4, iv p5, iv (0 : Int32), iv v6_339, iv v7_340, iv v8_341, iv v9_342, iv v10_344, iv v11_346, iv v12_348, .unset, .unset, .unset, .unset] [(.ref b380)]))
    refine own_go (XS.astore X380.here hx rfl (hb hby at_113) rfl rfl rfl (Steps.refl _)) ?_
    show own_Fin _ _ _ _ (T380.setTop (mkF m 115 #[iv p1, iv p2, iv p3, iv p4, iv p5, iv (0 : Int32), iv v6_339, iv v7_340, iv v8_341, iv v9_342, iv v10_344, iv v11_346, iv v12_348, rv b380, .unset, .unset, .unset] []))
    refine own_go (XS.iload X380.here hx rfl (hb hby at_115) rfl (Steps.refl _)) ?_
    show own_Fin _ _ _ _ (T380.setTop (mkF m 117 #[iv p1, iv p2, iv p3, iv p4, iv p5, iv (0 : Int32), iv v6_339, iv v7_340, iv v8_341, iv v9_342, iv v10_344, iv v11_346, iv v12_348, rv b380, .unset, .unset, .unset] [(.int (0 : Int32))]))
    refine own_go (XS.ifYes X380.here hx rfl (pc0 := 117) (pc' := 126) rfl (hb hby at_117) rfl ((if0 _ _).trans (flt (by decide : ¬ ((0 : Int32) < (0 : Int32)))).2.2.2) (by decide) (by decide) (Steps.refl _)) ?_
    show own_Fin _ _ _ _ (T380.setTop (mkF m 126 #[iv p1, iv p2, iv p3, iv p4, iv p5, iv (0 : Int32), iv v6_339, iv v7_340, iv v8_341, iv v9_342, iv v10_344, iv v11_346, iv v12_348, rv b380, .unset, .unset, .unset] []))
    refine own_go (XS.iload X380.here hx rfl (hb hby at_126) rfl (Steps.refl _)) ?_
    show own_Fin _ _ _ _ (T380.setTop (mkF m 128 #[iv p1, iv p2, iv p3, iv p4, iv p5, iv (0 : Int32), iv v6_339, iv v7_340, iv v8_341, iv v9_342, iv v10_344, iv v11_346, iv v12_348, rv b380, .unset, .unset, .unset] [(.int (0 : Int32))]))
    refine own_go (XS.iconst X380.here hx rfl (hb hby at_128) (Steps.refl _)) ?_
    show own_Fin _ _ _ _ (T380.setTop (mkF m 129 #[iv p1, iv p2, iv p3, iv p4, iv p5, iv (0 : Int32), iv v6_339, iv v7_340, iv v8_341, iv v9_342, iv v10_344, iv v11_346, iv v12_348, rv b380, .unset, .unset, .unset] [(.int (1 : Int32)), (.int (0 : Int32))]))
    refine own_go (XS.icmpYes X380.here hx rfl (pc0 := 129) (pc' := 138) rfl (hb hby at_129) rfl (flt (by decide : ¬ ((1 : Int32) < (0 : Int32)))).2.2.2 (by decide) (by decide) (Steps.refl _)) ?_
    show own_Fin _ _ _ _ (T380.setTop (mkF m 138 #[iv p1, iv p2, iv p3, iv p4, iv p5, iv (0 : Int32), iv v6_339, iv v7_340, iv v8_341, iv v9_342, iv v10_344, iv v11_346, iv v12_348, rv b380, .unset, .unset, .unset] []))
    refine own_go (XS.iload X380.here hx rfl (hb hby at_138) rfl (Steps.refl _)) ?_
    show own_Fin _ _ _ _ (T380.setTop (mkF m 140 #[iv p1, iv p2, iv p3, iv p4, iv p5, iv (0 : Int32), iv v6_339, iv v7_340, iv v8_341, iv v9_342, iv v10_344, iv v11_346, iv v12_348, rv b380, .unset, .unset, .unset] [(.int (0 : Int32))]))
    refine own_go (XS.iconst X380.here hx rfl (hb hby at_140) (Steps.refl _)) ?_
    show own_Fin _ _ _ _ (T380.setTop (mkF m 141 #[iv p1, iv p2, iv p3, iv p4, iv p5, iv (0 : Int32), iv v6_339, iv v7_340, iv v8_341, iv v9_342, iv v10_344, iv v11_346, iv v12_348, rv b380, .unset, .unset, .unset] [(.int (2 : Int32)), (.int (0 : Int32))]))
    refine own_go (XS.icmpYes X380.here hx rfl (pc0 := 141) (pc' := 150) rfl (hb hby at_141) rfl (flt (by decide : ¬ ((2 : Int32) < (0 : Int32)))).2.2.2 (by decide) (by decide) (Steps.refl _)) ?_
    show own_Fin _ _ _ _ (T380.setTop (mkF m 150 #[iv p1, iv p2, iv p3, iv p4, iv p5, iv (0 : Int32), iv v6_339, iv v7_340, iv v8_341, iv v9_342, iv v10_344, iv v11_346, iv v12_348, rv b380, .unset, .unset, .unset] []))
    exact hj349 T380 _ h380 b380 k380 (X380.more (by decide) (by decide)) e380 N347 Z380 Od380  V_b380 g_b380
  · show own_Fin _ _ _ _ (T347.setTop (mkF m 109 #[iv p1, iv p2, iv p3, iv p4, iv p5, iv (1 : Int32), iv v6_339, iv v7_340, iv v8_341, iv v9_342, iv v10_344, iv v11_346, iv v12_348, .unset, .unset, .unset, .unset] []))
    refine own_go (XS.iload X347.here hx rfl (hb hby at_109) rfl (Steps.refl _)) ?_
    show own_Fin _ _ _ _ (T347.setTop (mkF m 111 #[iv p1, iv p2, iv p3, iv p4, iv p5, iv (1 : Int32), iv v6_339, iv v7_340, iv v8_341, iv v9_342, iv v10_344, iv v11_346, iv v12_348, .unset, .unset, .unset, .unset] [(.int (1 : Int32))]))
    obtain ⟨T381, h381, k381, X381, e381, E381, A381, st381⟩ := newP X347 hx hZ (hw _ (List.mem_of_getElem? (i := 4) rfl)) e347 (g := (mkF m 111 #[iv p1, iv p2, iv p3, iv p4, iv p5, iv (1 : Int32), iv v6_339, iv v7_340, iv v8_341, iv v9_342, iv v10_344, iv v11_346, iv v12_348, .unset, .unset, .unset, .unset] [(.int (1 : Int32))])) rfl (hb hby at_111) rfl (by decide) (cap := 1) (by decide) (by decide) (by decide) (by decide)
    obtain ⟨b381, g381⟩ : ∃ z, z = h0.size := ⟨_, rfl⟩
    rw [← g381] at A381 st381
    refine own_by st381 ?_
    have Od381 := O0.ext E381
    have g_b381 : n0 ≤ b381 := Nat.le_trans Z0 (Nat.le_of_eq g381.symm)
    have Z381 : n0 ≤ h381.size := Nat.le_trans Z0 E381.1
    have hk381 : 0 ≤ h381.size := Nat.le_trans hk0 E381.1
    have V_b381 : Arv Z h381 b381 k381 .char (1 : Int32) [(.int (0 : Int32))] (.int (0 : Int32)) := (Arv.new A381 (by decide)).pad (pad_rep [] (.int (0 : Int32)) 1)
    show own_Fin _ _ _ _ (T381.setTop (mkF m 113 #[iv p1, iv p2, iv p3, iv p4, iv p5, iv (1 : Int32), iv v6_339, iv v7_340, iv v8_341, iv v9_342, iv v10_344, iv v11_346, iv v12_348, .unset, .unset, .unset, .unset] [(.ref b381)]))
    refine own_go (XS.astore X381.here hx rfl (hb hby at_113) rfl rfl rfl (Steps.refl _)) ?_
    show own_Fin _ _ _ _ (T381.setTop (mkF m 115 #[iv p1, iv p2, iv p3, iv p4, iv p5, iv (1 : Int32), iv v6_339, iv v7_340, iv v8_341, iv v9_342, iv v10_344, iv v11_346, iv v12_348, rv b381, .unset, .unset, .unset] []))
    refine own_go (XS.iload X381.here hx rfl (hb hby at_115) rfl (Steps.refl _)) ?_
    show own_Fin _ _ _ _ (T381.setTop (mkF m 117 #[iv p1, iv p2, iv p3, iv p4, iv p5, iv (1 : Int32), iv v6_339, iv v7_340, iv v8_341, iv v9_342, iv v10_344, iv v11_346, iv v12_348, rv b381, .unset, .unset, .unset] [(.int (1 : Int32))]))
    refine own_go (XS.ifNo X381.here hx rfl (hb hby at_117) rfl ((if0 _ _).trans (tlt (by decide : (0 : Int32) < (1 : Int32))).2.2.2) (Steps.refl _)) ?_
    show own_Fin _ _ _ _ (T381.setTop (mkF m 120 #[iv p1, iv p2, iv p3, iv p4, iv p5, iv (1 : Int32), iv v6_339, iv v7_340, iv v8_341, iv v9_342, iv v10_344, iv v11_346, iv v12_348, rv b381, .unset, .unset, .unset] []))
    refine own_go (XS.aload X381.here hx rfl (hb hby at_120) rfl rfl (Steps.refl _)) ?_
    show own_Fin _ _ _ _ (T381.setTop (mkF m 122 #[iv p1, iv p2, iv p3, iv p4, iv p5, iv (1 : Int32), iv v6_339, iv v7_340, iv v8_341, iv v9_342, iv v10_344, iv v11_346, iv v12_348, rv b381, .unset, .unset, .unset] [(.ref b381)]))
    refine own_go (XS.iconst X381.here hx rfl (hb hby at_122) (Steps.refl _)) ?_
    show own_Fin _ _ _ _ (T381.setTop (mkF m 123 #[iv p1, iv p2, iv p3, iv p4, iv p5, iv (1 : Int32), iv v6_339, iv v7_340, iv v8_341, iv v9_342, iv v10_344, iv v11_346, iv v12_348, rv b381, .unset, .unset, .unset] [(.int (0 : Int32)), (.ref b381)]))
    refine own_go (XS.iload X381.here hx rfl (hb hby at_123) rfl (Steps.refl _)) ?_
    show own_Fin _ _ _ _ (T381.setTop (mkF m 125 #[iv p1, iv p2, iv p3, iv p4, iv p5, iv (1 : Int32), iv v6_339, iv v7_340, iv v8_341, iv v9_342, iv v10_344, iv v11_346, iv v12_348, rv b381, .unset, .unset, .unset] [(.int v7_340), (.int (0 : Int32)), (.ref b381)]))
    obtain ⟨cl382, Ar382, qa382, Sa382, Na382, Ha382, Ga382⟩ := id V_b381
    have hin382 : ¬ ((0 : Int32) < 0 ∨ cl382.slots.size ≤ ((0 : Int32)).toNatClampNeg) := inb_of Sa382 ⟨by decide, by decide⟩
    obtain ⟨T383, h383, X383, e383, W383, st383⟩ := stC X381 hx hZ e381 Ar382 (j := (0 : Int32)) hin382 (g := (mkF m 125 #[iv p1, iv p2, iv p3, iv p4, iv p5, iv (1 : Int32), iv v6_339, iv v7_340, iv v8_341, iv v9_342, iv v10_344, iv v11_346, iv v12_348, rv b381, .unset, .unset, .unset] [(.int v7_340), (.int (0 : Int32)), (.ref b381)])) rfl rfl (hb hby at_125)
    refine own_by st383 ?_
    have hnr383 : nar .char v7_340 = v7_340 := own_chn hr_v7_340
    rw [hnr383] at W383
    have V_b381_383 : Arv Z h383 b381 k381 .char (1 : Int32) [(.int v7_340)] (.int (0 : Int32)) := Arv.set Ar382 qa382 Sa382 Na382 Ha382 Ga382 (hnr383 ▸ fits_nar_char v7_340) W383 0 rfl (Nat.le_of_ble_eq_true rfl)
    have Od383 := Od381.wr W383 g_b381
    have N383 := Fr.snoc X383 N347 g_b381
    have Z383 : n0 ≤ h383.size := Nat.le_trans Z381 (Keep.of_wr W383).1
    have hk383 : 0 ≤ h383.size := Nat.le_trans hk381 (Keep.of_wr W383).1
    show own_Fin _ _ _ _ (T383.setTop (mkF m 126 #[iv p1, iv p2, iv p3, iv p4, iv p5, iv (1 : Int32), iv v6_339, iv v7_340, iv v8_341, iv v9_342, iv v10_344, iv v11_346, iv v12_348, rv b381, .unset, .unset, .unset] []))
    refine own_go (XS.iload X383.here hx rfl (hb hby at_126) rfl (Steps.refl _)) ?_
    show own_Fin _ _ _ _ (T383.setTop (mkF m 128 #[iv p1, iv p2, iv p3, iv p4, iv p5, iv (1 : Int32), iv v6_339, iv v7_340, iv v8_341, iv v9_342, iv v10_344, iv v11_346, iv v12_348, rv b381, .unset, .unset, .unset] [(.int (1 : Int32))]))
    refine own_go (XS.iconst X383.here hx rfl (hb hby at_128) (Steps.refl _)) ?_
    show own_Fin _ _ _ _ (T383.setTop (mkF m 129 #[iv p1, iv p2, iv p3, iv p4, iv p5, iv (1 : Int32), iv v6_339, iv v7_340, iv v8_341, iv v9_342, iv v10_344, iv v11_346, iv v12_348, rv b381, .unset, .unset, .unset] [(.int (1 : Int32)), (.int (1 : Int32))]))
    refine own_go (XS.icmpYes X383.here hx rfl (pc0 := 129) (pc' := 138) rfl (hb hby at_129) rfl (flt (by decide : ¬ ((1 : Int32) < (1 : Int32)))).2.2.2 (by decide) (by decide) (Steps.refl _)) ?_
    show own_Fin _ _ _ _ (T383.setTop (mkF m 138 #[iv p1, iv p2, iv p3, iv p4, iv p5, iv (1 : Int32), iv v6_339, iv v7_340, iv v8_341, iv v9_342, iv v10_344, iv v11_346, iv v12_348, rv b381, .unset, .unset, .unset] []))
    refine own_go (XS.iload X383.here hx rfl (hb hby at_138) rfl (Steps.refl _)) ?_
    show own_Fin _ _ _ _ (T383.setTop (mkF m 140 #[iv p1, iv p2, iv p3, iv p4, iv p5, iv (1 : Int32), iv v6_339, iv v7_340, iv v8_341, iv v9_342, iv v10_344, iv v11_346, iv v12_348, rv b381, .unset, .unset, .unset] [(.int (1 : Int32))]))
    refine own_go (XS.iconst X383.here hx rfl (hb hby at_140) (Steps.refl _)) ?_
    show own_Fin _ _ _ _ (T383.setTop (mkF m 141 #[iv p1, iv p2, iv p3, iv p4, iv p5, iv (1 : Int32), iv v6_339, iv v7_340, iv v8_341, iv v9_342, iv v10_344, iv v11_346, iv v12_348, rv b381, .unset, .unset, .unset] [(.int (2 : Int32)), (.int (1 : Int32))]))
    refine own_go (XS.icmpYes X383.here hx rfl (pc0 := 141) (pc' := 150) rfl (hb hby at_141) rfl (flt (by decide : ¬ ((2 : Int32) < (1 : Int32)))).2.2.2 (by decide) (by decide) (Steps.refl _)) ?_
    show own_Fin _ _ _ _ (T383.setTop (mkF m 150 #[iv p1, iv p2, iv p3, iv p4, iv p5, iv (1 : Int32), iv v6_339, iv v7_340, iv v8_341, iv v9_342, iv v10_344, iv v11_346, iv v12_348, rv b381, .unset, .unset, .unset] []))
    exact hj349 T383 _ h383 b381 k381 (X383.more (by decide) (by decide)) e383 N383 Z383 Od383  V_b381_383 g_b381
  · show own_Fin _ _ _ _ (T347.setTop (mkF m 109 #[iv p1, iv p2, iv p3, iv p4, iv p5, iv (2 : Int32), iv v6_339, iv v7_340, iv v8_341, iv v9_342, iv v10_344, iv v11_346, iv v12_348, .unset, .unset, .unset, .unset] []))
    refine own_go (XS.iload X347.here hx rfl (hb hby at_109) rfl (Steps.refl _)) ?_
    show own_Fin _ _ _ _ (T347.setTop (mkF m 111 #[iv p1, iv p2, iv p3, iv p4, iv p5, iv (2 : Int32), iv v6_339, iv v7_340, iv v8_341, iv v9_342, iv v10_344, iv v11_346, iv v12_348, .unset, .unset, .unset, .unset] [(.int (2 : Int32))]))
    obtain ⟨T384, h384, k384, X384, e384, E384, A384, st384⟩ := newP X347 hx hZ (hw _ (List.mem_of_getElem? (i := 4) rfl)) e347 (g := (mkF m 111 #[iv p1, iv p2, iv p3, iv p4, iv p5, iv (2 : Int32), iv v6_339, iv v7_340, iv v8_341, iv v9_342, iv v10_344, iv v11_346, iv v12_348, .unset, .unset, .unset, .unset] [(.int (2 : Int32))])) rfl (hb hby at_111) rfl (by decide) (cap := 2) (by decide) (by decide) (by decide) (by decide)
    obtain ⟨b384, g384⟩ : ∃ z, z = h0.size := ⟨_, rfl⟩
    rw [← g384] at A384 st384
    refine own_by st384 ?_
    have Od384 := O0.ext E384
    have g_b384 : n0 ≤ b384 := Nat.le_trans Z0 (Nat.le_of_eq g384.symm)
    have Z384 : n0 ≤ h384.size := Nat.le_trans Z0 E384.1
    have hk384 : 0 ≤ h384.size := Nat.le_trans hk0 E384.1
    have V_b384 : Arv Z h384 b384 k384 .char (2 : Int32) [(.int (0 : Int32)), (.int (0 : Int32))] (.int (0 : Int32)) := (Arv.new A384 (by decide)).pad (pad_rep [] (.int (0 : Int32)) 2)
    show own_Fin _ _ _ _ (T384.setTop (mkF m 113 #[iv p1, iv p2, iv p3, iv p4, iv p5, iv (2 : Int32), iv v6_339, iv v7_340, iv v8_341, iv v9_342, iv v10_344, iv v11_346, iv v12_348, .unset, .unset, .unset, .unset] [(.ref b384)]))
    refine own_go (XS.astore X384.here hx rfl (hb hby at_113) rfl rfl rfl (Steps.refl _)) ?_
    show own_Fin _ _ _ _ (T384.setTop (mkF m 115 #[iv p1, iv p2, iv p3, iv p4, iv p5, iv (2 : Int32), iv v6_339, iv v7_340, iv v8_341, iv v9_342, iv v10_344, iv v11_346, iv v12_348, rv b384, .unset, .unset, .unset] []))
    refine own_go (XS.iload X384.here hx rfl (hb hby at_115) rfl (Steps.refl _)) ?_
    show own_Fin _ _ _ _ (T384.setTop (mkF m 117 #[iv p1, iv p2, iv p3, iv p4, iv p5, iv (2 : Int32), iv v6_339, iv v7_340, iv v8_341, iv v9_342, iv v10_344, iv v11_346, iv v12_348, rv b384, .unset, .unset, .unset] [(.int (2 : Int32))]))
    refine own_go (XS.ifNo X384.here hx rfl (hb hby at_117) rfl ((if0 _ _).trans (tlt (by decide : (0 : Int32) < (2 : Int32))).2.2.2) (Steps.refl _)) ?_
    show own_Fin _ _ _ _ (T384.setTop (mkF m 120 #[iv p1, iv p2, iv p3, iv p4, iv p5, iv (2 : Int32), iv v6_339, iv v7_340, iv v8_341, iv v9_342, iv v10_344, iv v11_346, iv v12_348, rv b384, .unset, .unset, .unset] []))
    refine own_go (XS.aload X384.here hx rfl (hb hby at_120) rfl rfl (Steps.refl _)) ?_
    show own_Fin _ _ _ _ (T384.setTop (mkF m 122 #[iv p1, iv p2, iv p3, iv p4, iv p5, iv (2 : Int32), iv v6_339, iv v7_340, iv v8_341, iv v9_342, iv v10_344, iv v11_346, iv v12_348, rv b384, .unset, .unset, .unset] [(.ref b384)]))
    refine own_go (XS.iconst X384.here hx rfl (hb hby at_122) (Steps.refl _)) ?_
    show own_Fin _ _ _ _ (T384.setTop (mkF m 123 #[iv p1, iv p2, iv p3, iv p4, iv p5, iv (2 : Int32), iv v6_339, iv v7_340, iv v8_341, iv v9_342, iv v10_344, iv v11_346, iv v12_348, rv b384, .unset, .unset, .unset] [(.int (0 : Int32)), (.ref b384)]))
    refine own_go (XS.iload X384.here hx rfl (hb hby at_123) rfl (Steps.refl _)) ?_
    show own_Fin _ _ _ _ (T384.setTop (mkF m 125 #[iv p1, iv p2, iv p3, iv p4, iv p5, iv (2 : Int32), iv v6_339, iv v7_340, iv v8_341, iv v9_342, iv v10_344, iv v11_346, iv v12_348, rv b384, .unset, .unset, .unset] [(.int v7_340), (.int (0 : Int32)), (.ref b384)]))
    obtain ⟨cl385, Ar385, qa385, Sa385, Na385, Ha385, Ga385⟩ := id V_b384
    have hin385 : ¬ ((0 : Int32) < 0 ∨ cl385.slots.size ≤ ((0 : Int32)).toNatClampNeg) := inb_of Sa385 ⟨by decide, by decide⟩
    obtain ⟨T386, h386, X386, e386, W386, st386⟩ := stC X384 hx hZ e384 Ar385 (j := (0 : Int32)) hin385 (g := (mkF m 125 #[iv p1, iv p2, iv p3, iv p4, iv p5, iv (2 : Int32), iv v6_339, iv v7_340, iv v8_341, iv v9_342, iv v10_344, iv v11_346, iv v12_348, rv b384, .unset, .unset, .unset] [(.int v7_340), (.int (0 : Int32)), (.ref b384)])) rfl rfl (hb hby at_125)
    refine own_by st386 ?_
    have hnr386 : nar .char v7_340 = v7_340 := own_chn hr_v7_340
    rw [hnr386] at W386
    have V_b384_386 : Arv Z h386 b384 k384 .char (2 : Int32) [(.int v7_340), (.int (0 : Int32))] (.int (0 : Int32)) := Arv.set Ar385 qa385 Sa385 Na385 Ha385 Ga385 (hnr386 ▸ fits_nar_char v7_340) W386 0 rfl (Nat.le_of_ble_eq_true rfl)
    have Od386 := Od384.wr W386 g_b384
    have N386 := Fr.snoc X386 N347 g_b384
    have Z386 : n0 ≤ h386.size := Nat.le_trans Z384 (Keep.of_wr W386).1
    have hk386 : 0 ≤ h386.size := Nat.le_trans hk384 (Keep.of_wr W386).1
    show own_Fin _ _ _ _ (T386.setTop (mkF m 126 #[iv p1, iv p2, iv p3, iv p4, iv p5, iv (2 : Int32), iv v6_339, iv v7_340, iv v8_341, iv v9_342, iv v10_344, iv v11_346, iv v12_348, rv b384, .unset, .unset, .unset] []))
    refine own_go (XS.iload X386.here hx rfl (hb hby at_126) rfl (Steps.refl _)) ?_
    show own_Fin _ _ _ _ (T386.setTop (mkF m 128 #[iv p1, iv p2, iv p3, iv p4, iv p5, iv (2 : Int32), iv v6_339, iv v7_340, iv v8_341, iv v9_342, iv v10_344, iv v11_346, iv v12_348, rv b384, .unset, .unset, .unset] [(.int (2 : Int32))]))
    refine own_go (XS.iconst X386.here hx rfl (hb hby at_128) (Steps.refl _)) ?_
    show own_Fin _ _ _ _ (T386.setTop (mkF m 129 #[iv p1, iv p2, iv p3, iv p4, iv p5, iv (2 : Int32), iv v6_339, iv v7_340, iv v8_341, iv v9_342, iv v10_344, iv v11_346, iv v12_348, rv b384, .unset, .unset, .unset] [(.int (1 : Int32)), (.int (2 : Int32))]))
    refine own_go (XS.icmpNo X386.here hx rfl (hb hby at_129) rfl (tlt (by decide : (1 : Int32) < (2 : Int32))).2.2.2 (Steps.refl _)) ?_
    show own_Fin _ _ _ _ (T386.setTop (mkF m 132 #[iv p1, iv p2, iv p3, iv p4, iv p5, iv (2 : Int32), iv v6_339, iv v7_340, iv v8_341, iv v9_342, iv v10_344, iv v11_346, iv v12_348, rv b384, .unset, .unset, .unset] []))
    refine own_go (XS.aload X386.here hx rfl (hb hby at_132) rfl rfl (Steps.refl _)) ?_
    show own_Fin _ _ _ _ (T386.setTop (mkF m 134 #[iv p1, iv p2, iv p3, iv p4, iv p5, iv (2 : Int32), iv v6_339, iv v7_340, iv v8_341, iv v9_342, iv v10_344, iv v11_346, iv v12_348, rv b384, .unset, .unset, .unset] [(.ref b384)]))
    refine own_go (XS.iconst X386.here hx rfl (hb hby at_134) (Steps.refl _)) ?_
    show own_Fin _ _ _ _ (T386.setTop (mkF m 135 #[iv p1, iv p2, iv p3, iv p4, iv p5, iv (2 : Int32), iv v6_339, iv v7_340, iv v8_341, iv v9_342, iv v10_344, iv v11_346, iv v12_348, rv b384, .unset, .unset, .unset] [(.int (1 : Int32)), (.ref b384)]))
    refine own_go (XS.iload X386.here hx rfl (hb hby at_135) rfl (Steps.refl _)) ?_
    show own_Fin _ _ _ _ (T386.setTop (mkF m 137 #[iv p1, iv p2, iv p3, iv p4, iv p5, iv (2 : Int32), iv v6_339, iv v7_340, iv v8_341, iv v9_342, iv v10_344, iv v11_346, iv v12_348, rv b384, .unset, .unset, .unset] [(.int v8_341), (.int (1 : Int32)), (.ref b384)]))
    obtain ⟨cl387, Ar387, qa387, Sa387, Na387, Ha387, Ga387⟩ := id V_b384_386
    have hin387 : ¬ ((1 : Int32) < 0 ∨ cl387.slots.size ≤ ((1 : Int32)).toNatClampNeg) := inb_of Sa387 ⟨by decide, by decide⟩
    obtain ⟨T388, h388, X388, e388, W388, st388⟩ := stC X386 hx hZ e386 Ar387 (j := (1 : Int32)) hin387 (g := (mkF m 137 #[iv p1, iv p2, iv p3, iv p4, iv p5, iv (2 : Int32), iv v6_339, iv v7_340, iv v8_341, iv v9_342, iv v10_344, iv v11_346, iv v12_348, rv b384, .unset, .unset, .unset] [(.int v8_341), (.int (1 : Int32)), (.ref b384)])) rfl rfl (hb hby at_137)
    refine own_by st388 ?_
    have hnr388 : nar .char v8_341 = v8_341 := own_chn hr_v8_341
    rw [hnr388] at W388
    have V_b384_388 : Arv Z h388 b384 k384 .char (2 : Int32) [(.int v7_340), (.int v8_341)] (.int (0 : Int32)) := Arv.set Ar387 qa387 Sa387 Na387 Ha387 Ga387 (hnr388 ▸ fits_nar_char v8_341) W388 1 rfl (Nat.le_of_ble_eq_true rfl)
    have Od388 := Od386.wr W388 g_b384
    have N388 := Fr.snoc X388 N386 g_b384
    have Z388 : n0 ≤ h388.size := Nat.le_trans Z386 (Keep.of_wr W388).1
    have hk388 : 0 ≤ h388.size := Nat.le_trans hk386 (Keep.of_wr W388).1
    show own_Fin _ _ _ _ (T388.setTop (mkF m 138 #[iv p1, iv p2, iv p3, iv p4, iv p5, iv (2 : Int32), iv v6_339, iv v7_340, iv v8_341, iv v9_342, iv v10_344, iv v11_346, iv v12_348, rv b384, .unset, .unset, .unset] []))
    refine own_go (XS.iload X388.here hx rfl (hb hby at_138) rfl (Steps.refl _)) ?_
    show own_Fin _ _ _ _ (T388.setTop (mkF m 140 #[iv p1, iv p2, iv p3, iv p4, iv p5, iv (2 : Int32), iv v6_339, iv v7_340, iv v8_341, iv v9_342, iv v10_344, iv v11_346, iv v12_348, rv b384, .unset, .unset, .unset] [(.int (2 : Int32))]))
    refine own_go (XS.iconst X388.here hx rfl (hb hby at_140) (Steps.refl _)) ?_
    show own_Fin _ _ _ _ (T388.setTop (mkF m 141 #[iv p1, iv p2, iv p3, iv p4, iv p5, iv (2 : Int32), iv v6_339, iv v7_340, iv v8_341, iv v9_342, iv v10_344, iv v11_346, iv v12_348, rv b384, .unset, .unset, .unset] [(.int (2 : Int32)), (.int (2 : Int32))]))
    refine own_go (XS.icmpYes X388.here hx rfl (pc0 := 141) (pc' := 150) rfl (hb hby at_141) rfl (flt (by decide : ¬ ((2 : Int32) < (2 : Int32)))).2.2.2 (by decide) (by decide) (Steps.refl _)) ?_
    show own_Fin _ _ _ _ (T388.setTop (mkF m 150 #[iv p1, iv p2, iv p3, iv p4, iv p5, iv (2 : Int32), iv v6_339, iv v7_340, iv v8_341, iv v9_342, iv v10_344, iv v11_346, iv v12_348, rv b384, .unset, .unset, .unset] []))
    exact hj349 T388 _ h388 b384 k384 (X388.more (by decide) (by decide)) e388 N388 Z388 Od388  V_b384_388 g_b384
  · show own_Fin _ _ _ _ (T347.setTop (mkF m 109 #[iv p1, iv p2, iv p3, iv p4, iv p5, iv (3 : Int32), iv v6_339, iv v7_340, iv v8_341, iv v9_342, iv v10_344, iv v11_346, iv v12_348, .unset, .unset, .unset, .unset] []))
    refine own_go (XS.iload X347.here hx rfl (hb hby at_109) rfl (Steps.refl _)) ?_
    show own_Fin _ _ _ _ (T347.setTop (mkF m 111 #[iv p1, iv p2, iv p3, iv p4, iv p5, iv (3 : Int32), iv v6_339, iv v7_340, iv v8_341, iv v9_342, iv v10_344, iv v11_346, iv v12_348, .unset, .unset, .unset, .unset] [(.int (3 : Int32))]))
    obtain ⟨T389, h389, k389, X389, e389, E389, A389, st389⟩ := newP X347 hx hZ (hw _ (List.mem_of_getElem? (i := 4) rfl)) e347 (g := (mkF m 111 #[iv p1, iv p2, iv p3, iv p4, iv p5, iv (3 : Int32), iv v6_339, iv v7_340, iv v8_341, iv v9_342, iv v10_344, iv v11_346, iv v12_348, .unset, .unset, .unset, .unset] [(.int (3 : Int32))])) rfl (hb hby at_111) rfl (by decide) (cap := 3) (by decide) (by decide) (by decide) (by decide)
    obtain ⟨b389, g389⟩ : ∃ z, z = h0.size := ⟨_, rfl⟩
    rw [← g389] at A389 st389
    refine own_by st389 ?_
    have Od389 := O0.ext E389
    have g_b389 : n0 ≤ b389 := Nat.le_trans Z0 (Nat.le_of_eq g389.symm)
    have Z389 : n0 ≤ h389.size := Nat.le_trans Z0 E389.1
    have hk389 : 0 ≤ h389.size := Nat.le_trans hk0 E389.1
    have V_b389 : Arv Z h389 b389 k389 .char (3 : Int32) [(.int (0 : Int32)), (.int (0 : Int32)), (.int (0 : Int32))] (.int (0 : Int32)) := (Arv.new A389 (by decide)).pad (pad_rep [] (.int (0 : Int32)) 3)
    show own_Fin _ _ _ _ (T389.setTop (mkF m 113 #[iv p1, iv p2, iv p3, iv p4, iv p5, iv (3 : Int32), iv v6_339, iv v7_340, iv v8_341, iv v9_342, iv v10_344, iv v11_346, iv v12_348, .unset, .unset, .unset, .unset] [(.ref b389)]))
    refine own_go (XS.astore X389.here hx rfl (hb hby at_113) rfl rfl rfl (Steps.refl _)) ?_
    show own_Fin _ _ _ _ (T389.setTop (mkF m 115 #[iv p1, iv p2, iv p3, iv p4, iv p5, iv (3 : Int32), iv v6_339, iv v7_340, iv v8_341, iv v9_342, iv v10_344, iv v11_346, iv v12_348, rv b389, .unset, .unset, .unset] []))
    refine own_go (XS.iload X389.here hx rfl (hb hby at_115) rfl (Steps.refl _)) ?_
    show own_Fin _ _ _ _ (T389.setTop (mkF m 117 #[iv p1, iv p2, iv p3, iv p4, iv p5, iv (3 : Int32), iv v6_339, iv v7_340, iv v8_341, iv v9_342, iv v10_344, iv v11_346, iv v12_348, rv b389, .unset, .unset, .unset] [(.int (3 : Int32))]))
    refine own_go (XS.ifNo X389.here hx rfl (hb hby at_117) rfl ((if0 _ _).trans (tlt (by decide : (0 : Int32) < (3 : Int32))).2.2.2) (Steps.refl _)) ?_
    show own_Fin _ _ _ _ (T389.setTop (mkF m 120 #[iv p1, iv p2, iv p3, iv p4, iv p5, iv (3 : Int32), iv v6_339, iv v7_340, iv v8_341, iv v9_342, iv v10_344, iv v11_346, iv v12_348, rv b389, .unset, .unset, .unset] []))
    refine own_go (XS.aload X389.here hx rfl (hb hby at_120) rfl rfl (Steps.refl _)) ?_
    show own_Fin _ _ _ _ (T389.setTop (mkF m 122 #[iv p1, iv p2, iv p3, iv p4, iv p5, iv (3 : Int32), iv v6_339, iv v7_340, iv v8_341, iv v9_342, iv v10_344, iv v11_346, iv v12_348, rv b389, .unset, .unset, .unset] [(.ref b389)]))
    refine own_go (XS.iconst X389.here hx rfl (hb hby at_122) (Steps.refl _)) ?_
    show own_Fin _ _ _ _ (T389.setTop (mkF m 123 #[iv p1, iv p2, iv p3, iv p4, iv p5, iv (3 : Int32), iv v6_339, iv v7_340, iv v8_341, iv v9_342, iv v10_344, iv v11_346, iv v12_348, rv b389, .unset, .unset, .unset] [(.int (0 : Int32)), (.ref b389)]))
    refine own_go (XS.iload X389.here hx rfl (hb hby at_123) rfl (Steps.refl _)) ?_
    show own_Fin _ _ _ _ (T389.setTop (mkF m 125 #[iv p1, iv p2, iv p3, iv p4, iv p5, iv (3 : Int32), iv v6_339, iv v7_340, iv v8_341, iv v9_342, iv v10_344, iv v11_346, iv v12_348, rv b389, .unset, .unset, .unset] [(.int v7_340), (.int (0 : Int32)), (.ref b389)]))
    obtain ⟨cl390, Ar390, qa390, Sa390, Na390, Ha390, Ga390⟩ := id V_b389
    have hin390 : ¬ ((0 : Int32) < 0 ∨ cl390.slots.size ≤ ((0 : Int32)).toNatClampNeg) := inb_of Sa390 ⟨by decide, by decide⟩
    obtain ⟨T391, h391, X391, e391, W391, st391⟩ := stC X389 hx hZ e389 Ar390 (j := (0 : Int32)) hin390 (g := (mkF m 125 #[iv p1, iv p2, iv p3, iv p4, iv p5, iv (3 : Int32), iv v6_339, iv v7_340, iv v8_341, iv v9_342, iv v10_344, iv v11_346, iv v12_348, rv b389, .unset, .unset, .unset] [(.int v7_340), (.int (0 : Int32)), (.ref b389)])) rfl rfl (hb hby at_125)
    refine own_by st391 ?_
    have hnr391 : nar .char v7_340 = v7_340 := own_chn hr_v7_340
    rw [hnr391] at W391
    have V_b389_391 : Arv Z h391 b389 k389 .char (3 : Int32) [(.int v7_340), (.int (0 : Int32)), (.int (0 : Int32))] (.int (0 : Int32)) := Arv.set Ar390 qa390 Sa390 Na390 Ha390 Ga390 (hnr391 ▸ fits_nar_char v7_340) W391 0 rfl (Nat.le_of_ble_eq_true rfl)
    have Od391 := Od389.wr W391 g_b389
    have N391 := Fr.snoc X391 N347 g_b389
    have Z391 : n0 ≤ h391.size := Nat.le_trans Z389 (Keep.of_wr W391).1
    have hk391 : 0 ≤ h391.size := Nat.le_trans hk389 (Keep.of_wr W391).1
    show own_Fin _ _ _ _ (T391.setTop (mkF m 126 #[iv p1, iv p2, iv p3, iv p4, iv p5, iv (3 : Int32), iv v6_339, iv v7_340, iv v8_341, iv v9_342, iv v10_344, iv v11_346, iv v12_348, rv b389, .unset, .unset, .unset] []))
    refine own_go (XS.iload X391.here hx rfl (hb hby at_126) rfl (Steps.refl _)) ?_
    show own_Fin _ _ _ _ (T391.setTop (mkF m 128 #[iv p1, iv p2, iv p3, iv p4, iv p5, iv (3 : Int32), iv v6_339, iv v7_340, iv v8_341, iv v9_342, iv v10_344, iv v11_346, iv v12_348, rv b389, .unset, .unset, .unset] [(.int (3 : Int32))]))
    refine own_go (XS.iconst X391.here hx rfl (hb hby at_128) (Steps.refl _)) ?_
    show own_Fin _ _ _ _ (T391.setTop (mkF m 129 #[iv p1, iv p2, iv p3, iv p4, iv p5, iv (3 : Int32), iv v6_339, iv v7_340, iv v8_341, iv v9_342, iv v10_344, iv v11_346, iv v12_348, rv b389, .unset, .unset, .unset] [(.int (1 : Int32)), (.int (3 : Int32))]))
    refine own_go (XS.icmpNo X391.here hx rfl (hb hby at_129) rfl (tlt (by decide : (1 : Int32) < (3 : Int32))).2.2.2 (Steps.refl _)) ?_
    show own_Fin _ _ _ _ (T391.setTop (mkF m 132 #[iv p1, iv p2, iv p3, iv p4, iv p5, iv (3 : Int32), iv v6_339, iv v7_340, iv v8_341, iv v9_342, iv v10_344, iv v11_346, iv v12_348, rv b389, .unset, .unset, .unset] []))
    refine own_go (XS.aload X391.here hx rfl (hb hby at_132) rfl rfl (Steps.refl _)) ?_
    show own_Fin _ _ _ _ (T391.setTop (mkF m 134 #[iv p1, iv p2, iv p3, iv p4, iv p5, iv (3 : Int32), iv v6_339, iv v7_340, iv v8_341, iv v9_342, iv v10_344, iv v11_346, iv v12_348, rv b389, .unset, .unset, .unset] [(.ref b389)]))
    refine own_go (XS.iconst X391.here hx rfl (hb hby at_134) (Steps.refl _)) ?_
    show own_Fin _ _ _ _ (T391.setTop (mkF m 135 #[iv p1, iv p2, iv p3, iv p4, iv p5, iv (3 : Int32), iv v6_339, iv v7_340, iv v8_341, iv v9_342, iv v10_344, iv v11_346, iv v12_348, rv b389, .unset, .unset, .unset] [(.int (1 : Int32)), (.ref b389)]))
    refine own_go (XS.iload X391.here hx rfl (hb hby at_135) rfl (Steps.refl _)) ?_
    show own_Fin _ _ _ _ (T391.setTop (mkF m 137 #[iv p1, iv p2, iv p3, iv p4, iv p5, iv (3 : Int32), iv v6_339, iv v7_340, iv v8_341, iv v9_342, iv v10_344, iv v11_346, iv v12_348, rv b389, .unset, .unset, .unset] [(.int v8_341), (.int (1 : Int32)), (.ref b389)]))
    obtain ⟨cl392, Ar392, qa392, Sa392, Na392, Ha392, Ga392⟩ := id V_b389_391
    have hin392 : ¬ ((1 : Int32) < 0 ∨ cl392.slots.size ≤ ((1 : Int32)).toNatClampNeg) := inb_of Sa392 ⟨by decide, by decide⟩
    obtain ⟨T393, h393, X393, e393, W393, st393⟩ := stC X391 hx hZ e391 Ar392 (j := (1 : Int32)) hin392 (g := (mkF m 137 #[iv p1, iv p2, iv p3, iv p4, iv p5, iv (3 : Int32), iv v6_339, iv v7_340, iv v8_341, iv v9_342, iv v10_344, iv v11_346, iv v12_348, rv b389, .unset, .unset, .unset] [(.int v8_341), (.int (1 : Int32)), (.ref b389)])) rfl rfl (hb hby at_137)
    refine own_by st393 ?_
    have hnr393 : nar .char v8_341 = v8_341 := own_chn hr_v8_341
    rw [hnr393] at W393
    have V_b389_393 : Arv Z h393 b389 k389 .char (3 : Int32) [(.int v7_340), (.int v8_341), (.int (0 : Int32))] (.int (0 : Int32)) := Arv.set Ar392 qa392 Sa392 Na392 Ha392 Ga392 (hnr393 ▸ fits_nar_char v8_341) W393 1 rfl (Nat.le_of_ble_eq_true rfl)
    have Od393 := Od391.wr W393 g_b389
    have N393 := Fr.snoc X393 N391 g_b389
    have Z393 : n0 ≤ h393.size := Nat.le_trans Z391 (Keep.of_wr W393).1
    have hk393 : 0 ≤ h393.size := Nat.le_trans hk391 (Keep.of_wr W393).1
    show own_Fin _ _ _ _ (T393.setTop (mkF m 138 #[iv p1, iv p2, iv p3, iv p4, iv p5, iv (3 : Int32), iv v6_339, iv v7_340, iv v8_341, iv v9_342, iv v10_344, iv v11_346, iv v12_348, rv b389, .unset, .unset, .unset] []))
    refine own_go (XS.iload X393.here hx rfl (hb hby at_138) rfl (Steps.refl _)) ?_
    show own_Fin _ _ _ _ (T393.setTop (mkF m 140 #[iv p1, iv p2, iv p3, iv p4, iv p5, iv (3 : Int32), iv v6_339, iv v7_340, iv v8_341, iv v9_342, iv v10_344, iv v11_346, iv v12_348, rv b389, .unset, .unset, .unset] [(.int (3 : Int32))]))
    refine own_go (XS.iconst X393.here hx rfl (hb hby at_140) (Steps.refl _)) ?_
    show own_Fin _ _ _ _ (T393.setTop (mkF m 141 #[iv p1, iv p2, iv p3, iv p4, iv p5, iv (3 : Int32), iv v6_339, iv v7_340, iv v8_341, iv v9_342, iv v10_344, iv v11_346, iv v12_348, rv b389, .unset, .unset, .unset] [(.int (2 : Int32)), (.int (3 : Int32))]))
    refine own_go (XS.icmpNo X393.here hx rfl (hb hby at_141) rfl (tlt (by decide : (2 : Int32) < (3 : Int32))).2.2.2 (Steps.refl _)) ?_
    show own_Fin _ _ _ _ (T393.setTop (mkF m 144 #[iv p1, iv p2, iv p3, iv p4, iv p5, iv (3 : Int32), iv v6_339, iv v7_340, iv v8_341, iv v9_342, iv v10_344, iv v11_346, iv v12_348, rv b389, .unset, .unset, .unset] []))
    refine own_go (XS.aload X393.here hx rfl (hb hby at_144) rfl rfl (Steps.refl _)) ?_
    show own_Fin _ _ _ _ (T393.setTop (mkF m 146 #[iv p1, iv p2, iv p3, iv p4, iv p5, iv (3 : Int32), iv v6_339, iv v7_340, iv v8_341, iv v9_342, iv v10_344, iv v11_346, iv v12_348, rv b389, .unset, .unset, .unset] [(.ref b389)]))
    refine own_go (XS.iconst X393.here hx rfl (hb hby at_146) (Steps.refl _)) ?_
    show own_Fin _ _ _ _ (T393.setTop (mkF m 147 #[iv p1, iv p2, iv p3, iv p4, iv p5, iv (3 : Int32), iv v6_339, iv v7_340, iv v8_341, iv v9_342, iv v10_344, iv v11_346, iv v12_348, rv b389, .unset, .unset, .unset] [(.int (2 : Int32)), (.ref b389)]))
    refine own_go (XS.iload X393.here hx rfl (hb hby at_147) rfl (Steps.refl _)) ?_
    show own_Fin _ _ _ _ (T393.setTop (mkF m 149 #[iv p1, iv p2, iv p3, iv p4, iv p5, iv (3 : Int32), iv v6_339, iv v7_340, iv v8_341, iv v9_342, iv v10_344, iv v11_346, iv v12_348, rv b389, .unset, .unset, .unset] [(.int v9_342), (.int (2 : Int32)), (.ref b389)]))
    obtain ⟨cl394, Ar394, qa394, Sa394, Na394, Ha394, Ga394⟩ := id V_b389_393
    have hin394 : ¬ ((2 : Int32) < 0 ∨ cl394.slots.size ≤ ((2 : Int32)).toNatClampNeg) := inb_of Sa394 ⟨by decide, by decide⟩
    obtain ⟨T395, h395, X395, e395, W395, st395⟩ := stC X393 hx hZ e393 Ar394 (j := (2 : Int32)) hin394 (g := (mkF m 149 #[iv p1, iv p2, iv p3, iv p4, iv p5, iv (3 : Int32), iv v6_339, iv v7_340, iv v8_341, iv v9_342, iv v10_344, iv v11_346, iv v12_348, rv b389, .unset, .unset, .unset] [(.int v9_342), (.int (2 : Int32)), (.ref b389)])) rfl rfl (hb hby at_149)
    refine own_by st395 ?_
    have hnr395 : nar .char v9_342 = v9_342 := own_chn hr_v9_342
    rw [hnr395] at W395
    have V_b389_395 : Arv Z h395 b389 k389 .char (3 : Int32) [(.int v7_340), (.int v8_341), (.int v9_342)] (.int (0 : Int32)) := Arv.set Ar394 qa394 Sa394 Na394 Ha394 Ga394 (hnr395 ▸ fits_nar_char v9_342) W395 2 rfl (Nat.le_of_ble_eq_true rfl)
    have Od395 := Od393.wr W395 g_b389
    have N395 := Fr.snoc X395 N393 g_b389
    have Z395 : n0 ≤ h395.size := Nat.le_trans Z393 (Keep.of_wr W395).1
    have hk395 : 0 ≤ h395.size := Nat.le_trans hk393 (Keep.of_wr W395).1
    show own_Fin _ _ _ _ (T395.setTop (mkF m 150 #[iv p1, iv p2, iv p3, iv p4, iv p5, iv (3 : Int32), iv v6_339, iv v7_340, iv v8_341, iv v9_342, iv v10_344, iv v11_346, iv v12_348, rv b389, .unset, .unset, .unset] []))
    exact hj349 T395 _ h395 b389 k389 (X395.more (by decide) (by decide)) e395 N395 Z395 Od395  V_b389_395 g_b389
set_option maxRecDepth 65536 in
set_option maxHeartbeats 40000000 in
theorem comes_1 {Post : Tables → Env → Array Value → State → Outcome → State → Prop} (hpost : ∀ tb e args s v u, (limb_1_1.after args s (.returned v) u = true ∧ limb_1_2.after args s (.returned v) u = true ∧ True) → ReturnedEndW s (.returned v) u (Jvm.fieldLocs frame_1_writes args s ++ Jvm.arrayLocs frame_1_arrays args s ++ Jvm.staticLocs frame_1_statics s) 24 1152 → Post tb e args s (.returned v) u) :
    ArmFor flags0 classFile x code maxLocals ret World_1 tables_1 room_1 Calls_1 rest_1 Pre_1 Post := by
  intro l hfl _ _ p e ha hc hk s m args below hf hA hF happ hP
  obtain ⟨hcalls, hrest, hpre⟩ := hP
  obtain ⟨-, -, -, hnamed, -, -, -, hat⟩ := (Spec.applies_iff hf).mp happ
  obtain ⟨hg, hn⟩ := and_e (Cond.before_iff.mp (show (Jvm.Cond.and given_1 narrow_1).before args s = true from hpre))
  obtain ⟨gg1, gg2⟩ := and_e hg
  obtain ⟨gg3, gg4⟩ := and_e gg2
  obtain ⟨gg5, gg6⟩ := and_e gg4
  obtain ⟨gg7, gg8⟩ := and_e gg6
  obtain ⟨gg9, gg10⟩ := and_e gg8
  obtain ⟨w0, w1, w2, w3, w4, rfl⟩ : ∃ w0 w1 w2 w3 w4 : Value, args = #[w0, w1, w2, w3, w4] := by
    have hs : args.size = 5 := by simpa [Cond.value, given_1] using gg1
    obtain ⟨L⟩ := args
    match L, hs with
    | [w0, w1, w2, w3, w4], _ => exact ⟨w0, w1, w2, w3, w4, rfl⟩
  have hw := fun d (hd : d ∈ tables_1) => atoms_spec (ws := Jvm.Cond.code x code maxLocals ret :: tables_1) hat d (List.mem_cons_of_mem _ hd)
  obtain ⟨i0, ei0⟩ := is_v gg3
  obtain rfl : w0 = (.int i0) := Option.some.inj ei0
  obtain ⟨i1, ei1⟩ := is_v gg5
  obtain rfl : w1 = (.int i1) := Option.some.inj ei1
  obtain ⟨i2, ei2⟩ := is_v gg7
  obtain rfl : w2 = (.int i2) := Option.some.inj ei2
  obtain ⟨i3, ei3⟩ := is_v gg9
  obtain rfl : w3 = (.int i3) := Option.some.inj ei3
  obtain ⟨i4, ei4⟩ := is_v gg10
  obtain rfl : w4 = (.int i4) := Option.some.inj ei4
  have hfit : Fit s := fun {y c} hc i hi => by
    obtain ⟨ha, rfl⟩ := Array.getElem?_eq_some_iff.mp hc
    have q := List.all_eq_true.mp ((Array.all_eq_true_iff_forall_mem.mp hF) _ (Array.getElem_mem ha)) i (List.mem_range.mpr hi)
    simpa [Array.getElem?_eq_getElem hi] using q
  obtain ⟨hsets, hown0⟩ := atoms_of _ (rest_1_c_eq ▸ (show rest_1_c.before _ s = true from hrest))
  obtain ⟨cs, ecs⟩ := is_v (Cond.before_iff.mp (hsets _ (List.mem_of_getElem? (i := 1) rfl)))
  have S_CS := Sta.start ecs (Or.inl (hsets _ (List.mem_of_getElem? (i := 0) rfl)))
  have hcs : ¬ cs = (0 : Int32) := by
    intro q
    subst q
    have h := not_v (Cond.before_iff.mp (hsets _ (List.mem_of_getElem? (i := 2) rfl)))
    have h' := (eq_i ecs (Term.int_eval (0 : Int32)) rfl).symm.trans h
    cases h'
  obtain ⟨sv, esv, hsr⟩ := isR_v (Cond.before_iff.mp (hsets _ (List.mem_of_getElem? (i := 8) rfl)))
  have S_F := Sta.start esv (Or.inl (hsets _ (List.mem_of_getElem? (i := 7) rfl)))
  have S_A := Sta.start (own_eqw (hsets _ (List.mem_of_getElem? (i := 12) rfl))) (Or.inl (hsets _ (List.mem_of_getElem? (i := 11) rfl)))
  have S_H := Sta.start (own_eqw (hsets _ (List.mem_of_getElem? (i := 15) rfl))) (Or.inl (hsets _ (List.mem_of_getElem? (i := 14) rfl)))
  have S_L := Sta.start (own_eqw (hsets _ (List.mem_of_getElem? (i := 18) rfl))) (Or.inl (hsets _ (List.mem_of_getElem? (i := 17) rfl)))
  obtain ⟨n, o, h1, h2, h3, _, L, rfl, ⟨rfl, N⟩, hq⟩ := rm0 l s _ hw tables_1 i0 i1 i2 i3 i4 cs sv s.heap s.heap.size (Nat.le_refl _) (Old.start s) S_A S_H S_L S_CS S_F hcs (own_refc hsr) (hcalls.1 _ (List.mem_of_getElem? (i := 0) rfl)) (hsets _ (List.mem_of_getElem? (i := 2) rfl)) p e ha hc hk s m _ below hf ((Spec.applies_iff_loose hf).mp happ).1 ⟨rfl, ⟨State.Warmed39.refl s, rfl⟩, rfl⟩ trivial
  refine ⟨n, _, h1, h2, h3, hpost _ _ _ _ _ _ ⟨Cond.after_iff.mpr rfl, Cond.after_iff.mpr (eq_i res_at (Term.int_eval (1)) rfl), trivial⟩ ⟨hq.1, hq.2.1, hq.2.2.1, (hq.2.2.2.sift fun y hy => Or.inr (N y hy)).mono (by decide) (by decide)⟩⟩
theorem main_1_1 : Claimed_1_1 := comes_1 fun _ _ _ _ _ _ h hF => ⟨h.1, hF⟩
theorem main_1_2 : Claimed_1_2 := comes_1 fun _ _ _ _ _ _ h hF => ⟨h.2.1, hF⟩
end Jvm.Pilot.@@N@@
namespace Jvm.Pilot.@@N@@
open Jvm Jvm.ClassFile Sem Op Lib Jvm.Free Jvm.Stand Jvm.Pilot.@@N@@.Jvm.D
/-! MADE BY PROGRAM (witnessworld.py) out of the Statement's table words and the real class files: 21 classes; the members and pool entries that the words name. The judged class is class 1, her method 3. -/
namespace start1
open Jvm.ClassFile
def u (s : String) : CpInfo := .utf8 (stringToUtf16 s)
/-- a pool by its gaps: so many unusable entries, then the entry; so many at the end -/
def gap : Nat → List CpInfo → List CpInfo
  | 0, r => r
  | n + 1, r => .unusable :: gap n r
def poolList (es : List (Nat × CpInfo)) (last : Nat) : List CpInfo := es.foldr (fun e r => gap e.1 (e.2 :: r)) (gap last [])
def pool (es : List (Nat × CpInfo)) (last : Nat) : Array CpInfo := ⟨poolList es last⟩
def fileOf (pool : Array CpInfo) (this : Nat) (attrs : Array Attribute := #[]) (ms : Array MethodInfo := #[]) (fl : Nat := 33) (sup : Nat := 0) (ifs : Array Nat := #[]) (fds : Array FieldInfo := #[]) : ClassFile where
  minorVersion := 0
  majorVersion := 65
  constantPool := pool
  accessFlags := fl
  thisClass := this
  superClass := sup
  interfaces := ifs
  fields := fds
  methods := ms
  attributes := attrs
def plain (name : String) (sup : Option ClassId) : Class where
  name := name
  kind := .ordinary
  loader := none
  accessFlags := 33
  super := sup
  interfaces := #[]
  cf := none
  fields := #[]
  methods := #[]
  instanceTypes := #[]
  staticTypes := #[]
  resolved := #[]
  callSites := []
  init := .initialized
  statics := none
  mirror := none

def pool0 : Array CpInfo := pool [(5, u "<init>"), (0, u "()V"), (1, .class_ 10), (1, u "java/lang/Object")] 113

def k0c0 : Code := { maxStack := 0, maxLocals := 1, code := object_method_1_code, exceptionTable := #[], attributes := #[] }
def k0m0 : Method := { name := "<init>", desc := "()V", sig := { parameters := [], returnType := none }, accessFlags := 1, code := some k0c0 }
/-- java/lang/Object -/
def k0 : Class := { plain "java/lang/Object" none with
  accessFlags := 33
  interfaces := #[]
  cf := some (fileOf pool0 8 #[] #[{ accessFlags := 1, nameIndex := 5, descriptorIndex := 6, attributes := #[] }] 33 0 #[] #[])
  fields := #[]
  methods := #[k0m0]
  instanceTypes := #[]
  staticTypes := #[]
  resolved := Array.replicate 124 none
  statics := none }

def pool1 : Array CpInfo := pool [(2, .class_ 4), (1, u "java/lang/Object"), (0, u "<init>"), (0, u "()V"), (0, .methodref 8 9), (0, .class_ 10), (0, .nameAndType 11 12), (0, u "com/example/headwright/headwright/HeaderEqualsIgnoringAsciiCasePinLaw"), (0, u "other"), (0, u "(CII)C"), (0, .methodref 8 14), (0, .nameAndType 15 16), (0, u "same"), (0, u "(CC)Z"), (0, .class_ 18), (0, u "java/lang/String"), (0, .methodref 17 20), (0, .nameAndType 5 21), (0, u "([C)V"), (0, .methodref 23 24), (0, .class_ 25), (0, .nameAndType 26 27), (0, u "com/example/headwright/headwright/Header"), (0, u "equalsIgnoringAsciiCase"), (0, u "(Ljava/lang/String;Ljava/lang/String;)Z"), (3, u "law"), (0, u "(IIIII)Z")] 4

def k1m0 : Method := { name := "<init>", desc := "()V", sig := { parameters := [], returnType := none }, accessFlags := 1, code := none }
def k1c1 : Code := { maxStack := 2, maxLocals := 2, code := method_2_code, exceptionTable := #[], attributes := #[] }
def k1m1 : Method := { name := "same", desc := "(CC)Z", sig := { parameters := [.char, .char], returnType := some .boolean }, accessFlags := 10, code := some k1c1 }
def k1c2 : Code := { maxStack := 2, maxLocals := 3, code := method_3_code, exceptionTable := #[], attributes := #[] }
def k1m2 : Method := { name := "other", desc := "(CII)C", sig := { parameters := [.char, .int, .int], returnType := some .char }, accessFlags := 10, code := some k1c2 }
def k1c3 : Code := { maxStack := 4, maxLocals := 17, code := code, exceptionTable := #[], attributes := #[] }
def k1m3 : Method := { name := "law", desc := "(IIIII)Z", sig := { parameters := [.int, .int, .int, .int, .int], returnType := some .boolean }, accessFlags := 9, code := some k1c3 }
/-- com/example/headwright/headwright/HeaderEqualsIgnoringAsciiCasePinLaw -/
def k1 : Class := { plain "com/example/headwright/headwright/HeaderEqualsIgnoringAsciiCasePinLaw" (some 0) with
  accessFlags := 49
  interfaces := #[]
  cf := some (fileOf pool1 8 #[] #[{ accessFlags := 1, nameIndex := 5, descriptorIndex := 6, attributes := #[] }, { accessFlags := 10, nameIndex := 15, descriptorIndex := 16, attributes := #[] }, { accessFlags := 10, nameIndex := 11, descriptorIndex := 12, attributes := #[] }, { accessFlags := 9, nameIndex := 31, descriptorIndex := 32, attributes := #[] }] 49 2 #[] #[])
  fields := #[]
  methods := #[k1m0, k1m1, k1m2, k1m3]
  instanceTypes := #[]
  staticTypes := #[]
  resolved := Array.replicate 37 none
  statics := none }

def pool2 : Array CpInfo := pool [(1, .class_ 2), (0, u "java/io/Serializable"), (0, .class_ 4), (0, u "java/lang/Object")] 2

/-- java/io/Serializable -/
def k2 : Class := { plain "java/io/Serializable" (some 0) with
  accessFlags := 1537
  interfaces := #[]
  cf := some (fileOf pool2 1 #[] #[] 1537 3 #[] #[])
  fields := #[]
  methods := #[]
  instanceTypes := #[]
  staticTypes := #[]
  resolved := Array.replicate 7 none
  statics := none }

def pool3 : Array CpInfo := pool [(1, .class_ 2), (0, u "java/lang/Comparable"), (0, .class_ 4), (0, u "java/lang/Object")] 7

/-- java/lang/Comparable -/
def k3 : Class := { plain "java/lang/Comparable" (some 0) with
  accessFlags := 1537
  interfaces := #[]
  cf := some (fileOf pool3 1 #[] #[] 1537 3 #[] #[])
  fields := #[]
  methods := #[]
  instanceTypes := #[]
  staticTypes := #[]
  resolved := Array.replicate 12 none
  statics := none }

def pool4 : Array CpInfo := pool [(2, .class_ 4), (1, u "java/lang/CharSequence"), (42, .class_ 48), (0, u "java/lang/CharSequence$1CodePointIterator"), (10, .class_ 60), (0, u "java/lang/CharSequence$1CharIterator"), (5, .class_ 67), (0, u "java/lang/Object")] 63

/-- java/lang/CharSequence -/
def k4 : Class := { plain "java/lang/CharSequence" (some 0) with
  accessFlags := 1537
  interfaces := #[]
  cf := some (fileOf pool4 2 #[.nestMembers #[47, 59]] #[] 1537 66 #[] #[])
  fields := #[]
  methods := #[]
  instanceTypes := #[]
  staticTypes := #[]
  resolved := Array.replicate 131 none
  statics := none }

def pool5 : Array CpInfo := pool [(1, .class_ 2), (0, u "java/lang/constant/Constable"), (0, .class_ 4), (0, u "java/lang/Object")] 6

/-- java/lang/constant/Constable -/
def k5 : Class := { plain "java/lang/constant/Constable" (some 0) with
  accessFlags := 1537
  interfaces := #[]
  cf := some (fileOf pool5 1 #[] #[] 1537 3 #[] #[])
  fields := #[]
  methods := #[]
  instanceTypes := #[]
  staticTypes := #[]
  resolved := Array.replicate 11 none
  statics := none }

def pool6 : Array CpInfo := pool [(1, .class_ 2), (0, u "java/lang/constant/ConstantDesc"), (0, .class_ 4), (0, u "java/lang/Object")] 32

/-- java/lang/constant/ConstantDesc -/
def k6 : Class := { plain "java/lang/constant/ConstantDesc" (some 0) with
  accessFlags := 1537
  interfaces := #[]
  cf := some (fileOf pool6 1 #[] #[] 1537 3 #[] #[])
  fields := #[]
  methods := #[]
  instanceTypes := #[]
  staticTypes := #[]
  resolved := Array.replicate 37 none
  statics := none }

def pool7 : Array CpInfo := pool [(1, .methodref 2 3), (0, .class_ 4), (0, .nameAndType 5 6), (0, u "java/lang/Object"), (0, u "<init>"), (0, u "()V"), (0, .string 8), (0, u ""), (0, .fieldref 10 11), (0, .class_ 12), (0, .nameAndType 13 14), (0, u "java/lang/String"), (0, u "value"), (0, u "[B"), (0, .fieldref 10 16), (0, .nameAndType 17 18), (0, u "coder"), (0, u "B"), (2, u "hash"), (0, u "I"), (2, u "hashIsZero"), (0, u "Z"), (0, .methodref 10 28), (0, .nameAndType 5 29), (0, u "([CIILjava/lang/Void;)V"), (8, .fieldref 10 39), (0, .nameAndType 40 26), (0, u "COMPACT_STRINGS"), (1, .class_ 44), (1, u "java/lang/StringUTF16"), (0, u "compress"), (1, .methodref 42 48), (0, .nameAndType 49 50), (0, u "coderFromArrayLen"), (0, u "([BI)B"), (56, .class_ 109), (1, u "java/lang/StringLatin1"), (32, u "()Z"), (34, .methodref 42 178), (0, .nameAndType 45 179), (0, u "([CII)[B"), (154, u "()I"), (0, .methodref 10 336), (0, .nameAndType 17 337), (0, u "()B"), (25, u "([BI)C"), (27, u "(II)V"), (35, u "(I)C"), (64, .methodref 10 493), (0, .nameAndType 494 142), (0, u "isLatin1"), (0, .methodref 107 496), (0, .nameAndType 497 363), (0, u "charAt"), (0, .methodref 42 496), (2, u "checkIndex"), (5, u "length"), (67, .class_ 576), (0, u "java/lang/CharSequence"), (22, u "CASE_INSENSITIVE_ORDER"), (0, u "Ljava/util/Comparator;"), (409, u "([C)V"), (42, .fieldref 1054 1055), (0, .class_ 1056), (0, .nameAndType 1057 1058), (0, u "jdk/internal/util/Preconditions"), (0, u "SIOOBE_FORMATTER"), (0, u "Ljava/util/function/BiFunction;"), (0, .methodref 1054 1060), (0, .nameAndType 501 1061), (0, u "(IILjava/util/function/BiFunction;)I"), (39, u "serialPersistentFields"), (0, u "[Ljava/io/ObjectStreamField;"), (0, .class_ 1104), (0, u "java/lang/String$CaseInsensitiveComparator"), (1, .class_ 1107), (0, u "java/io/Serializable"), (0, .class_ 1109), (0, u "java/lang/Comparable"), (0, .class_ 1111), (0, u "java/lang/constant/Constable"), (0, .class_ 1113), (0, u "java/lang/constant/ConstantDesc"), (2, u "serialVersionUID"), (0, u "J"), (3, u "REPL"), (0, u "C"), (2, u "LATIN1"), (1, u "UTF16")] 323

def k7m0 : Method := { name := "<init>", desc := "()V", sig := { parameters := [], returnType := none }, accessFlags := 1, code := none }
def k7c1 : Code := { maxStack := 5, maxLocals := 2, code := jdk_42_method_3_code, exceptionTable := #[], attributes := #[] }
def k7m1 : Method := { name := "<init>", desc := "([C)V", sig := { parameters := [(.array .char)], returnType := none }, accessFlags := 1, code := some k7c1 }
def k7c2 : Code := { maxStack := 2, maxLocals := 1, code := jdk_42_method_54_code, exceptionTable := #[], attributes := #[] }
def k7m2 : Method := { name := "length", desc := "()I", sig := { parameters := [], returnType := some .int }, accessFlags := 1, code := some k7c2 }
def k7c3 : Code := { maxStack := 2, maxLocals := 2, code := jdk_42_method_56_code, exceptionTable := #[], attributes := #[] }
def k7m3 : Method := { name := "charAt", desc := "(I)C", sig := { parameters := [.int], returnType := some .char }, accessFlags := 1, code := some k7c3 }
def k7c4 : Code := { maxStack := 4, maxLocals := 6, code := jdk_42_method_149_code, exceptionTable := #[], attributes := #[] }
def k7m4 : Method := { name := "<init>", desc := "([CIILjava/lang/Void;)V", sig := { parameters := [(.array .char), .int, .int, (.object "java/lang/Void")], returnType := none }, accessFlags := 2, code := some k7c4 }
def k7c5 : Code := { maxStack := 1, maxLocals := 1, code := jdk_42_method_152_code, exceptionTable := #[], attributes := #[] }
def k7m5 : Method := { name := "coder", desc := "()B", sig := { parameters := [], returnType := some .byte }, accessFlags := 0, code := some k7c5 }
def k7c6 : Code := { maxStack := 1, maxLocals := 1, code := jdk_42_method_154_code, exceptionTable := #[], attributes := #[] }
def k7m6 : Method := { name := "isLatin1", desc := "()Z", sig := { parameters := [], returnType := some .boolean }, accessFlags := 0, code := some k7c6 }
def k7c7 : Code := { maxStack := 3, maxLocals := 2, code := jdk_42_method_155_code, exceptionTable := #[], attributes := #[] }
def k7m7 : Method := { name := "checkIndex", desc := "(II)V", sig := { parameters := [.int, .int], returnType := none }, accessFlags := 8, code := some k7c7 }
/-- java/lang/String -/
def k7 : Class := { plain "java/lang/String" (some 0) with
  accessFlags := 49
  interfaces := #[2, 3, 4, 5, 6]
  cf := some (fileOf pool7 10 #[.nestMembers #[1103]] #[{ accessFlags := 1, nameIndex := 5, descriptorIndex := 6, attributes := #[] }, { accessFlags := 1, nameIndex := 5, descriptorIndex := 1010, attributes := #[] }, { accessFlags := 1, nameIndex := 507, descriptorIndex := 334, attributes := #[] }, { accessFlags := 1, nameIndex := 497, descriptorIndex := 427, attributes := #[] }, { accessFlags := 2, nameIndex := 5, descriptorIndex := 29, attributes := #[] }, { accessFlags := 0, nameIndex := 17, descriptorIndex := 337, attributes := #[] }, { accessFlags := 0, nameIndex := 494, descriptorIndex := 142, attributes := #[] }, { accessFlags := 8, nameIndex := 501, descriptorIndex := 391, attributes := #[] }] 49 2 #[1106, 1108, 575, 1110, 1112] #[{ accessFlags := 18, nameIndex := 13, descriptorIndex := 14, attributes := #[] }, { accessFlags := 18, nameIndex := 17, descriptorIndex := 18, attributes := #[] }, { accessFlags := 2, nameIndex := 21, descriptorIndex := 22, attributes := #[] }, { accessFlags := 2, nameIndex := 25, descriptorIndex := 26, attributes := #[] }, { accessFlags := 26, nameIndex := 1116, descriptorIndex := 1117, attributes := #[] }, { accessFlags := 24, nameIndex := 40, descriptorIndex := 26, attributes := #[] }, { accessFlags := 26, nameIndex := 1101, descriptorIndex := 1102, attributes := #[] }, { accessFlags := 26, nameIndex := 1121, descriptorIndex := 1122, attributes := #[] }, { accessFlags := 25, nameIndex := 599, descriptorIndex := 600, attributes := #[] }, { accessFlags := 24, nameIndex := 1125, descriptorIndex := 18, attributes := #[] }, { accessFlags := 24, nameIndex := 1127, descriptorIndex := 18, attributes := #[] }])
  fields := #[{ name := "value", type := (.array .byte), accessFlags := 18, slot := 0, constantValue := 0 }, { name := "coder", type := .byte, accessFlags := 18, slot := 1, constantValue := 0 }, { name := "hash", type := .int, accessFlags := 2, slot := 2, constantValue := 0 }, { name := "hashIsZero", type := .boolean, accessFlags := 2, slot := 3, constantValue := 0 }, { name := "serialVersionUID", type := .long, accessFlags := 26, slot := 0, constantValue := 0 }, { name := "COMPACT_STRINGS", type := .boolean, accessFlags := 24, slot := 1, constantValue := 0 }, { name := "serialPersistentFields", type := (.array (.object "java/io/ObjectStreamField")), accessFlags := 26, slot := 2, constantValue := 0 }, { name := "REPL", type := .char, accessFlags := 26, slot := 3, constantValue := 0 }, { name := "CASE_INSENSITIVE_ORDER", type := (.object "java/util/Comparator"), accessFlags := 25, slot := 4, constantValue := 0 }, { name := "LATIN1", type := .byte, accessFlags := 24, slot := 5, constantValue := 0 }, { name := "UTF16", type := .byte, accessFlags := 24, slot := 6, constantValue := 0 }]
  methods := #[k7m0, k7m1, k7m2, k7m3, k7m4, k7m5, k7m6, k7m7]
  instanceTypes := #[(.array .byte), .byte, .int, .boolean]
  staticTypes := #[.long, .boolean, (.array (.object "java/io/ObjectStreamField")), .char, (.object "java/util/Comparator"), .byte, .byte]
  resolved := Array.replicate 1451 none
  statics := some 0 }

def pool8 : Array CpInfo := pool [(3, .class_ 4), (0, u "java/lang/String"), (1, .class_ 8), (1, u "java/lang/Object"), (0, u "<init>"), (0, u "()V"), (0, .methodref 12 13), (0, .class_ 14), (0, .nameAndType 15 16), (0, u "java/lang/StringUTF16"), (0, u "newBytesLength"), (0, u "(I)I"), (3, .integer 1073741823), (23, .fieldref 12 45), (0, .nameAndType 46 47), (0, u "$assertionsDisabled"), (0, u "Z"), (0, .methodref 12 49), (0, .nameAndType 50 51), (0, u "length"), (0, u "([B)I"), (7, .fieldref 12 60), (0, .nameAndType 61 62), (0, u "HI_BYTE_SHIFT"), (0, u "I"), (0, .fieldref 12 64), (0, .nameAndType 65 62), (0, u "LO_BYTE_SHIFT"), (1, .methodref 12 68), (0, .nameAndType 69 70), (0, u "checkIndex"), (0, u "(I[B)V"), (0, .methodref 12 72), (0, .nameAndType 73 74), (0, u "getChar"), (0, u "([BI)C"), (32, .methodref 12 108), (0, .nameAndType 109 110), (0, u "newBytesFor"), (0, u "(I)[B"), (0, .methodref 12 112), (0, .nameAndType 113 114), (0, u "putChar"), (0, u "([BII)V"), (0, .methodref 12 116), (0, .nameAndType 117 118), (0, u "compress"), (0, u "([CI[BII)I"), (0, .methodref 12 120), (0, .nameAndType 121 122), (0, u "toBytes"), (0, u "([CII)[B"), (138, u "coderFromArrayLen"), (0, u "([BI)B"), (106, .class_ 371), (1, u "java/lang/StringUTF16$LinesSpliterator"), (20, u "charAt"), (21, .methodref 3 415), (0, .nameAndType 69 416), (0, u "(II)V"), (13, u "MAX_LENGTH"), (196, .class_ 628), (0, u "java/lang/StringUTF16$CodePointsSpliterator"), (0, .class_ 630), (0, u "java/lang/StringUTF16$CharsSpliterator")] 4

def k8m0 : Method := { name := "<init>", desc := "()V", sig := { parameters := [], returnType := none }, accessFlags := 0, code := none }
def k8c1 : Code := { maxStack := 1, maxLocals := 1, code := jdk_52_method_2_code, exceptionTable := #[], attributes := #[] }
def k8m1 : Method := { name := "newBytesFor", desc := "(I)[B", sig := { parameters := [.int], returnType := some (.array .byte) }, accessFlags := 9, code := some k8c1 }
def k8c2 : Code := { maxStack := 4, maxLocals := 1, code := jdk_52_method_3_code, exceptionTable := #[], attributes := #[] }
def k8m2 : Method := { name := "newBytesLength", desc := "(I)I", sig := { parameters := [.int], returnType := some .int }, accessFlags := 9, code := some k8c2 }
def k8c3 : Code := { maxStack := 4, maxLocals := 3, code := jdk_52_method_4_code, exceptionTable := #[], attributes := #[] }
def k8m3 : Method := { name := "putChar", desc := "([BII)V", sig := { parameters := [(.array .byte), .int, .int], returnType := none }, accessFlags := 8, code := some k8c3 }
def k8c4 : Code := { maxStack := 3, maxLocals := 2, code := jdk_52_method_5_code, exceptionTable := #[], attributes := #[] }
def k8m4 : Method := { name := "getChar", desc := "([BI)C", sig := { parameters := [(.array .byte), .int], returnType := some .char }, accessFlags := 8, code := some k8c4 }
def k8c5 : Code := { maxStack := 2, maxLocals := 1, code := jdk_52_method_6_code, exceptionTable := #[], attributes := #[] }
def k8m5 : Method := { name := "length", desc := "([B)I", sig := { parameters := [(.array .byte)], returnType := some .int }, accessFlags := 9, code := some k8c5 }
def k8c6 : Code := { maxStack := 4, maxLocals := 5, code := jdk_52_method_14_code, exceptionTable := #[], attributes := #[] }
def k8m6 : Method := { name := "toBytes", desc := "([CII)[B", sig := { parameters := [(.array .char), .int, .int], returnType := some (.array .byte) }, accessFlags := 9, code := some k8c6 }
def k8c7 : Code := { maxStack := 2, maxLocals := 2, code := jdk_52_method_15_code, exceptionTable := #[], attributes := #[] }
def k8m7 : Method := { name := "coderFromArrayLen", desc := "([BI)B", sig := { parameters := [(.array .byte), .int], returnType := some .byte }, accessFlags := 8, code := some k8c7 }
def k8c8 : Code := { maxStack := 5, maxLocals := 6, code := jdk_52_method_16_code, exceptionTable := #[], attributes := #[] }
def k8m8 : Method := { name := "compress", desc := "([CII)[B", sig := { parameters := [(.array .char), .int, .int], returnType := some (.array .byte) }, accessFlags := 9, code := some k8c8 }
def k8c9 : Code := { maxStack := 3, maxLocals := 7, code := jdk_52_method_21_code, exceptionTable := #[], attributes := #[] }
def k8m9 : Method := { name := "compress", desc := "([CI[BII)I", sig := { parameters := [(.array .char), .int, (.array .byte), .int, .int], returnType := some .int }, accessFlags := 9, code := some k8c9 }
def k8c10 : Code := { maxStack := 2, maxLocals := 2, code := jdk_52_method_83_code, exceptionTable := #[], attributes := #[] }
def k8m10 : Method := { name := "charAt", desc := "([BI)C", sig := { parameters := [(.array .byte), .int], returnType := some .char }, accessFlags := 9, code := some k8c10 }
def k8c11 : Code := { maxStack := 2, maxLocals := 2, code := jdk_52_method_91_code, exceptionTable := #[], attributes := #[] }
def k8m11 : Method := { name := "checkIndex", desc := "(I[B)V", sig := { parameters := [.int, (.array .byte)], returnType := none }, accessFlags := 9, code := some k8c11 }
/-- java/lang/StringUTF16 -/
def k8 : Class := { plain "java/lang/StringUTF16" (some 0) with
  accessFlags := 48
  interfaces := #[]
  cf := some (fileOf pool8 12 #[.nestMembers #[627, 629, 369]] #[{ accessFlags := 0, nameIndex := 9, descriptorIndex := 10, attributes := #[] }, { accessFlags := 9, nameIndex := 109, descriptorIndex := 110, attributes := #[] }, { accessFlags := 9, nameIndex := 15, descriptorIndex := 16, attributes := #[] }, { accessFlags := 8, nameIndex := 113, descriptorIndex := 114, attributes := #[] }, { accessFlags := 8, nameIndex := 73, descriptorIndex := 74, attributes := #[] }, { accessFlags := 9, nameIndex := 50, descriptorIndex := 51, attributes := #[] }, { accessFlags := 9, nameIndex := 121, descriptorIndex := 122, attributes := #[] }, { accessFlags := 8, nameIndex := 261, descriptorIndex := 262, attributes := #[] }, { accessFlags := 9, nameIndex := 117, descriptorIndex := 122, attributes := #[] }, { accessFlags := 9, nameIndex := 117, descriptorIndex := 118, attributes := #[] }, { accessFlags := 9, nameIndex := 392, descriptorIndex := 74, attributes := #[] }, { accessFlags := 9, nameIndex := 69, descriptorIndex := 70, attributes := #[] }] 48 6 #[] #[{ accessFlags := 26, nameIndex := 61, descriptorIndex := 62, attributes := #[] }, { accessFlags := 26, nameIndex := 65, descriptorIndex := 62, attributes := #[] }, { accessFlags := 24, nameIndex := 430, descriptorIndex := 62, attributes := #[] }, { accessFlags := 4120, nameIndex := 46, descriptorIndex := 47, attributes := #[] }])
  fields := #[{ name := "HI_BYTE_SHIFT", type := .int, accessFlags := 26, slot := 0, constantValue := 0 }, { name := "LO_BYTE_SHIFT", type := .int, accessFlags := 26, slot := 1, constantValue := 0 }, { name := "MAX_LENGTH", type := .int, accessFlags := 24, slot := 2, constantValue := 0 }, { name := "$assertionsDisabled", type := .boolean, accessFlags := 4120, slot := 3, constantValue := 0 }]
  methods := #[k8m0, k8m1, k8m2, k8m3, k8m4, k8m5, k8m6, k8m7, k8m8, k8m9, k8m10, k8m11]
  instanceTypes := #[]
  staticTypes := #[.int, .int, .int, .boolean]
  resolved := Array.replicate 635 none
  statics := some 1 }

def pool9 : Array CpInfo := pool [(2, .class_ 4), (1, u "java/lang/Object"), (0, u "<init>"), (0, u "()V"), (0, .class_ 8), (0, u "java/lang/Record")] 13

def k9m0 : Method := { name := "<init>", desc := "()V", sig := { parameters := [], returnType := none }, accessFlags := 4, code := none }
/-- java/lang/Record -/
def k9 : Class := { plain "java/lang/Record" (some 0) with
  accessFlags := 1057
  interfaces := #[]
  cf := some (fileOf pool9 7 #[] #[{ accessFlags := 4, nameIndex := 5, descriptorIndex := 6, attributes := #[] }] 1057 2 #[] #[])
  fields := #[]
  methods := #[k9m0]
  instanceTypes := #[]
  staticTypes := #[]
  resolved := Array.replicate 22 none
  statics := none }

def pool10 : Array CpInfo := pool [(2, .class_ 4), (1, u "java/lang/Record"), (13, .class_ 20), (1, u "com/example/headwright/headwright/Header"), (0, u "name"), (0, u "Ljava/lang/String;"), (2, u "value"), (2, u "line"), (0, u "I"), (2, u "equalsIgnoringAsciiCase"), (0, u "(Ljava/lang/String;Ljava/lang/String;)Z"), (0, .methodref 35 36), (0, .class_ 37), (0, .nameAndType 38 39), (0, u "java/lang/String"), (0, u "length"), (0, u "()I"), (0, .methodref 35 41), (0, .nameAndType 42 43), (0, u "charAt"), (0, u "(I)C"), (0, .methodref 18 45), (0, .nameAndType 46 47), (0, u "asciiLower"), (0, u "(C)C")] 100

def k10c0 : Code := { maxStack := 3, maxLocals := 3, code := prog_23_method_3_code, exceptionTable := #[], attributes := #[] }
def k10m0 : Method := { name := "equalsIgnoringAsciiCase", desc := "(Ljava/lang/String;Ljava/lang/String;)Z", sig := { parameters := [(.object "java/lang/String"), (.object "java/lang/String")], returnType := some .boolean }, accessFlags := 8, code := some k10c0 }
def k10c1 : Code := { maxStack := 2, maxLocals := 1, code := prog_23_method_6_code, exceptionTable := #[], attributes := #[] }
def k10m1 : Method := { name := "asciiLower", desc := "(C)C", sig := { parameters := [.char], returnType := some .char }, accessFlags := 10, code := some k10c1 }
/-- com/example/headwright/headwright/Header -/
def k10 : Class := { plain "com/example/headwright/headwright/Header" (some 9) with
  accessFlags := 49
  interfaces := #[]
  cf := some (fileOf pool10 18 #[] #[{ accessFlags := 8, nameIndex := 32, descriptorIndex := 33, attributes := #[] }, { accessFlags := 10, nameIndex := 46, descriptorIndex := 47, attributes := #[] }] 49 2 #[] #[{ accessFlags := 18, nameIndex := 21, descriptorIndex := 22, attributes := #[] }, { accessFlags := 18, nameIndex := 25, descriptorIndex := 22, attributes := #[] }, { accessFlags := 18, nameIndex := 28, descriptorIndex := 29, attributes := #[] }])
  fields := #[{ name := "name", type := (.object "java/lang/String"), accessFlags := 18, slot := 0, constantValue := 0 }, { name := "value", type := (.object "java/lang/String"), accessFlags := 18, slot := 1, constantValue := 0 }, { name := "line", type := .int, accessFlags := 18, slot := 2, constantValue := 0 }]
  methods := #[k10m0, k10m1]
  instanceTypes := #[(.object "java/lang/String"), (.object "java/lang/String"), .int]
  staticTypes := #[]
  resolved := Array.replicate 148 none
  statics := none }

def pool11 : Array CpInfo := pool [(1, .class_ 2), (0, u "java/lang/String"), (1, .class_ 6), (1, u "java/lang/Object"), (0, u "<init>"), (0, u "()V"), (0, .methodref 1 10), (0, .nameAndType 11 12), (0, u "checkIndex"), (0, u "(II)V"), (1, .class_ 16), (1, u "java/lang/StringLatin1"), (36, u "([BI)C"), (67, u "$assertionsDisabled"), (0, u "Z"), (98, .class_ 223), (1, u "java/lang/StringLatin1$LinesSpliterator"), (28, u "charAt"), (137, .class_ 391), (0, u "java/lang/StringLatin1$CharsSpliterator")] 3

def k11m0 : Method := { name := "<init>", desc := "()V", sig := { parameters := [], returnType := none }, accessFlags := 0, code := none }
def k11c1 : Code := { maxStack := 2, maxLocals := 2, code := jdk_43_method_2_code, exceptionTable := #[], attributes := #[] }
def k11m1 : Method := { name := "charAt", desc := "([BI)C", sig := { parameters := [(.array .byte), .int], returnType := some .char }, accessFlags := 9, code := some k11c1 }
/-- java/lang/StringLatin1 -/
def k11 : Class := { plain "java/lang/StringLatin1" (some 0) with
  accessFlags := 48
  interfaces := #[]
  cf := some (fileOf pool11 14 #[.nestMembers #[390, 221]] #[{ accessFlags := 0, nameIndex := 7, descriptorIndex := 8, attributes := #[] }, { accessFlags := 9, nameIndex := 252, descriptorIndex := 53, attributes := #[] }] 48 4 #[] #[{ accessFlags := 4120, nameIndex := 121, descriptorIndex := 122, attributes := #[] }])
  fields := #[{ name := "$assertionsDisabled", type := .boolean, accessFlags := 4120, slot := 0, constantValue := 0 }]
  methods := #[k11m0, k11m1]
  instanceTypes := #[]
  staticTypes := #[.boolean]
  resolved := Array.replicate 395 none
  statics := none }

def pool12 : Array CpInfo := pool [(2, .class_ 4), (1, u "java/lang/Object"), (0, u "<init>"), (0, u "()V"), (17, .class_ 26), (1, u "jdk/internal/util/Preconditions"), (6, u "checkIndex"), (21, .class_ 56), (0, u "jdk/internal/util/Preconditions$4"), (57, .class_ 115), (0, u "jdk/internal/util/Preconditions$1"), (7, u "SIOOBE_FORMATTER"), (0, u "Ljava/util/function/BiFunction;"), (0, .class_ 126), (0, u "jdk/internal/util/Preconditions$2"), (3, u "AIOOBE_FORMATTER"), (0, .class_ 132), (0, u "jdk/internal/util/Preconditions$3"), (3, u "IOOBE_FORMATTER"), (41, u "(IILjava/util/function/BiFunction;)I")] 15

def k12m0 : Method := { name := "<init>", desc := "()V", sig := { parameters := [], returnType := none }, accessFlags := 1, code := none }
def k12c1 : Code := { maxStack := 3, maxLocals := 3, code := jdk_41_method_11_code, exceptionTable := #[], attributes := #[] }
def k12m1 : Method := { name := "checkIndex", desc := "(IILjava/util/function/BiFunction;)I", sig := { parameters := [.int, .int, (.object "java/util/function/BiFunction")], returnType := some .int }, accessFlags := 9, code := some k12c1 }
/-- jdk/internal/util/Preconditions -/
def k12 : Class := { plain "jdk/internal/util/Preconditions" (some 0) with
  accessFlags := 33
  interfaces := #[]
  cf := some (fileOf pool12 24 #[.nestMembers #[55, 131, 125, 114]] #[{ accessFlags := 1, nameIndex := 5, descriptorIndex := 6, attributes := #[] }, { accessFlags := 9, nameIndex := 33, descriptorIndex := 178, attributes := #[] }] 33 2 #[] #[{ accessFlags := 25, nameIndex := 123, descriptorIndex := 124, attributes := #[] }, { accessFlags := 25, nameIndex := 130, descriptorIndex := 124, attributes := #[] }, { accessFlags := 25, nameIndex := 136, descriptorIndex := 124, attributes := #[] }])
  fields := #[{ name := "SIOOBE_FORMATTER", type := (.object "java/util/function/BiFunction"), accessFlags := 25, slot := 0, constantValue := 0 }, { name := "AIOOBE_FORMATTER", type := (.object "java/util/function/BiFunction"), accessFlags := 25, slot := 1, constantValue := 0 }, { name := "IOOBE_FORMATTER", type := (.object "java/util/function/BiFunction"), accessFlags := 25, slot := 2, constantValue := 0 }]
  methods := #[k12m0, k12m1]
  instanceTypes := #[]
  staticTypes := #[(.object "java/util/function/BiFunction"), (.object "java/util/function/BiFunction"), (.object "java/util/function/BiFunction")]
  resolved := Array.replicate 194 none
  statics := some 2 }

def pool13 : Array CpInfo := pool [(9, u "<init>"), (6, .class_ 18), (1, u "java/lang/Object"), (0, u "()V"), (1, .class_ 23), (1, u "jdk/internal/util/ArraysSupport"), (0, u "LOG2_ARRAY_LONG_INDEX_SCALE"), (0, u "I"), (2, u "U"), (0, u "Ljdk/internal/misc/Unsafe;"), (8, u "BIG_ENDIAN"), (0, u "Z"), (8, u "LOG2_BYTE_BIT_SIZE"), (4, u "LOG2_ARRAY_INT_INDEX_SCALE"), (54, u "JLA"), (0, u "Ljdk/internal/access/JavaLangAccess;"), (11, u "LOG2_ARRAY_BOOLEAN_INDEX_SCALE"), (9, u "LOG2_ARRAY_BYTE_INDEX_SCALE"), (5, u "LOG2_ARRAY_CHAR_INDEX_SCALE"), (5, u "LOG2_ARRAY_SHORT_INDEX_SCALE"), (18, u "LOG2_ARRAY_FLOAT_INDEX_SCALE"), (24, u "LOG2_ARRAY_DOUBLE_INDEX_SCALE"), (89, u "T_BOOLEAN"), (2, u "T_CHAR"), (1, u "T_FLOAT"), (1, u "T_DOUBLE"), (1, u "T_BYTE"), (1, u "T_SHORT"), (1, u "T_INT"), (1, u "T_LONG"), (1, u "SOFT_MAX_ARRAY_LENGTH")] 83

def k13m0 : Method := { name := "<init>", desc := "()V", sig := { parameters := [], returnType := none }, accessFlags := 2, code := none }
/-- jdk/internal/util/ArraysSupport -/
def k13 : Class := { plain "jdk/internal/util/ArraysSupport" (some 0) with
  accessFlags := 33
  interfaces := #[]
  cf := some (fileOf pool13 21 #[] #[{ accessFlags := 2, nameIndex := 9, descriptorIndex := 19, attributes := #[] }] 33 16 #[] #[{ accessFlags := 24, nameIndex := 28, descriptorIndex := 29, attributes := #[] }, { accessFlags := 26, nameIndex := 38, descriptorIndex := 39, attributes := #[] }, { accessFlags := 25, nameIndex := 121, descriptorIndex := 25, attributes := #[] }, { accessFlags := 25, nameIndex := 131, descriptorIndex := 25, attributes := #[] }, { accessFlags := 25, nameIndex := 137, descriptorIndex := 25, attributes := #[] }, { accessFlags := 25, nameIndex := 143, descriptorIndex := 25, attributes := #[] }, { accessFlags := 25, nameIndex := 53, descriptorIndex := 25, attributes := #[] }, { accessFlags := 25, nameIndex := 24, descriptorIndex := 25, attributes := #[] }, { accessFlags := 25, nameIndex := 162, descriptorIndex := 25, attributes := #[] }, { accessFlags := 25, nameIndex := 187, descriptorIndex := 25, attributes := #[] }, { accessFlags := 26, nameIndex := 48, descriptorIndex := 25, attributes := #[] }, { accessFlags := 25, nameIndex := 277, descriptorIndex := 25, attributes := #[] }, { accessFlags := 25, nameIndex := 280, descriptorIndex := 25, attributes := #[] }, { accessFlags := 25, nameIndex := 282, descriptorIndex := 25, attributes := #[] }, { accessFlags := 25, nameIndex := 284, descriptorIndex := 25, attributes := #[] }, { accessFlags := 25, nameIndex := 286, descriptorIndex := 25, attributes := #[] }, { accessFlags := 25, nameIndex := 288, descriptorIndex := 25, attributes := #[] }, { accessFlags := 25, nameIndex := 290, descriptorIndex := 25, attributes := #[] }, { accessFlags := 25, nameIndex := 292, descriptorIndex := 25, attributes := #[] }, { accessFlags := 26, nameIndex := 108, descriptorIndex := 109, attributes := #[] }, { accessFlags := 25, nameIndex := 294, descriptorIndex := 25, attributes := #[] }])
  fields := #[{ name := "U", type := (.object "jdk/internal/misc/Unsafe"), accessFlags := 24, slot := 0, constantValue := 0 }, { name := "BIG_ENDIAN", type := .boolean, accessFlags := 26, slot := 1, constantValue := 0 }, { name := "LOG2_ARRAY_BOOLEAN_INDEX_SCALE", type := .int, accessFlags := 25, slot := 2, constantValue := 0 }, { name := "LOG2_ARRAY_BYTE_INDEX_SCALE", type := .int, accessFlags := 25, slot := 3, constantValue := 0 }, { name := "LOG2_ARRAY_CHAR_INDEX_SCALE", type := .int, accessFlags := 25, slot := 4, constantValue := 0 }, { name := "LOG2_ARRAY_SHORT_INDEX_SCALE", type := .int, accessFlags := 25, slot := 5, constantValue := 0 }, { name := "LOG2_ARRAY_INT_INDEX_SCALE", type := .int, accessFlags := 25, slot := 6, constantValue := 0 }, { name := "LOG2_ARRAY_LONG_INDEX_SCALE", type := .int, accessFlags := 25, slot := 7, constantValue := 0 }, { name := "LOG2_ARRAY_FLOAT_INDEX_SCALE", type := .int, accessFlags := 25, slot := 8, constantValue := 0 }, { name := "LOG2_ARRAY_DOUBLE_INDEX_SCALE", type := .int, accessFlags := 25, slot := 9, constantValue := 0 }, { name := "LOG2_BYTE_BIT_SIZE", type := .int, accessFlags := 26, slot := 10, constantValue := 0 }, { name := "T_BOOLEAN", type := .int, accessFlags := 25, slot := 11, constantValue := 0 }, { name := "T_CHAR", type := .int, accessFlags := 25, slot := 12, constantValue := 0 }, { name := "T_FLOAT", type := .int, accessFlags := 25, slot := 13, constantValue := 0 }, { name := "T_DOUBLE", type := .int, accessFlags := 25, slot := 14, constantValue := 0 }, { name := "T_BYTE", type := .int, accessFlags := 25, slot := 15, constantValue := 0 }, { name := "T_SHORT", type := .int, accessFlags := 25, slot := 16, constantValue := 0 }, { name := "T_INT", type := .int, accessFlags := 25, slot := 17, constantValue := 0 }, { name := "T_LONG", type := .int, accessFlags := 25, slot := 18, constantValue := 0 }, { name := "JLA", type := (.object "jdk/internal/access/JavaLangAccess"), accessFlags := 26, slot := 19, constantValue := 0 }, { name := "SOFT_MAX_ARRAY_LENGTH", type := .int, accessFlags := 25, slot := 20, constantValue := 0 }]
  methods := #[k13m0]
  instanceTypes := #[]
  staticTypes := #[(.object "jdk/internal/misc/Unsafe"), .boolean, .int, .int, .int, .int, .int, .int, .int, .int, .int, .int, .int, .int, .int, .int, .int, .int, .int, (.object "jdk/internal/access/JavaLangAccess"), .int]
  resolved := Array.replicate 378 none
  statics := none }

def pool14 : Array CpInfo := pool [(1, u "java/lang/Cloneable"), (0, .class_ 1), (0, u "java/lang/Object"), (0, .class_ 3)] 3

/-- java/lang/Cloneable -/
def k14 : Class := { plain "java/lang/Cloneable" (some 0) with
  accessFlags := 1537
  interfaces := #[]
  cf := some (fileOf pool14 2 #[] #[] 1537 4 #[] #[])
  fields := #[]
  methods := #[]
  instanceTypes := #[]
  staticTypes := #[]
  resolved := Array.replicate 8 none
  statics := none }

/-- the primitive byte -/
def k15 : Class := { plain "byte" none with kind := .primitive 'B', accessFlags := 0x411 }
/-- [B -/
def k16 : Class := { plain "[B" (some 0) with kind := .array 15 .byte, interfaces := #[14, 2], accessFlags := 1041 }

/-- the primitive char -/
def k17 : Class := { plain "char" none with kind := .primitive 'C', accessFlags := 0x411 }
/-- [C -/
def k18 : Class := { plain "[C" (some 0) with kind := .array 17 .char, interfaces := #[14, 2], accessFlags := 1041 }

/-- the primitive int -/
def k19 : Class := { plain "int" none with kind := .primitive 'I', accessFlags := 0x411 }
/-- [I -/
def k20 : Class := { plain "[I" (some 0) with kind := .array 19 .int, interfaces := #[14, 2], accessFlags := 1041 }

def heap : Heap := #[{ cls := 7, slots := #[.long 0, .int 1, .null, .int 0, .null, .int 0, .int 0], vm := .statics 7 },
  { cls := 8, slots := #[.int 0, .int 8, .int 0, .int 1], vm := .statics 8 },
  { cls := 12, slots := #[.null, .null, .null], vm := .statics 12 }]
def classes : Array Class := #[k0, k1, k2, k3, k4, k5, k6, k7, k8, k9, k10, k11, k12, k13, k14, k15, k16, k17, k18, k19, k20]
def interned : List (Array UInt16 × Addr) := []
def slotsUsed : Nat := 14
def theMethod : MethodId := ⟨1, 3⟩
def args0 : Array Value := #[.int 5, .int 5, .int 5, .int 5, .int 5]
def aboutOver (below : List Frame) : State where
  vm := { classes := classes, interned := interned.toArray }
  heap := heap
  slotsUsed := slotsUsed
  threads := #[{ frames := .invoking theMethod args0 :: below }]
def below0 : List Frame := [.native { method := ⟨0, 0⟩, args := #[] }]
def about1 : State := aboutOver below0
def p0 : Program := .bare "" "" ""
def e0 : Env := launch0.env 0 0 0
theorem w_frames : about1.frames = Frame.invoking theMethod args0 :: below0 := rfl
set_option maxRecDepth 65536 in
theorem w_args : argsFit about1.vm theMethod args0 = true := by decide +kernel
set_option maxRecDepth 65536 in
theorem w_heap : heapFits about1 = true := by decide +kernel
set_option maxRecDepth 65536 in
theorem w_runnable : about1.curStatus? = some .runnable := by decide +kernel
set_option maxRecDepth 65536 in
theorem w_alone : about1.alone = true := by decide +kernel
set_option maxRecDepth 65536 in
theorem w_named : about1.methodNamed? x = some theMethod := by decide +kernel
set_option maxRecDepth 65536 in
theorem w_hears : about1.hears theMethod below0 = true := by decide +kernel
set_option maxRecDepth 65536 in
theorem w_ripe : about1.ripe theMethod args0 below0 = true := by decide +kernel
theorem w_running : about1.status = .running := rfl
set_option maxRecDepth 65536 in
theorem w_room : about1.hasRoom e0.platform room_1 = true :=
  launch0.hasRoom_least _ room_1 (by decide +kernel) (by decide +kernel) (by decide +kernel) (by decide +kernel) (by decide +kernel) (by decide +kernel)
theorem allAtoms_all (ts : List Jvm.Cond) (a : Array Jvm.Value) (st : Jvm.State) : (allAtoms ts).before a st = ts.all (fun c => c.before a st) := by
  induction ts with
  | nil => rfl
  | cons c t ih =>
    show (Jvm.Cond.and c (allAtoms t)).before a st = _
    rw [Jvm.Cond.before_and, ih, List.all_cons]
def words1 : List Jvm.Cond := Jvm.Cond.code x code maxLocals ret :: tables_1
/-- a 'code' word, met by the world's own term for the bytes: nothing is compared byte by byte -/
theorem code_word {y : MethodName} {bytes : ByteArray} {mx : Nat} {rt : Option FieldType} {a : Array Value} {s : State} {m : MethodId} {meth : Method} {c : Code} (h1 : s.methodNamed? y = some m) (h2 : s.vm.method? m = some meth) (h3 : meth.code = some c) (h4 : c.code = bytes)
    (h5 : (c.maxLocals == mx && c.exceptionTable.isEmpty && decide (c.maxStack ≤ mostOperands) && decide (meth.sig.returnType = rt) && !meth.locks && decide (parseMethodDescriptor y.desc = some meth.sig)) = true) : (Jvm.Cond.code y bytes mx rt).before a s = true := by
  simp only [Bool.and_eq_true, beq_iff_eq, Bool.not_eq_true', decide_eq_true_eq] at h5
  obtain ⟨⟨⟨⟨⟨g1, g2⟩, g3⟩, g4⟩, g5⟩, g6⟩ := h5
  simp [Cond.before, Cond.holds, Cond.value, h1, h2, h3, h4, g1, g2, g3, g4, g5, g6]
def isCode : Jvm.Cond → Bool
  | .code _ _ _ _ => true
  | _ => false
theorem all_split {L : List Jvm.Cond} {P : Jvm.Cond → Bool} (h1 : L.all (fun c => isCode c || P c) = true) (h2 : ∀ c ∈ L.filter isCode, P c = true) : L.all P = true := by
  refine List.all_eq_true.mpr fun c hc => ?_
  have h := List.all_eq_true.mp h1 c hc
  rcases Bool.eq_false_or_eq_true (isCode c) with hi | hi
  · exact h2 c (List.mem_filter.mpr ⟨hc, hi⟩)
  · simpa [hi] using h
set_option maxRecDepth 65536 in
theorem w_c0 : (Jvm.Cond.code x code maxLocals ret).before args0 about1 = true := code_word (m := ⟨1, 3⟩) (meth := k1m3) (c := k1c3) (by decide +kernel) rfl rfl rfl (by decide +kernel)
set_option maxRecDepth 65536 in
theorem w_c1 : (Jvm.Cond.code ({ cls := "com/example/headwright/headwright/HeaderEqualsIgnoringAsciiCasePinLaw", name := "other", desc := "(CII)C" } : Jvm.MethodName) method_3_code (3 : Nat) (Option.some Jvm.ClassFile.FieldType.char)).before args0 about1 = true := code_word (m := ⟨1, 2⟩) (meth := k1m2) (c := k1c2) (by decide +kernel) rfl rfl rfl (by decide +kernel)
set_option maxRecDepth 65536 in
theorem w_c2 : (Jvm.Cond.code ({ cls := "java/lang/String", name := "<init>", desc := "([C)V" } : Jvm.MethodName) jdk_42_method_3_code (2 : Nat) (Option.none : Option Jvm.ClassFile.FieldType)).before args0 about1 = true := code_word (m := ⟨7, 1⟩) (meth := k7m1) (c := k7c1) (by decide +kernel) rfl rfl rfl (by decide +kernel)
set_option maxRecDepth 65536 in
theorem w_c3 : (Jvm.Cond.code ({ cls := "java/lang/String", name := "<init>", desc := "([CIILjava/lang/Void;)V" } : Jvm.MethodName) jdk_42_method_149_code (6 : Nat) (Option.none : Option Jvm.ClassFile.FieldType)).before args0 about1 = true := code_word (m := ⟨7, 4⟩) (meth := k7m4) (c := k7c4) (by decide +kernel) rfl rfl rfl (by decide +kernel)
set_option maxRecDepth 65536 in
theorem w_c4 : (Jvm.Cond.code ({ cls := "java/lang/Object", name := "<init>", desc := "()V" } : Jvm.MethodName) object_method_1_code (1 : Nat) (Option.none : Option Jvm.ClassFile.FieldType)).before args0 about1 = true := code_word (m := ⟨0, 0⟩) (meth := k0m0) (c := k0c0) (by decide +kernel) rfl rfl rfl (by decide +kernel)
set_option maxRecDepth 65536 in
theorem w_c5 : (Jvm.Cond.code ({ cls := "java/lang/StringUTF16", name := "compress", desc := "([CII)[B" } : Jvm.MethodName) jdk_52_method_16_code (6 : Nat) (Option.some (Jvm.ClassFile.FieldType.array Jvm.ClassFile.FieldType.byte))).before args0 about1 = true := code_word (m := ⟨8, 8⟩) (meth := k8m8) (c := k8c8) (by decide +kernel) rfl rfl rfl (by decide +kernel)
set_option maxRecDepth 65536 in
theorem w_c6 : (Jvm.Cond.code ({ cls := "java/lang/StringUTF16", name := "compress", desc := "([CI[BII)I" } : Jvm.MethodName) jdk_52_method_21_code (7 : Nat) (Option.some Jvm.ClassFile.FieldType.int)).before args0 about1 = true := code_word (m := ⟨8, 9⟩) (meth := k8m9) (c := k8c9) (by decide +kernel) rfl rfl rfl (by decide +kernel)
set_option maxRecDepth 65536 in
theorem w_c7 : (Jvm.Cond.code ({ cls := "java/lang/StringUTF16", name := "coderFromArrayLen", desc := "([BI)B" } : Jvm.MethodName) jdk_52_method_15_code (2 : Nat) (Option.some Jvm.ClassFile.FieldType.byte)).before args0 about1 = true := code_word (m := ⟨8, 7⟩) (meth := k8m7) (c := k8c7) (by decide +kernel) rfl rfl rfl (by decide +kernel)
set_option maxRecDepth 65536 in
theorem w_c8 : (Jvm.Cond.code ({ cls := "com/example/headwright/headwright/Header", name := "equalsIgnoringAsciiCase", desc := "(Ljava/lang/String;Ljava/lang/String;)Z" } : Jvm.MethodName) prog_23_method_3_code (3 : Nat) (Option.some Jvm.ClassFile.FieldType.boolean)).before args0 about1 = true := code_word (m := ⟨10, 0⟩) (meth := k10m0) (c := k10c0) (by decide +kernel) rfl rfl rfl (by decide +kernel)
set_option maxRecDepth 65536 in
theorem w_c9 : (Jvm.Cond.code ({ cls := "java/lang/String", name := "length", desc := "()I" } : Jvm.MethodName) jdk_42_method_54_code (1 : Nat) (Option.some Jvm.ClassFile.FieldType.int)).before args0 about1 = true := code_word (m := ⟨7, 2⟩) (meth := k7m2) (c := k7c2) (by decide +kernel) rfl rfl rfl (by decide +kernel)
set_option maxRecDepth 65536 in
theorem w_c10 : (Jvm.Cond.code ({ cls := "java/lang/String", name := "coder", desc := "()B" } : Jvm.MethodName) jdk_42_method_152_code (1 : Nat) (Option.some Jvm.ClassFile.FieldType.byte)).before args0 about1 = true := code_word (m := ⟨7, 5⟩) (meth := k7m5) (c := k7c5) (by decide +kernel) rfl rfl rfl (by decide +kernel)
set_option maxRecDepth 65536 in
theorem w_c11 : (Jvm.Cond.code ({ cls := "com/example/headwright/headwright/HeaderEqualsIgnoringAsciiCasePinLaw", name := "same", desc := "(CC)Z" } : Jvm.MethodName) method_2_code (2 : Nat) (Option.some Jvm.ClassFile.FieldType.boolean)).before args0 about1 = true := code_word (m := ⟨1, 1⟩) (meth := k1m1) (c := k1c1) (by decide +kernel) rfl rfl rfl (by decide +kernel)
set_option maxRecDepth 65536 in
theorem w_c12 : (Jvm.Cond.code ({ cls := "java/lang/String", name := "charAt", desc := "(I)C" } : Jvm.MethodName) jdk_42_method_56_code (2 : Nat) (Option.some Jvm.ClassFile.FieldType.char)).before args0 about1 = true := code_word (m := ⟨7, 3⟩) (meth := k7m3) (c := k7c3) (by decide +kernel) rfl rfl rfl (by decide +kernel)
set_option maxRecDepth 65536 in
theorem w_c13 : (Jvm.Cond.code ({ cls := "java/lang/String", name := "isLatin1", desc := "()Z" } : Jvm.MethodName) jdk_42_method_154_code (1 : Nat) (Option.some Jvm.ClassFile.FieldType.boolean)).before args0 about1 = true := code_word (m := ⟨7, 6⟩) (meth := k7m6) (c := k7c6) (by decide +kernel) rfl rfl rfl (by decide +kernel)
set_option maxRecDepth 65536 in
theorem w_c14 : (Jvm.Cond.code ({ cls := "java/lang/StringLatin1", name := "charAt", desc := "([BI)C" } : Jvm.MethodName) jdk_43_method_2_code (2 : Nat) (Option.some Jvm.ClassFile.FieldType.char)).before args0 about1 = true := code_word (m := ⟨11, 1⟩) (meth := k11m1) (c := k11c1) (by decide +kernel) rfl rfl rfl (by decide +kernel)
set_option maxRecDepth 65536 in
theorem w_c15 : (Jvm.Cond.code ({ cls := "java/lang/String", name := "checkIndex", desc := "(II)V" } : Jvm.MethodName) jdk_42_method_155_code (2 : Nat) (Option.none : Option Jvm.ClassFile.FieldType)).before args0 about1 = true := code_word (m := ⟨7, 7⟩) (meth := k7m7) (c := k7c7) (by decide +kernel) rfl rfl rfl (by decide +kernel)
set_option maxRecDepth 65536 in
theorem w_c16 : (Jvm.Cond.code ({ cls := "jdk/internal/util/Preconditions", name := "checkIndex", desc := "(IILjava/util/function/BiFunction;)I" } : Jvm.MethodName) jdk_41_method_11_code (3 : Nat) (Option.some Jvm.ClassFile.FieldType.int)).before args0 about1 = true := code_word (m := ⟨12, 1⟩) (meth := k12m1) (c := k12c1) (by decide +kernel) rfl rfl rfl (by decide +kernel)
set_option maxRecDepth 65536 in
theorem w_c17 : (Jvm.Cond.code ({ cls := "com/example/headwright/headwright/Header", name := "asciiLower", desc := "(C)C" } : Jvm.MethodName) prog_23_method_6_code (1 : Nat) (Option.some Jvm.ClassFile.FieldType.char)).before args0 about1 = true := code_word (m := ⟨10, 1⟩) (meth := k10m1) (c := k10c1) (by decide +kernel) rfl rfl rfl (by decide +kernel)
set_option maxRecDepth 65536 in
theorem w_c18 : (Jvm.Cond.code ({ cls := "java/lang/StringUTF16", name := "toBytes", desc := "([CII)[B" } : Jvm.MethodName) jdk_52_method_14_code (5 : Nat) (Option.some (Jvm.ClassFile.FieldType.array Jvm.ClassFile.FieldType.byte))).before args0 about1 = true := code_word (m := ⟨8, 6⟩) (meth := k8m6) (c := k8c6) (by decide +kernel) rfl rfl rfl (by decide +kernel)
set_option maxRecDepth 65536 in
theorem w_c19 : (Jvm.Cond.code ({ cls := "java/lang/StringUTF16", name := "newBytesFor", desc := "(I)[B" } : Jvm.MethodName) jdk_52_method_2_code (1 : Nat) (Option.some (Jvm.ClassFile.FieldType.array Jvm.ClassFile.FieldType.byte))).before args0 about1 = true := code_word (m := ⟨8, 1⟩) (meth := k8m1) (c := k8c1) (by decide +kernel) rfl rfl rfl (by decide +kernel)
set_option maxRecDepth 65536 in
theorem w_c20 : (Jvm.Cond.code ({ cls := "java/lang/StringUTF16", name := "newBytesLength", desc := "(I)I" } : Jvm.MethodName) jdk_52_method_3_code (1 : Nat) (Option.some Jvm.ClassFile.FieldType.int)).before args0 about1 = true := code_word (m := ⟨8, 2⟩) (meth := k8m2) (c := k8c2) (by decide +kernel) rfl rfl rfl (by decide +kernel)
set_option maxRecDepth 65536 in
theorem w_c21 : (Jvm.Cond.code ({ cls := "java/lang/StringUTF16", name := "putChar", desc := "([BII)V" } : Jvm.MethodName) jdk_52_method_4_code (3 : Nat) (Option.none : Option Jvm.ClassFile.FieldType)).before args0 about1 = true := code_word (m := ⟨8, 3⟩) (meth := k8m3) (c := k8c3) (by decide +kernel) rfl rfl rfl (by decide +kernel)
set_option maxRecDepth 65536 in
theorem w_c22 : (Jvm.Cond.code ({ cls := "java/lang/StringUTF16", name := "getChar", desc := "([BI)C" } : Jvm.MethodName) jdk_52_method_5_code (2 : Nat) (Option.some Jvm.ClassFile.FieldType.char)).before args0 about1 = true := code_word (m := ⟨8, 4⟩) (meth := k8m4) (c := k8c4) (by decide +kernel) rfl rfl rfl (by decide +kernel)
set_option maxRecDepth 65536 in
theorem w_c23 : (Jvm.Cond.code ({ cls := "java/lang/StringUTF16", name := "charAt", desc := "([BI)C" } : Jvm.MethodName) jdk_52_method_83_code (2 : Nat) (Option.some Jvm.ClassFile.FieldType.char)).before args0 about1 = true := code_word (m := ⟨8, 10⟩) (meth := k8m10) (c := k8c10) (by decide +kernel) rfl rfl rfl (by decide +kernel)
set_option maxRecDepth 65536 in
theorem w_c24 : (Jvm.Cond.code ({ cls := "java/lang/StringUTF16", name := "checkIndex", desc := "(I[B)V" } : Jvm.MethodName) jdk_52_method_91_code (2 : Nat) (Option.none : Option Jvm.ClassFile.FieldType)).before args0 about1 = true := code_word (m := ⟨8, 11⟩) (meth := k8m11) (c := k8c11) (by decide +kernel) rfl rfl rfl (by decide +kernel)
set_option maxRecDepth 65536 in
theorem w_c25 : (Jvm.Cond.code ({ cls := "java/lang/StringUTF16", name := "length", desc := "([B)I" } : Jvm.MethodName) jdk_52_method_6_code (1 : Nat) (Option.some Jvm.ClassFile.FieldType.int)).before args0 about1 = true := code_word (m := ⟨8, 5⟩) (meth := k8m5) (c := k8c5) (by decide +kernel) rfl rfl rfl (by decide +kernel)
def codes1 : List Jvm.Cond := [Jvm.Cond.code x code maxLocals ret, Jvm.Cond.code ({ cls := "com/example/headwright/headwright/HeaderEqualsIgnoringAsciiCasePinLaw", name := "other", desc := "(CII)C" } : Jvm.MethodName) method_3_code (3 : Nat) (Option.some Jvm.ClassFile.FieldType.char), Jvm.Cond.code ({ cls := "java/lang/String", name := "<init>", desc := "([C)V" } : Jvm.MethodName) jdk_42_method_3_code (2 : Nat) (Option.none : Option Jvm.ClassFile.FieldType), Jvm.Cond.code ({ cls := "java/lang/String", name := "<init>", desc := "([CIILjava/lang/Void;)V" } : Jvm.MethodName) jdk_42_method_149_code (6 : Nat) (Option.none : Option Jvm.ClassFile.FieldType), Jvm.Cond.code ({ cls := "java/lang/Object", name := "<init>", desc := "()V" } : Jvm.MethodName) object_method_1_code (1 : Nat) (Option.none : Option Jvm.ClassFile.FieldType), Jvm.Cond.code ({ cls := "java/lang/StringUTF16", name := "compress", desc := "([CII)[B" } : Jvm.MethodName) jdk_52_method_16_code (6 : Nat) (Option.some (Jvm.ClassFile.FieldType.array Jvm.ClassFile.FieldType.byte)), Jvm.Cond.code ({ cls := "java/lang/StringUTF16", name := "compress", desc := "([CI[BII)I" } : Jvm.MethodName) jdk_52_method_21_code (7 : Nat) (Option.some Jvm.ClassFile.FieldType.int), Jvm.Cond.code ({ cls := "java/lang/StringUTF16", name := "coderFromArrayLen", desc := "([BI)B" } : Jvm.MethodName) jdk_52_method_15_code (2 : Nat) (Option.some Jvm.ClassFile.FieldType.byte), Jvm.Cond.code ({ cls := "com/example/headwright/headwright/Header", name := "equalsIgnoringAsciiCase", desc := "(Ljava/lang/String;Ljava/lang/String;)Z" } : Jvm.MethodName) prog_23_method_3_code (3 : Nat) (Option.some Jvm.ClassFile.FieldType.boolean), Jvm.Cond.code ({ cls := "java/lang/String", name := "length", desc := "()I" } : Jvm.MethodName) jdk_42_method_54_code (1 : Nat) (Option.some Jvm.ClassFile.FieldType.int), Jvm.Cond.code ({ cls := "java/lang/String", name := "coder", desc := "()B" } : Jvm.MethodName) jdk_42_method_152_code (1 : Nat) (Option.some Jvm.ClassFile.FieldType.byte), Jvm.Cond.code ({ cls := "com/example/headwright/headwright/HeaderEqualsIgnoringAsciiCasePinLaw", name := "same", desc := "(CC)Z" } : Jvm.MethodName) method_2_code (2 : Nat) (Option.some Jvm.ClassFile.FieldType.boolean), Jvm.Cond.code ({ cls := "java/lang/String", name := "charAt", desc := "(I)C" } : Jvm.MethodName) jdk_42_method_56_code (2 : Nat) (Option.some Jvm.ClassFile.FieldType.char), Jvm.Cond.code ({ cls := "java/lang/String", name := "isLatin1", desc := "()Z" } : Jvm.MethodName) jdk_42_method_154_code (1 : Nat) (Option.some Jvm.ClassFile.FieldType.boolean), Jvm.Cond.code ({ cls := "java/lang/StringLatin1", name := "charAt", desc := "([BI)C" } : Jvm.MethodName) jdk_43_method_2_code (2 : Nat) (Option.some Jvm.ClassFile.FieldType.char), Jvm.Cond.code ({ cls := "java/lang/String", name := "checkIndex", desc := "(II)V" } : Jvm.MethodName) jdk_42_method_155_code (2 : Nat) (Option.none : Option Jvm.ClassFile.FieldType), Jvm.Cond.code ({ cls := "jdk/internal/util/Preconditions", name := "checkIndex", desc := "(IILjava/util/function/BiFunction;)I" } : Jvm.MethodName) jdk_41_method_11_code (3 : Nat) (Option.some Jvm.ClassFile.FieldType.int), Jvm.Cond.code ({ cls := "com/example/headwright/headwright/Header", name := "asciiLower", desc := "(C)C" } : Jvm.MethodName) prog_23_method_6_code (1 : Nat) (Option.some Jvm.ClassFile.FieldType.char), Jvm.Cond.code ({ cls := "java/lang/StringUTF16", name := "toBytes", desc := "([CII)[B" } : Jvm.MethodName) jdk_52_method_14_code (5 : Nat) (Option.some (Jvm.ClassFile.FieldType.array Jvm.ClassFile.FieldType.byte)), Jvm.Cond.code ({ cls := "java/lang/StringUTF16", name := "newBytesFor", desc := "(I)[B" } : Jvm.MethodName) jdk_52_method_2_code (1 : Nat) (Option.some (Jvm.ClassFile.FieldType.array Jvm.ClassFile.FieldType.byte)), Jvm.Cond.code ({ cls := "java/lang/StringUTF16", name := "newBytesLength", desc := "(I)I" } : Jvm.MethodName) jdk_52_method_3_code (1 : Nat) (Option.some Jvm.ClassFile.FieldType.int), Jvm.Cond.code ({ cls := "java/lang/StringUTF16", name := "putChar", desc := "([BII)V" } : Jvm.MethodName) jdk_52_method_4_code (3 : Nat) (Option.none : Option Jvm.ClassFile.FieldType), Jvm.Cond.code ({ cls := "java/lang/StringUTF16", name := "getChar", desc := "([BI)C" } : Jvm.MethodName) jdk_52_method_5_code (2 : Nat) (Option.some Jvm.ClassFile.FieldType.char), Jvm.Cond.code ({ cls := "java/lang/StringUTF16", name := "charAt", desc := "([BI)C" } : Jvm.MethodName) jdk_52_method_83_code (2 : Nat) (Option.some Jvm.ClassFile.FieldType.char), Jvm.Cond.code ({ cls := "java/lang/StringUTF16", name := "checkIndex", desc := "(I[B)V" } : Jvm.MethodName) jdk_52_method_91_code (2 : Nat) (Option.none : Option Jvm.ClassFile.FieldType), Jvm.Cond.code ({ cls := "java/lang/StringUTF16", name := "length", desc := "([B)I" } : Jvm.MethodName) jdk_52_method_6_code (1 : Nat) (Option.some Jvm.ClassFile.FieldType.int)]
set_option maxRecDepth 65536 in
theorem codes_eq : words1.filter isCode = codes1 := rfl
theorem w_codes : ∀ c ∈ words1.filter isCode, c.before args0 about1 = true := by
  rw [codes_eq]
  intro c hc
  simp only [codes1, List.mem_cons, List.not_mem_nil, or_false] at hc
  rcases hc with rfl | rfl | rfl | rfl | rfl | rfl | rfl | rfl | rfl | rfl | rfl | rfl | rfl | rfl | rfl | rfl | rfl | rfl | rfl | rfl | rfl | rfl | rfl | rfl | rfl | rfl
  · exact w_c0
  · exact w_c1
  · exact w_c2
  · exact w_c3
  · exact w_c4
  · exact w_c5
  · exact w_c6
  · exact w_c7
  · exact w_c8
  · exact w_c9
  · exact w_c10
  · exact w_c11
  · exact w_c12
  · exact w_c13
  · exact w_c14
  · exact w_c15
  · exact w_c16
  · exact w_c17
  · exact w_c18
  · exact w_c19
  · exact w_c20
  · exact w_c21
  · exact w_c22
  · exact w_c23
  · exact w_c24
  · exact w_c25
set_option maxRecDepth 65536 in
theorem w_t1 : (words1.take 24).all (fun c => isCode c || c.before args0 about1) = true := by decide +kernel
set_option maxRecDepth 65536 in
theorem w_t2 : ((words1.drop 24).take 24).all (fun c => isCode c || c.before args0 about1) = true := by decide +kernel
set_option maxRecDepth 65536 in
theorem w_t3 : (((words1.drop 24).drop 24).take 24).all (fun c => isCode c || c.before args0 about1) = true := by decide +kernel
set_option maxRecDepth 65536 in
theorem w_t4 : ((((words1.drop 24).drop 24).drop 24).take 24).all (fun c => isCode c || c.before args0 about1) = true := by decide +kernel
set_option maxRecDepth 65536 in
theorem w_t5 : ((((words1.drop 24).drop 24).drop 24).drop 24).all (fun c => isCode c || c.before args0 about1) = true := by decide +kernel
theorem w_tables : (allAtoms (Jvm.Cond.code x code maxLocals ret :: tables_1)).before args0 about1 = true := by
  rw [allAtoms_all]
  show words1.all (fun c => c.before args0 about1) = true
  refine all_split ?_ w_codes
  rw [← List.take_append_drop 24 words1, List.all_append, w_t1, ← List.take_append_drop 24 (words1.drop 24), List.all_append, w_t2, ← List.take_append_drop 24 ((words1.drop 24).drop 24), List.all_append, w_t3, ← List.take_append_drop 24 (((words1.drop 24).drop 24).drop 24), List.all_append, w_t4, w_t5]
  rfl
set_option maxRecDepth 65536 in
theorem w_rest : rest_1_c.before args0 about1 = true := by decide +kernel
set_option maxRecDepth 65536 in
theorem w_case : (Jvm.Cond.and given_1 narrow_1).before args0 about1 = true := by decide +kernel
set_option maxRecDepth 65536 in
theorem w_consts : constsHeld consts_1 about1 := Jvm.Lit.constsHeldB_iff.mp (by decide +kernel)
theorem w_applies : (headSpec (Jvm.Cond.code x code maxLocals ret :: tables_1) room_1).applies x e0.platform about1 = true :=
  (Spec.applies_iff w_frames).mpr ⟨w_running, w_runnable, w_alone, w_named, w_hears, w_ripe, w_room, w_tables⟩
theorem atStart : AtStart classFile x code maxLocals ret World_1 tables_1 room_1 Calls_1 rest_1 Pre_1 launch0 p0 e0 about1 theMethod args0 below0 :=
  ⟨lists_1, trivial, launch0.admits_env _ _ _, launch0.least_env, fairChoices_fair.cas, fairChoices_fair.clock, w_frames, w_args, w_heap, w_applies, ⟨w_consts, trivial⟩, w_rest, w_case⟩
end start1
theorem witness_1 : WitnessClaimed_1 := ⟨start1.p0, start1.e0, start1.about1, start1.theMethod, start1.args0, start1.below0, start1.atStart⟩
end Jvm.Pilot.@@N@@
