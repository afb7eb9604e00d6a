import JvmDerived
import JvmDerived.Pilot.@@N@@Statement
import JvmDerived.Pilot.@@N@@Code
set_option linter.unusedVariables false
set_option linter.unusedSimpArgs false
namespace Jvm.RoadKit
open Sem ClassFile Op Lib Jvm.Stand Jvm.Free Jvm.LawKit
section New
variable {p : Program} {l : Launch} {e : Env} {R : Room} {s : State} {m : MethodId} {args : Array Value} {below : List Frame} {meth : Method} {c : Code} {T : State} {locs : List Loc} {cells slots : Nat}
theorem retI (X : Stand p l e R s m args below meth c T locs cells slots) (hx : p.tables.exec = Jvm.exec) {pc : Nat} {Ls : Array Slot} {z : Int32} {rest : List Value} (hret : meth.sig.returnType = some .int) (hd : decode c.code pc = .ok (.ireturn, 1)) {fs : List Frame}
    (hl : ∀ (f : JFrame) (acts : List Action), f.method = m → f.locked = none → f.entered = [] → (doReturn e (T.setTop f) acts (some (.int z))).1 = T.setFrames fs) : Steps p.tables e below (T.setTop (mkF m pc Ls (.int z :: rest))) (T.setFrames fs) := by
  have hm' : T.vm.method? m = some meth := X.method'
  have hn : narrow .int (.int z) = .int z := rfl
  show Steps p.tables e below (T.setTop { method := m, pc := pc, locals := Ls, stack := _ :: rest, locked := none }) _
  jvm_step X.here [X.here.top, hx, hd, hm', hret, hn]
  first | (intro acts; rw [hl _ acts rfl rfl rfl]) | rw [hl _ _ rfl rfl rfl]
  exact Steps.refl _
end New
end Jvm.RoadKit
namespace Jvm.Pilot.@@N@@
open Jvm Jvm.ClassFile Sem Op Lib Jvm.Free Jvm.Stand Jvm.LawKit Jvm.RoadKit Bundle Jvm.Pilot.@@N@@.Jvm.D
theorem ef_rm_of_1 (m : MethodId) (x0 : Int32) : entryFrame m #[(.int x0)] 1 = mkF m 0 #[.val (.int x0)] [] := by first | (simp [entryFrame, mkF, argsToLocals, Value.category]; done) | rfl
theorem d_prog_6_method_2_0 : decode prog_6_method_2_code 0 = .ok (.iload_n 0, 1) := by decide +kernel
theorem d_prog_6_method_2_1 : decode prog_6_method_2_code 1 = .ok (.ifCond .eq 9, 3) := by decide +kernel
theorem d_prog_6_method_2_4 : decode prog_6_method_2_code 4 = .ok (.getstatic 17, 3) := by decide +kernel
theorem d_prog_6_method_2_7 : decode prog_6_method_2_code 7 = .ok (.goto 6, 3) := by decide +kernel
theorem d_prog_6_method_2_13 : decode prog_6_method_2_code 13 = .ok (.areturn, 1) := by decide +kernel
theorem pn_0 : plainName "com/example/iron_policy/ironpolicy/AttributeValue" = true := by first | (simp [plainName, overriddenIn]; done) | decide +kernel
theorem ef_rm_dt_1 (m : MethodId) (x0 : Addr) : entryFrame m #[(.ref x0)] 1 = mkF m 0 #[.val (.ref x0)] [] := by first | (simp [entryFrame, mkF, argsToLocals, Value.category]; done) | rfl
theorem d_prog_6_method_9_0 : decode prog_6_method_9_code 0 = .ok (.aload_n 0, 1) := by decide +kernel
theorem d_prog_6_method_9_1 : decode prog_6_method_9_code 1 = .ok (.getfield 7, 3) := by decide +kernel
theorem d_prog_6_method_9_4 : decode prog_6_method_9_code 4 = .ok (.areturn, 1) := by decide +kernel
theorem ef_rm_sin_1 (m : MethodId) (x0 : Addr) (x1 : Addr) (x2 : Addr) : entryFrame m #[(.ref x0), (.ref x1), (.ref x2)] 3 = mkF m 0 #[.val (.ref x0), .val (.ref x1), .val (.ref x2)] [] := by first | (simp [entryFrame, mkF, argsToLocals, Value.category]; done) | rfl
theorem d_prog_6_method_4_0 : decode prog_6_method_4_code 0 = .ok (.aload_n 0, 1) := by decide +kernel
theorem d_prog_6_method_4_1 : decode prog_6_method_4_code 1 = .ok (.getfield 7, 3) := by decide +kernel
theorem d_prog_6_method_4_4 : decode prog_6_method_4_code 4 = .ok (.aload_n 1, 1) := by decide +kernel
theorem d_prog_6_method_4_5 : decode prog_6_method_4_code 5 = .ok (.if_acmp .eq 28, 3) := by decide +kernel
theorem d_prog_6_method_4_33 : decode prog_6_method_4_code 33 = .ok (.aload_n 0, 1) := by decide +kernel
theorem d_prog_6_method_4_34 : decode prog_6_method_4_code 34 = .ok (.areturn, 1) := by decide +kernel
theorem ef_rm_val_1 (m : MethodId) (x0 : Addr) : entryFrame m #[(.ref x0)] 1 = mkF m 0 #[.val (.ref x0)] [] := by first | (simp [entryFrame, mkF, argsToLocals, Value.category]; done) | rfl
theorem d_prog_6_method_10_0 : decode prog_6_method_10_code 0 = .ok (.aload_n 0, 1) := by decide +kernel
theorem d_prog_6_method_10_1 : decode prog_6_method_10_code 1 = .ok (.getfield 13, 3) := by decide +kernel
theorem d_prog_6_method_10_4 : decode prog_6_method_10_code 4 = .ok (.areturn, 1) := by decide +kernel
theorem ef_rm_bv_1 (m : MethodId) (x0 : Addr) : entryFrame m #[(.ref x0)] 1 = mkF m 0 #[.val (.ref x0)] [] := by first | (simp [entryFrame, mkF, argsToLocals, Value.category]; done) | rfl
theorem d_jdk_2055_method_4_0 : decode jdk_2055_method_4_code 0 = .ok (.aload_n 0, 1) := by decide +kernel
theorem d_jdk_2055_method_4_1 : decode jdk_2055_method_4_code 1 = .ok (.getfield 7, 3) := by decide +kernel
theorem d_jdk_2055_method_4_4 : decode jdk_2055_method_4_code 4 = .ok (.ireturn, 1) := by decide +kernel
theorem pn_1 : plainName "java/lang/Boolean" = true := by first | (simp [plainName, overriddenIn]; done) | decide +kernel
theorem ef_rm_ist_1 (m : MethodId) (x0 : Addr) (x1 : Addr) : entryFrame m #[(.ref x0), (.ref x1)] 2 = mkF m 0 #[.val (.ref x0), .val (.ref x1)] [] := by first | (simp [entryFrame, mkF, argsToLocals, Value.category]; done) | rfl
theorem d_prog_19_method_3_0 : decode prog_19_method_3_code 0 = .ok (.aload_n 0, 1) := by decide +kernel
theorem d_prog_19_method_3_1 : decode prog_19_method_3_code 1 = .ok (.getstatic 1, 3) := by decide +kernel
theorem d_prog_19_method_3_4 : decode prog_19_method_3_code 4 = .ok (.aload_n 1, 1) := by decide +kernel
theorem pd_0 : parseMethodDescriptor "(Lcom/example/iron_policy/ironpolicy/DataType;Ljava/lang/String;)Lcom/example/iron_policy/ironpolicy/AttributeValue;" = some ⟨[(.object "com/example/iron_policy/ironpolicy/DataType"), (.object "java/lang/String")], some (.object "com/example/iron_policy/ironpolicy/AttributeValue")⟩ := by decide +kernel
theorem d_prog_19_method_3_5 : decode prog_19_method_3_code 5 = .ok (.invokeinterface 7 3, 5) := by decide +kernel
theorem pd_1 : parseMethodDescriptor "()Ljava/lang/Object;" = some ⟨[], some (.object "java/lang/Object")⟩ := by decide +kernel
theorem d_prog_19_method_3_10 : decode prog_19_method_3_code 10 = .ok (.invokevirtual 13, 3) := by decide +kernel
theorem d_prog_19_method_3_13 : decode prog_19_method_3_code 13 = .ok (.checkcast 19, 3) := by decide +kernel
theorem pd_2 : parseMethodDescriptor "()Z" = some ⟨[], some .boolean⟩ := by decide +kernel
theorem d_prog_19_method_3_16 : decode prog_19_method_3_code 16 = .ok (.invokevirtual 21, 3) := by decide +kernel
theorem d_prog_19_method_3_19 : decode prog_19_method_3_code 19 = .ok (.ireturn, 1) := by decide +kernel
theorem ef_rm_of_0 (m : MethodId) (x0 : Int32) : entryFrame m #[(.int x0)] 1 = mkF m 0 #[.val (.int x0)] [] := by first | (simp [entryFrame, mkF, argsToLocals, Value.category]; done) | rfl
theorem d_prog_6_method_2_10 : decode prog_6_method_2_code 10 = .ok (.getstatic 21, 3) := by decide +kernel
theorem ef_rm_dt_0 (m : MethodId) (x0 : Addr) : entryFrame m #[(.ref x0)] 1 = mkF m 0 #[.val (.ref x0)] [] := by first | (simp [entryFrame, mkF, argsToLocals, Value.category]; done) | rfl
theorem ef_rm_sin_0 (m : MethodId) (x0 : Addr) (x1 : Addr) (x2 : Addr) : entryFrame m #[(.ref x0), (.ref x1), (.ref x2)] 3 = mkF m 0 #[.val (.ref x0), .val (.ref x1), .val (.ref x2)] [] := by first | (simp [entryFrame, mkF, argsToLocals, Value.category]; done) | rfl
theorem ef_rm_val_0 (m : MethodId) (x0 : Addr) : entryFrame m #[(.ref x0)] 1 = mkF m 0 #[.val (.ref x0)] [] := by first | (simp [entryFrame, mkF, argsToLocals, Value.category]; done) | rfl
theorem ef_rm_bv_0 (m : MethodId) (x0 : Addr) : entryFrame m #[(.ref x0)] 1 = mkF m 0 #[.val (.ref x0)] [] := by first | (simp [entryFrame, mkF, argsToLocals, Value.category]; done) | rfl
theorem ef_rm_ist_0 (m : MethodId) (x0 : Addr) (x1 : Addr) : entryFrame m #[(.ref x0), (.ref x1)] 2 = mkF m 0 #[.val (.ref x0), .val (.ref x1)] [] := by first | (simp [entryFrame, mkF, argsToLocals, Value.category]; done) | rfl
theorem ef_rm0 (m : MethodId) (x0 : Int32) : entryFrame m #[(.int x0)] maxLocals = mkF m 0 #[.val (.int x0), .unset, .unset, .unset, .unset] [] := by first | (simp [entryFrame, mkF, argsToLocals, Value.category, maxLocals]; done) | rfl
theorem pd_3 : parseMethodDescriptor "(Z)Lcom/example/iron_policy/ironpolicy/AttributeValue;" = some ⟨[.boolean], some (.object "com/example/iron_policy/ironpolicy/AttributeValue")⟩ := by decide +kernel
theorem pd_4 : parseMethodDescriptor "()Lcom/example/iron_policy/ironpolicy/DataType;" = some ⟨[], some (.object "com/example/iron_policy/ironpolicy/DataType")⟩ := by decide +kernel
theorem pn_2 : plainName "com/example/iron_policy/ironpolicy/ExpressionValue" = true := by first | (simp [plainName, overriddenIn]; done) | decide +kernel
theorem pd_5 : parseMethodDescriptor "(Ljava/lang/String;)Z" = some ⟨[(.object "java/lang/String")], some .boolean⟩ := by decide +kernel
theorem pn_3 : plainName "com/example/iron_policy/ironpolicy/AttributeValueOfPinLaw" = true := by first | (simp [plainName, overriddenIn]; done) | decide +kernel
theorem own_fld_ref {args : Array Value} {s : State} {t u : Term} {O n d : String} {x y : Addr} (h : (Cond.eq (.field t O n d) u).value args s none s [] = some true) (ht : t.eval args s none [] s = some (.ref x)) (hu : u.eval args s none [] s = some (.ref y)) : Fld s s.heap x O n d (.ref y) := by
  obtain ⟨p, q, e1, e2, k1, k2⟩ := cmp_v (Or.inl h)
  cases hu.symm.trans e2
  have hp : p.isRef = true := (show (Value.ref y).isRef = true ∧ p.isRef = true from k2).2
  have hq := gotT (eq_R e1 hu hp rfl) h
  subst hq
  exact Fld.start ((fld_at ht).symm.trans e1)
theorem own_ne_ref {args : Array Value} {s : State} {t u : Term} {x y : Addr} (h : (Cond.not (.eq t u)).value args s none s [] = some true) (ht : t.eval args s none [] s = some (.ref x)) (hu : u.eval args s none [] s = some (.ref y)) : x ≠ y := by
  have e := eq_R ht hu rfl rfl
  intro q
  subst q
  have k : ((Cond.eq t u).value args s none s []).map (!·) = some true := h
  rw [e] at k
  simp at k
def SB (Z : State) (a_FALSE : Addr) (a_TRUE : Addr) (a_BOOLEAN : Addr) (v_a_FALSE : Addr) (v_a_TRUE : Addr) : Prop := (Exa Z Z.heap a_FALSE "com/example/iron_policy/ironpolicy/AttributeValue") ∧ (Sta Z Z.heap "com/example/iron_policy/ironpolicy/AttributeValue" "FALSE" "Lcom/example/iron_policy/ironpolicy/AttributeValue;" (.ref a_FALSE)) ∧ (Exa Z Z.heap a_TRUE "com/example/iron_policy/ironpolicy/AttributeValue") ∧ (Sta Z Z.heap "com/example/iron_policy/ironpolicy/AttributeValue" "TRUE" "Lcom/example/iron_policy/ironpolicy/AttributeValue;" (.ref a_TRUE)) ∧ (a_FALSE ≠ a_TRUE) ∧ (Exa Z Z.heap a_BOOLEAN "com/example/iron_policy/ironpolicy/DataType") ∧ (Sta Z Z.heap "com/example/iron_policy/ironpolicy/DataType" "BOOLEAN" "Lcom/example/iron_policy/ironpolicy/DataType;" (.ref a_BOOLEAN)) ∧ (Fld Z Z.heap a_FALSE "com/example/iron_policy/ironpolicy/AttributeValue" "dataType" "Lcom/example/iron_policy/ironpolicy/DataType;" (.ref a_BOOLEAN)) ∧ (Exa Z Z.heap v_a_FALSE "java/lang/Boolean") ∧ (Fld Z Z.heap a_FALSE "com/example/iron_policy/ironpolicy/AttributeValue" "value" "Ljava/lang/Object;" (.ref v_a_FALSE)) ∧ (Fld Z Z.heap v_a_FALSE "java/lang/Boolean" "value" "Z" (.int (0 : Int32))) ∧ (Fld Z Z.heap a_TRUE "com/example/iron_policy/ironpolicy/AttributeValue" "dataType" "Lcom/example/iron_policy/ironpolicy/DataType;" (.ref a_BOOLEAN)) ∧ (Exa Z Z.heap v_a_TRUE "java/lang/Boolean") ∧ (Fld Z Z.heap a_TRUE "com/example/iron_policy/ironpolicy/AttributeValue" "value" "Ljava/lang/Object;" (.ref v_a_TRUE)) ∧ (Fld Z Z.heap v_a_TRUE "java/lang/Boolean" "value" "Z" (.int (1 : Int32)))
theorem own_wS {Z : State} {a0 : Array Value} (hw : ∀ d ∈ tables_1, d.before a0 Z = true) : ∀ a ∈ Bundle.stringAtoms, a.before a0 Z = true := by
  intro a ha
  simp only [Bundle.stringAtoms, List.mem_cons, List.not_mem_nil, or_false] at ha
  rcases ha with rfl | rfl | rfl | rfl | rfl | rfl | rfl
  · exact (hw _ (List.mem_of_getElem? (i := 20) rfl))
  · exact (hw _ (List.mem_of_getElem? (i := 21) rfl))
  · exact (hw _ (List.mem_of_getElem? (i := 22) rfl))
  · exact (hw _ (List.mem_of_getElem? (i := 23) rfl))
  · exact (hw _ (List.mem_of_getElem? (i := 24) rfl))
  · exact (hw _ (List.mem_of_getElem? (i := 25) rfl))
  · exact (hw _ (List.mem_of_getElem? (i := 26) rfl))
theorem own_backI {l : Launch} {R : Room} {p : Program} {e : Env} {below : List Frame} {s Z : State} {sargs a0 : Array Value} {h : Heap} {y : MethodName} {bytes : ByteArray} {maxL : Nat} {ret : Option FieldType} {rm : Room} {len W : Nat} {as' : Array Value} {Q : Option Value → Heap → List Loc → Prop}
    (hx : p.tables.exec = Jvm.exec) (hbody : ∀ {s : State} {m : MethodId} {below : List Frame} {meth : Method} {c : Code} {s₁ : State}, Stand p l e rm s m as' below meth c s₁ [] 0 0 → c.code = bytes → c.maxLocals = maxL → meth.sig.returnType = ret → meth.locks = false → s.vm.findClass y.cls = some m.cls → Z.Warmed39 s.vm → s₁.heap = h →
      ∃ s₂ v L, Steps p.tables e below (s₁.setTop (entryFrame m as' maxL)) s₂ ∧ s₂.status = .running ∧ Ended s₂ below (.returned v) ∧ Q v s₂.heap L ∧ s.WarmedH s₂.vm ∧ s.sameButNew { s₂ with vm := s.vm } L rm.cells rm.slots)
    (hpl : plainFor y = true) (hZ : Z.Warmed39 s.vm) (wc : (Cond.code y bytes maxL ret).before a0 Z = true) (hf : rm.frames + 1 ≤ R.frames) (hl : W + (maxL + 11) + rm.locals ≤ R.locals) :
    Back l R p e below s sargs y len W (fun A a => a = as' ∧ A.U.heap = h ∧ A.cells + rm.cells ≤ R.cells ∧ A.slots + rm.slots ≤ R.slots)
      (fun A _ v B => ∃ L, Q v B.U.heap L ∧ B.locs = A.locs ++ L ∧ B.cells = A.cells + rm.cells ∧ B.slots = A.slots + rm.slots) := by
  intro m meth c A g ig mk a X hg hsize hdg hW hn hp
  obtain ⟨U, Ls, c0, s0⟩ := A
  dsimp only [Pt.U, Pt.locs, Pt.cells, Pt.slots] at X hn hp ⊢
  obtain ⟨rfl, hh, hc, hs⟩ := hp
  have hU : Z.Warmed39 U.vm := wtrans hZ X.warmed
  obtain ⟨methY, cY, hmY, hcY, hbY, hlY, hrY, hkY, -⟩ := Cond.code_spec hn (mv (args := a) hU wc)
  obtain ⟨Y, hin⟩ := X.into hg hsize hdg a (R' := rm) hmY hcY hkY (State.plainMethod.of_named hpl hn hmY) hf (by rw [hlY]; omega) hc hs
  have hfc : (U.calling g mk a).vm.findClass y.cls = some mk.cls := findClass_of_methodNamed hn
  obtain ⟨s₂, v, L, hst, -, hend, hq, hW2, hsame⟩ := hbody Y hbY hlY hrY hkY hfc hU hh
  obtain ⟨T', X', -, -, ht⟩ := X.outOf hg hdg hend hW2 hsame
  subst ht
  refine ⟨v, ⟨T', Ls ++ L, c0 + rm.cells, s0 + rm.slots⟩, X', ⟨L, hq, rfl, rfl, rfl⟩, ?_⟩
  rw [hin []]
  rw [hlY] at hst ⊢
  exact Steps.weaken (mid := [.java g]) hst
def QR (r : Addr) (h0 : Heap) (n0 : Nat) (v : Option Value) (h : Heap) (L : List Loc) : Prop := v = some (.ref r) ∧ Fr n0 L ∧ h = h0
def QI (r : Int32) (h0 : Heap) (n0 : Nat) (v : Option Value) (h : Heap) (L : List Loc) : Prop := v = some (.int r) ∧ Fr n0 L ∧ h = h0
def Q0 (n0 : Nat) (v : Option Value) (h : Heap) (L : List Loc) : Prop := v = some (.int 1) ∧ Fr n0 L
set_option maxRecDepth 65536 in
set_option maxHeartbeats 40000000 in
theorem rm_of_1 (l : Launch) (Z : State) (a0 : Array Value) (hw : ∀ d ∈ tables_1, d.before a0 Z = true) (ws : List Jvm.Cond) (a_FALSE : Addr) (a_TRUE : Addr) (a_BOOLEAN : Addr) (v_a_FALSE : Addr) (v_a_TRUE : Addr) (hS : SB Z a_FALSE a_TRUE a_BOOLEAN v_a_FALSE v_a_TRUE) (h0 : Heap) (n0 : Nat) (O0 : Old Z n0 h0) :
    MetFree l (⟨"com/example/iron_policy/ironpolicy/AttributeValue", "of", "(Z)Lcom/example/iron_policy/ironpolicy/AttributeValue;"⟩ : MethodName) (head1 (Jvm.Cond.code (⟨"com/example/iron_policy/ironpolicy/AttributeValue", "of", "(Z)Lcom/example/iron_policy/ironpolicy/AttributeValue;"⟩ : MethodName) prog_6_method_2_code 1 (some (.object "com/example/iron_policy/ironpolicy/AttributeValue")) :: ws) ({ frames := 0, cells := 0, slots := 0, locals := 0 } : Room)) (fun a U => a = #[(.int (1 : Int32))] ∧ Z.Warmed39 U.vm ∧ U.heap = h0) (fun _ _ _ _ _ => True) (fun _ U o U' => ∃ v L, o = .returned v ∧ QR a_TRUE h0 n0 v U'.heap L ∧ FrameEnd U o U' L ({ frames := 0, cells := 0, slots := 0, locals := 0 } : Room).cells ({ frames := 0, cells := 0, slots := 0, locals := 0 } : Room).slots) := by
  refine MetFree.of_bodySF (plainFor_of_name pn_0) hisR ?_
  intro p e s m args below meth c s₁ Bd hml0 hP hK
  obtain ⟨rfl, hZ, hh⟩ := hP
  have hx := Bd.exec
  have hby := Bd.bytes
  have hml : c.maxLocals = 1 := hml0
  have hown : s.vm.findClass "com/example/iron_policy/ironpolicy/AttributeValue" = some m.cls := findClass_of_methodNamed Bd.named
  have hnm := (name_of_methodNamed Bd.named Bd.method).1
  have X0 : Stand p l e ({ frames := 0, cells := 0, slots := 0, locals := 0 } : Room) s m #[(.int (1 : Int32))] below meth c s₁ [] 0 0 := Stand.of_body Bd
  have e0 : s₁.heap = h0 := by rw [← hh, Bd.state]; rfl
  have N0 := Fr.nil n0
  have pre0 : ∀ t, Steps p.tables e below (s₁.setTop (mkF m 0 #[.val (.int (1 : Int32))] [])) t → Steps p.tables e below (s₁.setTop (entryFrame m #[(.int (1 : Int32))] 1)) t := fun t k => castTop (ef_rm_of_1 m ((1 : Int32))) k
  obtain ⟨T1, X1, e1, st1⟩ := getS2 X0 hx hZ hown (host := "") (Or.inl (hw _ (List.mem_of_getElem? (i := 6) rfl))) Via.refl e0 (hS.2.2.2.1.ext O0.2) (g := (mkF m 4 #[.val (.int (1 : Int32))] [])) rfl (hb hby d_prog_6_method_2_4)
  obtain ⟨fs, hr, hrun, hended, hW, hsame⟩ := X1.leave (v := (some (.ref a_TRUE))) (fun h => by rw [Bd.returns] at h; cases h)
  refine ⟨_, _, pre0 _ ?_, hrun, hended, _, _, rfl, ?_, ⟨_, rfl⟩, hW, hsame.mono (by decide) (by decide)⟩
  · refine XS.iloadN X0.here hx rfl (hb hby d_prog_6_method_2_0) rfl ?_
    show Steps p.tables e below (s₁.setTop (mkF m 1 #[.val (.int (1 : Int32))] [(.int (1 : Int32))])) _
    refine XS.ifNo X0.here hx rfl (hb hby d_prog_6_method_2_1) rfl ((if0 _ _).trans (feq (by decide : ¬ ((1 : Int32) = (0 : Int32)))).1) ?_
    show Steps p.tables e below (s₁.setTop (mkF m 4 #[.val (.int (1 : Int32))] [])) _
    refine st1 _ ?_
    show Steps p.tables e below (T1.setTop (mkF m 7 #[.val (.int (1 : Int32))] [(.ref a_TRUE)])) _
    refine XS.goto X1.here hx rfl (pc0 := 7) (pc' := 13) rfl (hb hby d_prog_6_method_2_7) (by decide) (by decide) ?_
    show Steps p.tables e below (T1.setTop (mkF m 13 #[.val (.int (1 : Int32))] [(.ref a_TRUE)])) _
    exact retOut X1 hx Bd.returns rfl (Or.inr (Or.inr (Or.inr (Or.inr ⟨rfl, rfl, rfl⟩)))) (hb hby d_prog_6_method_2_13) hr
  · show QR a_TRUE h0 n0 _ T1.heap _
    rw [e1]
    exact ⟨rfl, N0, rfl⟩
set_option maxRecDepth 65536 in
set_option maxHeartbeats 40000000 in
theorem rm_dt_1 (l : Launch) (Z : State) (a0 : Array Value) (hw : ∀ d ∈ tables_1, d.before a0 Z = true) (ws : List Jvm.Cond) (a_FALSE : Addr) (a_TRUE : Addr) (a_BOOLEAN : Addr) (v_a_FALSE : Addr) (v_a_TRUE : Addr) (hS : SB Z a_FALSE a_TRUE a_BOOLEAN v_a_FALSE v_a_TRUE) (h0 : Heap) (n0 : Nat) (O0 : Old Z n0 h0) :
    MetFree l (⟨"com/example/iron_policy/ironpolicy/AttributeValue", "dataType", "()Lcom/example/iron_policy/ironpolicy/DataType;"⟩ : MethodName) (head1 (Jvm.Cond.code (⟨"com/example/iron_policy/ironpolicy/AttributeValue", "dataType", "()Lcom/example/iron_policy/ironpolicy/DataType;"⟩ : MethodName) prog_6_method_9_code 1 (some (.object "com/example/iron_policy/ironpolicy/DataType")) :: ws) ({ frames := 0, cells := 0, slots := 0, locals := 0 } : Room)) (fun a U => a = #[(.ref a_TRUE)] ∧ Z.Warmed39 U.vm ∧ U.heap = h0) (fun _ _ _ _ _ => True) (fun _ U o U' => ∃ v L, o = .returned v ∧ QR a_BOOLEAN h0 n0 v U'.heap L ∧ FrameEnd U o U' L ({ frames := 0, cells := 0, slots := 0, locals := 0 } : Room).cells ({ frames := 0, cells := 0, slots := 0, locals := 0 } : Room).slots) := by
  refine MetFree.of_bodySF (plainFor_of_name pn_0) hisR ?_
  intro p e s m args below meth c s₁ Bd hml0 hP hK
  obtain ⟨rfl, hZ, hh⟩ := hP
  have hx := Bd.exec
  have hby := Bd.bytes
  have hml : c.maxLocals = 1 := hml0
  have hown : s.vm.findClass "com/example/iron_policy/ironpolicy/AttributeValue" = some m.cls := findClass_of_methodNamed Bd.named
  have hnm := (name_of_methodNamed Bd.named Bd.method).1
  have X0 : Stand p l e ({ frames := 0, cells := 0, slots := 0, locals := 0 } : Room) s m #[(.ref a_TRUE)] below meth c s₁ [] 0 0 := Stand.of_body Bd
  have e0 : s₁.heap = h0 := by rw [← hh, Bd.state]; rfl
  have N0 := Fr.nil n0
  have pre0 : ∀ t, Steps p.tables e below (s₁.setTop (mkF m 0 #[.val (.ref a_TRUE)] [])) t → Steps p.tables e below (s₁.setTop (entryFrame m #[(.ref a_TRUE)] 1)) t := fun t k => castTop (ef_rm_dt_1 m (a_TRUE)) k
  obtain ⟨T1, X1, e1, st1⟩ := getF X0 hx hZ hown (host := "") (Or.inl (hw _ (List.mem_of_getElem? (i := 14) rfl))) Via.refl e0 (hS.2.2.2.2.2.2.2.2.2.2.2.1.ext O0.2) (g := (mkF m 1 #[.val (.ref a_TRUE)] [(.ref a_TRUE)])) rfl rfl (hb hby d_prog_6_method_9_1)
  obtain ⟨fs, hr, hrun, hended, hW, hsame⟩ := X1.leave (v := (some (.ref a_BOOLEAN))) (fun h => by rw [Bd.returns] at h; cases h)
  refine ⟨_, _, pre0 _ ?_, hrun, hended, _, _, rfl, ?_, ⟨_, rfl⟩, hW, hsame.mono (by decide) (by decide)⟩
  · refine XS.aloadN X0.here hx rfl (hb hby d_prog_6_method_9_0) rfl rfl ?_
    show Steps p.tables e below (s₁.setTop (mkF m 1 #[.val (.ref a_TRUE)] [(.ref a_TRUE)])) _
    refine st1 _ ?_
    show Steps p.tables e below (T1.setTop (mkF m 4 #[.val (.ref a_TRUE)] [(.ref a_BOOLEAN)])) _
    exact retOut X1 hx Bd.returns rfl (Or.inr (Or.inr (Or.inr (Or.inr ⟨rfl, rfl, rfl⟩)))) (hb hby d_prog_6_method_9_4) hr
  · show QR a_BOOLEAN h0 n0 _ T1.heap _
    rw [e1]
    exact ⟨rfl, N0, rfl⟩
set_option maxRecDepth 65536 in
set_option maxHeartbeats 40000000 in
theorem rm_sin_1 (l : Launch) (Z : State) (a0 : Array Value) (hw : ∀ d ∈ tables_1, d.before a0 Z = true) (ws : List Jvm.Cond) (a_FALSE : Addr) (a_TRUE : Addr) (a_BOOLEAN : Addr) (v_a_FALSE : Addr) (v_a_TRUE : Addr) (hS : SB Z a_FALSE a_TRUE a_BOOLEAN v_a_FALSE v_a_TRUE) (h0 : Heap) (n0 : Nat) (O0 : Old Z n0 h0) (sx : Addr) :
    MetFree l (⟨"com/example/iron_policy/ironpolicy/AttributeValue", "single", "(Lcom/example/iron_policy/ironpolicy/DataType;Ljava/lang/String;)Lcom/example/iron_policy/ironpolicy/AttributeValue;"⟩ : MethodName) (head1 (Jvm.Cond.code (⟨"com/example/iron_policy/ironpolicy/AttributeValue", "single", "(Lcom/example/iron_policy/ironpolicy/DataType;Ljava/lang/String;)Lcom/example/iron_policy/ironpolicy/AttributeValue;"⟩ : MethodName) prog_6_method_4_code 3 (some (.object "com/example/iron_policy/ironpolicy/AttributeValue")) :: ws) ({ frames := 0, cells := 0, slots := 0, locals := 0 } : Room)) (fun a U => a = #[(.ref a_TRUE), (.ref a_BOOLEAN), (.ref sx)] ∧ Z.Warmed39 U.vm ∧ U.heap = h0) (fun _ _ _ _ _ => True) (fun _ U o U' => ∃ v L, o = .returned v ∧ QR a_TRUE h0 n0 v U'.heap L ∧ FrameEnd U o U' L ({ frames := 0, cells := 0, slots := 0, locals := 0 } : Room).cells ({ frames := 0, cells := 0, slots := 0, locals := 0 } : Room).slots) := by
  refine MetFree.of_bodySF (plainFor_of_name pn_0) hisR ?_
  intro p e s m args below meth c s₁ Bd hml0 hP hK
  obtain ⟨rfl, hZ, hh⟩ := hP
  have hx := Bd.exec
  have hby := Bd.bytes
  have hml : c.maxLocals = 3 := hml0
  have hown : s.vm.findClass "com/example/iron_policy/ironpolicy/AttributeValue" = some m.cls := findClass_of_methodNamed Bd.named
  have hnm := (name_of_methodNamed Bd.named Bd.method).1
  have X0 : Stand p l e ({ frames := 0, cells := 0, slots := 0, locals := 0 } : Room) s m #[(.ref a_TRUE), (.ref a_BOOLEAN), (.ref sx)] below meth c s₁ [] 0 0 := Stand.of_body Bd
  have e0 : s₁.heap = h0 := by rw [← hh, Bd.state]; rfl
  have N0 := Fr.nil n0
  have pre0 : ∀ t, Steps p.tables e below (s₁.setTop (mkF m 0 #[.val (.ref a_TRUE), .val (.ref a_BOOLEAN), .val (.ref sx)] [])) t → Steps p.tables e below (s₁.setTop (entryFrame m #[(.ref a_TRUE), (.ref a_BOOLEAN), (.ref sx)] 3)) t := fun t k => castTop (ef_rm_sin_1 m (a_TRUE) (a_BOOLEAN) (sx)) k
  obtain ⟨T1, X1, e1, st1⟩ := getF X0 hx hZ hown (host := "") (Or.inl (hw _ (List.mem_of_getElem? (i := 14) rfl))) Via.refl e0 (hS.2.2.2.2.2.2.2.2.2.2.2.1.ext O0.2) (g := (mkF m 1 #[.val (.ref a_TRUE), .val (.ref a_BOOLEAN), .val (.ref sx)] [(.ref a_TRUE)])) rfl rfl (hb hby d_prog_6_method_4_1)
  obtain ⟨fs, hr, hrun, hended, hW, hsame⟩ := X1.leave (v := (some (.ref a_TRUE))) (fun h => by rw [Bd.returns] at h; cases h)
  refine ⟨_, _, pre0 _ ?_, hrun, hended, _, _, rfl, ?_, ⟨_, rfl⟩, hW, hsame.mono (by decide) (by decide)⟩
  · refine XS.aloadN X0.here hx rfl (hb hby d_prog_6_method_4_0) rfl rfl ?_
    show Steps p.tables e below (s₁.setTop (mkF m 1 #[.val (.ref a_TRUE), .val (.ref a_BOOLEAN), .val (.ref sx)] [(.ref a_TRUE)])) _
    refine st1 _ ?_
    show Steps p.tables e below (T1.setTop (mkF m 4 #[.val (.ref a_TRUE), .val (.ref a_BOOLEAN), .val (.ref sx)] [(.ref a_BOOLEAN)])) _
    refine XS.aloadN X1.here hx rfl (hb hby d_prog_6_method_4_4) rfl rfl ?_
    show Steps p.tables e below (T1.setTop (mkF m 5 #[.val (.ref a_TRUE), .val (.ref a_BOOLEAN), .val (.ref sx)] [(.ref a_BOOLEAN), (.ref a_BOOLEAN)])) _
    refine Jvm.RoadKit.acmp (g := (mkF m 5 #[.val (.ref a_TRUE), .val (.ref a_BOOLEAN), .val (.ref sx)] [(.ref a_BOOLEAN), (.ref a_BOOLEAN)])) X1 hx rfl rfl rfl (pc0 := 5) (pc' := 33) (same := true) rfl (hb hby d_prog_6_method_4_5) rfl (decide_eq_true rfl) (by decide) (by decide) ?_
    show Steps p.tables e below (T1.setTop (mkF m 33 #[.val (.ref a_TRUE), .val (.ref a_BOOLEAN), .val (.ref sx)] [])) _
    refine XS.aloadN X1.here hx rfl (hb hby d_prog_6_method_4_33) rfl rfl ?_
    show Steps p.tables e below (T1.setTop (mkF m 34 #[.val (.ref a_TRUE), .val (.ref a_BOOLEAN), .val (.ref sx)] [(.ref a_TRUE)])) _
    exact retOut X1 hx Bd.returns rfl (Or.inr (Or.inr (Or.inr (Or.inr ⟨rfl, rfl, rfl⟩)))) (hb hby d_prog_6_method_4_34) hr
  · show QR a_TRUE h0 n0 _ T1.heap _
    rw [e1]
    exact ⟨rfl, N0, rfl⟩
set_option maxRecDepth 65536 in
set_option maxHeartbeats 40000000 in
theorem rm_val_1 (l : Launch) (Z : State) (a0 : Array Value) (hw : ∀ d ∈ tables_1, d.before a0 Z = true) (ws : List Jvm.Cond) (a_FALSE : Addr) (a_TRUE : Addr) (a_BOOLEAN : Addr) (v_a_FALSE : Addr) (v_a_TRUE : Addr) (hS : SB Z a_FALSE a_TRUE a_BOOLEAN v_a_FALSE v_a_TRUE) (h0 : Heap) (n0 : Nat) (O0 : Old Z n0 h0) :
    MetFree l (⟨"com/example/iron_policy/ironpolicy/AttributeValue", "value", "()Ljava/lang/Object;"⟩ : MethodName) (head1 (Jvm.Cond.code (⟨"com/example/iron_policy/ironpolicy/AttributeValue", "value", "()Ljava/lang/Object;"⟩ : MethodName) prog_6_method_10_code 1 (some (.object "java/lang/Object")) :: ws) ({ frames := 0, cells := 0, slots := 0, locals := 0 } : Room)) (fun a U => a = #[(.ref a_TRUE)] ∧ Z.Warmed39 U.vm ∧ U.heap = h0) (fun _ _ _ _ _ => True) (fun _ U o U' => ∃ v L, o = .returned v ∧ QR v_a_TRUE h0 n0 v U'.heap L ∧ FrameEnd U o U' L ({ frames := 0, cells := 0, slots := 0, locals := 0 } : Room).cells ({ frames := 0, cells := 0, slots := 0, locals := 0 } : Room).slots) := by
  refine MetFree.of_bodySF (plainFor_of_name pn_0) hisR ?_
  intro p e s m args below meth c s₁ Bd hml0 hP hK
  obtain ⟨rfl, hZ, hh⟩ := hP
  have hx := Bd.exec
  have hby := Bd.bytes
  have hml : c.maxLocals = 1 := hml0
  have hown : s.vm.findClass "com/example/iron_policy/ironpolicy/AttributeValue" = some m.cls := findClass_of_methodNamed Bd.named
  have hnm := (name_of_methodNamed Bd.named Bd.method).1
  have X0 : Stand p l e ({ frames := 0, cells := 0, slots := 0, locals := 0 } : Room) s m #[(.ref a_TRUE)] below meth c s₁ [] 0 0 := Stand.of_body Bd
  have e0 : s₁.heap = h0 := by rw [← hh, Bd.state]; rfl
  have N0 := Fr.nil n0
  have pre0 : ∀ t, Steps p.tables e below (s₁.setTop (mkF m 0 #[.val (.ref a_TRUE)] [])) t → Steps p.tables e below (s₁.setTop (entryFrame m #[(.ref a_TRUE)] 1)) t := fun t k => castTop (ef_rm_val_1 m (a_TRUE)) k
  obtain ⟨T1, X1, e1, st1⟩ := getF X0 hx hZ hown (host := "") (Or.inl (hw _ (List.mem_of_getElem? (i := 50) rfl))) Via.refl e0 (hS.2.2.2.2.2.2.2.2.2.2.2.2.2.1.ext O0.2) (g := (mkF m 1 #[.val (.ref a_TRUE)] [(.ref a_TRUE)])) rfl rfl (hb hby d_prog_6_method_10_1)
  obtain ⟨fs, hr, hrun, hended, hW, hsame⟩ := X1.leave (v := (some (.ref v_a_TRUE))) (fun h => by rw [Bd.returns] at h; cases h)
  refine ⟨_, _, pre0 _ ?_, hrun, hended, _, _, rfl, ?_, ⟨_, rfl⟩, hW, hsame.mono (by decide) (by decide)⟩
  · refine XS.aloadN X0.here hx rfl (hb hby d_prog_6_method_10_0) rfl rfl ?_
    show Steps p.tables e below (s₁.setTop (mkF m 1 #[.val (.ref a_TRUE)] [(.ref a_TRUE)])) _
    refine st1 _ ?_
    show Steps p.tables e below (T1.setTop (mkF m 4 #[.val (.ref a_TRUE)] [(.ref v_a_TRUE)])) _
    exact retOut X1 hx Bd.returns rfl (Or.inr (Or.inr (Or.inr (Or.inr ⟨rfl, rfl, rfl⟩)))) (hb hby d_prog_6_method_10_4) hr
  · show QR v_a_TRUE h0 n0 _ T1.heap _
    rw [e1]
    exact ⟨rfl, N0, rfl⟩
set_option maxRecDepth 65536 in
set_option maxHeartbeats 40000000 in
theorem rm_bv_1 (l : Launch) (Z : State) (a0 : Array Value) (hw : ∀ d ∈ tables_1, d.before a0 Z = true) (ws : List Jvm.Cond) (a_FALSE : Addr) (a_TRUE : Addr) (a_BOOLEAN : Addr) (v_a_FALSE : Addr) (v_a_TRUE : Addr) (hS : SB Z a_FALSE a_TRUE a_BOOLEAN v_a_FALSE v_a_TRUE) (h0 : Heap) (n0 : Nat) (O0 : Old Z n0 h0) :
    MetFree l (⟨"java/lang/Boolean", "booleanValue", "()Z"⟩ : MethodName) (head1 (Jvm.Cond.code (⟨"java/lang/Boolean", "booleanValue", "()Z"⟩ : MethodName) jdk_2055_method_4_code 1 (some .boolean) :: ws) ({ frames := 0, cells := 0, slots := 0, locals := 0 } : Room)) (fun a U => a = #[(.ref v_a_TRUE)] ∧ Z.Warmed39 U.vm ∧ U.heap = h0) (fun _ _ _ _ _ => True) (fun _ U o U' => ∃ v L, o = .returned v ∧ QI (1 : Int32) h0 n0 v U'.heap L ∧ FrameEnd U o U' L ({ frames := 0, cells := 0, slots := 0, locals := 0 } : Room).cells ({ frames := 0, cells := 0, slots := 0, locals := 0 } : Room).slots) := by
  refine MetFree.of_bodySF (plainFor_of_name pn_1) hisR ?_
  intro p e s m args below meth c s₁ Bd hml0 hP hK
  obtain ⟨rfl, hZ, hh⟩ := hP
  have hx := Bd.exec
  have hby := Bd.bytes
  have hml : c.maxLocals = 1 := hml0
  have hown : s.vm.findClass "java/lang/Boolean" = some m.cls := findClass_of_methodNamed Bd.named
  have hnm := (name_of_methodNamed Bd.named Bd.method).1
  have X0 : Stand p l e ({ frames := 0, cells := 0, slots := 0, locals := 0 } : Room) s m #[(.ref v_a_TRUE)] below meth c s₁ [] 0 0 := Stand.of_body Bd
  have e0 : s₁.heap = h0 := by rw [← hh, Bd.state]; rfl
  have N0 := Fr.nil n0
  have pre0 : ∀ t, Steps p.tables e below (s₁.setTop (mkF m 0 #[.val (.ref v_a_TRUE)] [])) t → Steps p.tables e below (s₁.setTop (entryFrame m #[(.ref v_a_TRUE)] 1)) t := fun t k => castTop (ef_rm_bv_1 m (v_a_TRUE)) k
  obtain ⟨T1, X1, e1, st1⟩ := getF X0 hx hZ hown (host := "") (Or.inl (hw _ (List.mem_of_getElem? (i := 60) rfl))) Via.refl e0 (hS.2.2.2.2.2.2.2.2.2.2.2.2.2.2.ext O0.2) (g := (mkF m 1 #[.val (.ref v_a_TRUE)] [(.ref v_a_TRUE)])) rfl rfl (hb hby d_jdk_2055_method_4_1)
  obtain ⟨fs, hr, hrun, hended, hW, hsame⟩ := X1.leave (v := (some (.int (1 : Int32)))) (fun h => by rw [Bd.returns] at h; cases h)
  refine ⟨_, _, pre0 _ ?_, hrun, hended, _, _, rfl, ?_, ⟨_, rfl⟩, hW, hsame.mono (by decide) (by decide)⟩
  · refine XS.aloadN X0.here hx rfl (hb hby d_jdk_2055_method_4_0) rfl rfl ?_
    show Steps p.tables e below (s₁.setTop (mkF m 1 #[.val (.ref v_a_TRUE)] [(.ref v_a_TRUE)])) _
    refine st1 _ ?_
    show Steps p.tables e below (T1.setTop (mkF m 4 #[.val (.ref v_a_TRUE)] [(.int (1 : Int32))])) _
    exact retN X1 hx (t := .boolean) Bd.returns (by simp) (hb hby d_jdk_2055_method_4_4) hr
  · show QI (1 : Int32) h0 n0 _ T1.heap _
    rw [e1]
    exact ⟨rfl, N0, rfl⟩
set_option maxRecDepth 65536 in
set_option maxHeartbeats 40000000 in
theorem rm_ist_1 (l : Launch) (Z : State) (a0 : Array Value) (hw : ∀ d ∈ tables_1, d.before a0 Z = true) (a_FALSE : Addr) (a_TRUE : Addr) (a_BOOLEAN : Addr) (v_a_FALSE : Addr) (v_a_TRUE : Addr) (hS : SB Z a_FALSE a_TRUE a_BOOLEAN v_a_FALSE v_a_TRUE) (h0 : Heap) (n0 : Nat) (O0 : Old Z n0 h0) (sx : Addr) {p : Program} {e : Env} {s : State} {m : MethodId} {below : List Frame} {meth : Method} {c : Code} {s₁ : State} (X0 : Stand p l e ({ frames := 1, cells := 0, slots := 0, locals := 14 } : Room) s m #[(.ref a_TRUE), (.ref sx)] below meth c s₁ [] 0 0) (hx : p.tables.exec = Jvm.exec) (hby : c.code = prog_19_method_3_code) (hml : c.maxLocals = 2) (hret : meth.sig.returnType = (some .boolean)) (hlk : meth.locks = false) (hown : s.vm.findClass "com/example/iron_policy/ironpolicy/ExpressionValue" = some m.cls) (hZ : Z.Warmed39 s.vm) (e0 : s₁.heap = h0) :
    ∃ s₂ v L, Steps p.tables e below (s₁.setTop (entryFrame m #[(.ref a_TRUE), (.ref sx)] 2)) s₂ ∧ s₂.status = .running ∧ Ended s₂ below (.returned v) ∧ QI (1 : Int32) h0 n0 v s₂.heap L ∧ s.WarmedH s₂.vm ∧ s.sameButNew { s₂ with vm := s.vm } L ({ frames := 1, cells := 0, slots := 0, locals := 14 } : Room).cells ({ frames := 1, cells := 0, slots := 0, locals := 14 } : Room).slots := by
  have N0 := Fr.nil n0
  have pre0 : ∀ t, Steps p.tables e below (s₁.setTop (mkF m 0 #[.val (.ref a_TRUE), .val (.ref sx)] [])) t → Steps p.tables e below (s₁.setTop (entryFrame m #[(.ref a_TRUE), (.ref sx)] 2)) t := fun t k => castTop (ef_rm_ist_1 m (a_TRUE) (sx)) k
  obtain ⟨T1, X1, e1, st1⟩ := getS2 X0 hx hZ hown (host := "") (Or.inl (hw _ (List.mem_of_getElem? (i := 36) rfl))) Via.refl e0 (hS.2.2.2.2.2.2.1.ext O0.2) (g := (mkF m 1 #[.val (.ref a_TRUE), .val (.ref sx)] [(.ref a_TRUE)])) rfl (hb hby d_prog_19_method_3_1)
  obtain ⟨cq2, kq2, q2a, q2b, q2c⟩ := isOf hZ e1 ((hS.2.2.1.ext O0.2))
  obtain ⟨_, _, ⟨T2, L2, k2, n2⟩, -, X2, ⟨Lc2, hQ2, l2, y2, z2⟩, st2⟩ := X1.interfaceBack hx (xi := (⟨"com/example/iron_policy/ironpolicy/ExpressionValue", "single", "(Lcom/example/iron_policy/ironpolicy/DataType;Ljava/lang/String;)Lcom/example/iron_policy/ironpolicy/AttributeValue;"⟩ : MethodName)) (y := (⟨"com/example/iron_policy/ironpolicy/AttributeValue", "single", "(Lcom/example/iron_policy/ironpolicy/DataType;Ljava/lang/String;)Lcom/example/iron_policy/ironpolicy/AttributeValue;"⟩ : MethodName)) hown (mvT hZ (hw _ (List.mem_of_getElem? (i := 37) rfl))) (mvT hZ (hw _ (List.mem_of_getElem? (i := 38) rfl))) (mvT hZ (hw _ (List.mem_of_getElem? (i := 39) rfl))) (mvT hZ (hw _ (List.mem_of_getElem? (i := 40) rfl))) (mvT hZ (hw _ (List.mem_of_getElem? (i := 41) rfl))) (mvT hZ (hw _ (List.mem_of_getElem? (i := 42) rfl))) (mvT hZ (hw _ (List.mem_of_getElem? (i := 43) rfl))) (mvT hZ (hw _ (List.mem_of_getElem? (i := 34) rfl))) (by decide) (backOf (W := 0) (rm_sin_1 l Z a0 hw [] a_FALSE a_TRUE a_BOOLEAN v_a_FALSE v_a_TRUE hS h0 n0 O0 sx) hZ (hw _ (List.mem_of_getElem? (i := 44) rfl)) (hw _ (List.mem_of_getElem? (i := 2) rfl)) (by decide) (by decide)) q2a q2b q2c (g := (mkF m 5 #[.val (.ref a_TRUE), .val (.ref sx)] [(.ref sx), (.ref a_BOOLEAN), (.ref a_TRUE)])) rfl (by rw [hml]; rfl) (Steps.refl _) (argsL := [(.ref a_BOOLEAN), (.ref sx)]) (rest := []) (lenOf pd_0 rfl) rfl (by show 2 * 0 + _ ≤ _; exact Nat.le_of_eq rfl) (hb hby d_prog_19_method_3_5) (fun _ _ => ⟨rfl, e1, (by decide : 0 + 0 ≤ _), (by decide : 0 + 0 ≤ _)⟩)
  dsimp only [Pt.U, Pt.locs, Pt.cells, Pt.slots] at X2 l2 y2 z2 st2 hQ2
  subst l2 y2 z2
  obtain ⟨rfl, N2q, e2⟩ := hQ2
  have N2 := Fr.app N0 N2q
  obtain ⟨cq3, kq3, q3a, q3b, q3c⟩ := isOf hZ e2 ((hS.2.2.1.ext O0.2))
  obtain ⟨_, _, ⟨T3, L3, k3, n3⟩, -, X3, ⟨Lc3, hQ3, l3, y3, z3⟩, st3⟩ := X2.virtualBack hx (y := (⟨"com/example/iron_policy/ironpolicy/AttributeValue", "value", "()Ljava/lang/Object;"⟩ : MethodName)) (z := (⟨"com/example/iron_policy/ironpolicy/AttributeValue", "value", "()Ljava/lang/Object;"⟩ : MethodName)) hown (mvT hZ (hw _ (List.mem_of_getElem? (i := 45) rfl))) (mvT hZ (hw _ (List.mem_of_getElem? (i := 46) rfl))) (notFace_of_selects (args := #[]) (mvT hZ (hw _ (List.mem_of_getElem? (i := 48) rfl)))) (mvT hZ (hw _ (List.mem_of_getElem? (i := 48) rfl))) (mvT hZ (hw _ (List.mem_of_getElem? (i := 47) rfl))) (by decide) (backOf (W := 0) (rm_val_1 l Z a0 hw [] a_FALSE a_TRUE a_BOOLEAN v_a_FALSE v_a_TRUE hS h0 n0 O0) hZ (hw _ (List.mem_of_getElem? (i := 49) rfl)) (hw _ (List.mem_of_getElem? (i := 2) rfl)) (by decide) (by decide)) q3a q3c (g := (mkF m 10 #[.val (.ref a_TRUE), .val (.ref sx)] [(.ref a_TRUE)])) rfl (by rw [hml]; rfl) (Steps.refl _) (argsL := []) (rest := []) (lenOf pd_1 rfl) rfl (by show 2 * 0 + _ ≤ _; exact Nat.le_of_eq rfl) (hb hby d_prog_19_method_3_10) (fun _ _ => ⟨rfl, e2, (by decide : 0 + 0 ≤ _), (by decide : 0 + 0 ≤ _)⟩)
  dsimp only [Pt.U, Pt.locs, Pt.cells, Pt.slots] at X3 l3 y3 z3 st3 hQ3
  subst l3 y3 z3
  obtain ⟨rfl, N3q, e3⟩ := hQ3
  have N3 := Fr.app N2 N3q
  obtain ⟨T4, X4, e4, st4⟩ := castY X3 hx hZ hown (hw _ (List.mem_of_getElem? (i := 52) rfl)) e3 (Ins.self (hS.2.2.2.2.2.2.2.2.2.2.2.2.1.ext O0.2)) (g := (mkF m 13 #[.val (.ref a_TRUE), .val (.ref sx)] [(.ref v_a_TRUE)])) rfl rfl (hb hby d_prog_19_method_3_13)
  obtain ⟨cq5, kq5, q5a, q5b, q5c⟩ := isOf hZ e4 ((hS.2.2.2.2.2.2.2.2.2.2.2.2.1.ext O0.2))
  obtain ⟨_, _, ⟨T5, L5, k5, n5⟩, -, X5, ⟨Lc5, hQ5, l5, y5, z5⟩, st5⟩ := X4.virtualBack hx (y := (⟨"java/lang/Boolean", "booleanValue", "()Z"⟩ : MethodName)) (z := (⟨"java/lang/Boolean", "booleanValue", "()Z"⟩ : MethodName)) hown (mvT hZ (hw _ (List.mem_of_getElem? (i := 54) rfl))) (mvT hZ (hw _ (List.mem_of_getElem? (i := 55) rfl))) (notFace_of_selects (args := #[]) (mvT hZ (hw _ (List.mem_of_getElem? (i := 57) rfl)))) (mvT hZ (hw _ (List.mem_of_getElem? (i := 57) rfl))) (mvT hZ (hw _ (List.mem_of_getElem? (i := 56) rfl))) (by decide) (backOf (W := 0) (rm_bv_1 l Z a0 hw [] a_FALSE a_TRUE a_BOOLEAN v_a_FALSE v_a_TRUE hS h0 n0 O0) hZ (hw _ (List.mem_of_getElem? (i := 59) rfl)) (hw _ (List.mem_of_getElem? (i := 58) rfl)) (by decide) (by decide)) q5a q5c (g := (mkF m 16 #[.val (.ref a_TRUE), .val (.ref sx)] [(.ref v_a_TRUE)])) rfl (by rw [hml]; rfl) (Steps.refl _) (argsL := []) (rest := []) (lenOf pd_2 rfl) rfl (by show 2 * 0 + _ ≤ _; exact Nat.le_of_eq rfl) (hb hby d_prog_19_method_3_16) (fun _ _ => ⟨rfl, e4, (by decide : 0 + 0 ≤ _), (by decide : 0 + 0 ≤ _)⟩)
  dsimp only [Pt.U, Pt.locs, Pt.cells, Pt.slots] at X5 l5 y5 z5 st5 hQ5
  subst l5 y5 z5
  obtain ⟨rfl, N5q, e5⟩ := hQ5
  have N5 := Fr.app N3 N5q
  obtain ⟨fs, hr, hrun, hended, hW, hsame⟩ := X5.leave (v := (some (.int (1 : Int32)))) (fun h => by rw [hret] at h; cases h)
  refine ⟨_, _, _, pre0 _ ?_, hrun, hended, ?_, hW, hsame.mono (by decide) (by decide)⟩
  · refine XS.aloadN X0.here hx rfl (hb hby d_prog_19_method_3_0) rfl rfl ?_
    show Steps p.tables e below (s₁.setTop (mkF m 1 #[.val (.ref a_TRUE), .val (.ref sx)] [(.ref a_TRUE)])) _
    refine st1 _ ?_
    show Steps p.tables e below (T1.setTop (mkF m 4 #[.val (.ref a_TRUE), .val (.ref sx)] [(.ref a_BOOLEAN), (.ref a_TRUE)])) _
    refine XS.aloadN X1.here hx rfl (hb hby d_prog_19_method_3_4) rfl rfl ?_
    show Steps p.tables e below (T1.setTop (mkF m 5 #[.val (.ref a_TRUE), .val (.ref sx)] [(.ref sx), (.ref a_BOOLEAN), (.ref a_TRUE)])) _
    refine st2.trans ?_
    show Steps p.tables e below (T2.setTop (mkF m 10 #[.val (.ref a_TRUE), .val (.ref sx)] [(.ref a_TRUE)])) _
    refine st3.trans ?_
    show Steps p.tables e below (T3.setTop (mkF m 13 #[.val (.ref a_TRUE), .val (.ref sx)] [(.ref v_a_TRUE)])) _
    refine st4 _ ?_
    show Steps p.tables e below (T4.setTop (mkF m 16 #[.val (.ref a_TRUE), .val (.ref sx)] [(.ref v_a_TRUE)])) _
    refine st5.trans ?_
    show Steps p.tables e below (T5.setTop (mkF m 19 #[.val (.ref a_TRUE), .val (.ref sx)] [(.int (1 : Int32))])) _
    exact retN X5 hx (t := .boolean) hret (by simp) (hb hby d_prog_19_method_3_19) hr
  · show QI (1 : Int32) h0 n0 _ T5.heap _
    rw [e5]
    exact ⟨rfl, N5, rfl⟩
set_option maxRecDepth 65536 in
set_option maxHeartbeats 40000000 in
theorem rm_of_0 (l : Launch) (Z : State) (a0 : Array Value) (hw : ∀ d ∈ tables_1, d.before a0 Z = true) (ws : List Jvm.Cond) (a_FALSE : Addr) (a_TRUE : Addr) (a_BOOLEAN : Addr) (v_a_FALSE : Addr) (v_a_TRUE : Addr) (hS : SB Z a_FALSE a_TRUE a_BOOLEAN v_a_FALSE v_a_TRUE) (h0 : Heap) (n0 : Nat) (O0 : Old Z n0 h0) :
    MetFree l (⟨"com/example/iron_policy/ironpolicy/AttributeValue", "of", "(Z)Lcom/example/iron_policy/ironpolicy/AttributeValue;"⟩ : MethodName) (head1 (Jvm.Cond.code (⟨"com/example/iron_policy/ironpolicy/AttributeValue", "of", "(Z)Lcom/example/iron_policy/ironpolicy/AttributeValue;"⟩ : MethodName) prog_6_method_2_code 1 (some (.object "com/example/iron_policy/ironpolicy/AttributeValue")) :: ws) ({ frames := 0, cells := 0, slots := 0, locals := 0 } : Room)) (fun a U => a = #[(.int (0 : Int32))] ∧ Z.Warmed39 U.vm ∧ U.heap = h0) (fun _ _ _ _ _ => True) (fun _ U o U' => ∃ v L, o = .returned v ∧ QR a_FALSE h0 n0 v U'.heap L ∧ FrameEnd U o U' L ({ frames := 0, cells := 0, slots := 0, locals := 0 } : Room).cells ({ frames := 0, cells := 0, slots := 0, locals := 0 } : Room).slots) := by
  refine MetFree.of_bodySF (plainFor_of_name pn_0) hisR ?_
  intro p e s m args below meth c s₁ Bd hml0 hP hK
  obtain ⟨rfl, hZ, hh⟩ := hP
  have hx := Bd.exec
  have hby := Bd.bytes
  have hml : c.maxLocals = 1 := hml0
  have hown : s.vm.findClass "com/example/iron_policy/ironpolicy/AttributeValue" = some m.cls := findClass_of_methodNamed Bd.named
  have hnm := (name_of_methodNamed Bd.named Bd.method).1
  have X0 : Stand p l e ({ frames := 0, cells := 0, slots := 0, locals := 0 } : Room) s m #[(.int (0 : Int32))] below meth c s₁ [] 0 0 := Stand.of_body Bd
  have e0 : s₁.heap = h0 := by rw [← hh, Bd.state]; rfl
  have N0 := Fr.nil n0
  have pre0 : ∀ t, Steps p.tables e below (s₁.setTop (mkF m 0 #[.val (.int (0 : Int32))] [])) t → Steps p.tables e below (s₁.setTop (entryFrame m #[(.int (0 : Int32))] 1)) t := fun t k => castTop (ef_rm_of_0 m ((0 : Int32))) k
  obtain ⟨T1, X1, e1, st1⟩ := getS2 X0 hx hZ hown (host := "") (Or.inl (hw _ (List.mem_of_getElem? (i := 4) rfl))) Via.refl e0 (hS.2.1.ext O0.2) (g := (mkF m 10 #[.val (.int (0 : Int32))] [])) rfl (hb hby d_prog_6_method_2_10)
  obtain ⟨fs, hr, hrun, hended, hW, hsame⟩ := X1.leave (v := (some (.ref a_FALSE))) (fun h => by rw [Bd.returns] at h; cases h)
  refine ⟨_, _, pre0 _ ?_, hrun, hended, _, _, rfl, ?_, ⟨_, rfl⟩, hW, hsame.mono (by decide) (by decide)⟩
  · refine XS.iloadN X0.here hx rfl (hb hby d_prog_6_method_2_0) rfl ?_
    show Steps p.tables e below (s₁.setTop (mkF m 1 #[.val (.int (0 : Int32))] [(.int (0 : Int32))])) _
    refine XS.ifYes X0.here hx rfl (pc0 := 1) (pc' := 10) rfl (hb hby d_prog_6_method_2_1) rfl ((if0 _ _).trans (teq (by decide : (0 : Int32) = (0 : Int32))).1) (by decide) (by decide) ?_
    show Steps p.tables e below (s₁.setTop (mkF m 10 #[.val (.int (0 : Int32))] [])) _
    refine st1 _ ?_
    show Steps p.tables e below (T1.setTop (mkF m 13 #[.val (.int (0 : Int32))] [(.ref a_FALSE)])) _
    exact retOut X1 hx Bd.returns rfl (Or.inr (Or.inr (Or.inr (Or.inr ⟨rfl, rfl, rfl⟩)))) (hb hby d_prog_6_method_2_13) hr
  · show QR a_FALSE h0 n0 _ T1.heap _
    rw [e1]
    exact ⟨rfl, N0, rfl⟩
set_option maxRecDepth 65536 in
set_option maxHeartbeats 40000000 in
theorem rm_dt_0 (l : Launch) (Z : State) (a0 : Array Value) (hw : ∀ d ∈ tables_1, d.before a0 Z = true) (ws : List Jvm.Cond) (a_FALSE : Addr) (a_TRUE : Addr) (a_BOOLEAN : Addr) (v_a_FALSE : Addr) (v_a_TRUE : Addr) (hS : SB Z a_FALSE a_TRUE a_BOOLEAN v_a_FALSE v_a_TRUE) (h0 : Heap) (n0 : Nat) (O0 : Old Z n0 h0) :
    MetFree l (⟨"com/example/iron_policy/ironpolicy/AttributeValue", "dataType", "()Lcom/example/iron_policy/ironpolicy/DataType;"⟩ : MethodName) (head1 (Jvm.Cond.code (⟨"com/example/iron_policy/ironpolicy/AttributeValue", "dataType", "()Lcom/example/iron_policy/ironpolicy/DataType;"⟩ : MethodName) prog_6_method_9_code 1 (some (.object "com/example/iron_policy/ironpolicy/DataType")) :: ws) ({ frames := 0, cells := 0, slots := 0, locals := 0 } : Room)) (fun a U => a = #[(.ref a_FALSE)] ∧ Z.Warmed39 U.vm ∧ U.heap = h0) (fun _ _ _ _ _ => True) (fun _ U o U' => ∃ v L, o = .returned v ∧ QR a_BOOLEAN h0 n0 v U'.heap L ∧ FrameEnd U o U' L ({ frames := 0, cells := 0, slots := 0, locals := 0 } : Room).cells ({ frames := 0, cells := 0, slots := 0, locals := 0 } : Room).slots) := by
  refine MetFree.of_bodySF (plainFor_of_name pn_0) hisR ?_
  intro p e s m args below meth c s₁ Bd hml0 hP hK
  obtain ⟨rfl, hZ, hh⟩ := hP
  have hx := Bd.exec
  have hby := Bd.bytes
  have hml : c.maxLocals = 1 := hml0
  have hown : s.vm.findClass "com/example/iron_policy/ironpolicy/AttributeValue" = some m.cls := findClass_of_methodNamed Bd.named
  have hnm := (name_of_methodNamed Bd.named Bd.method).1
  have X0 : Stand p l e ({ frames := 0, cells := 0, slots := 0, locals := 0 } : Room) s m #[(.ref a_FALSE)] below meth c s₁ [] 0 0 := Stand.of_body Bd
  have e0 : s₁.heap = h0 := by rw [← hh, Bd.state]; rfl
  have N0 := Fr.nil n0
  have pre0 : ∀ t, Steps p.tables e below (s₁.setTop (mkF m 0 #[.val (.ref a_FALSE)] [])) t → Steps p.tables e below (s₁.setTop (entryFrame m #[(.ref a_FALSE)] 1)) t := fun t k => castTop (ef_rm_dt_0 m (a_FALSE)) k
  obtain ⟨T1, X1, e1, st1⟩ := getF X0 hx hZ hown (host := "") (Or.inl (hw _ (List.mem_of_getElem? (i := 14) rfl))) Via.refl e0 (hS.2.2.2.2.2.2.2.1.ext O0.2) (g := (mkF m 1 #[.val (.ref a_FALSE)] [(.ref a_FALSE)])) rfl rfl (hb hby d_prog_6_method_9_1)
  obtain ⟨fs, hr, hrun, hended, hW, hsame⟩ := X1.leave (v := (some (.ref a_BOOLEAN))) (fun h => by rw [Bd.returns] at h; cases h)
  refine ⟨_, _, pre0 _ ?_, hrun, hended, _, _, rfl, ?_, ⟨_, rfl⟩, hW, hsame.mono (by decide) (by decide)⟩
  · refine XS.aloadN X0.here hx rfl (hb hby d_prog_6_method_9_0) rfl rfl ?_
    show Steps p.tables e below (s₁.setTop (mkF m 1 #[.val (.ref a_FALSE)] [(.ref a_FALSE)])) _
    refine st1 _ ?_
    show Steps p.tables e below (T1.setTop (mkF m 4 #[.val (.ref a_FALSE)] [(.ref a_BOOLEAN)])) _
    exact retOut X1 hx Bd.returns rfl (Or.inr (Or.inr (Or.inr (Or.inr ⟨rfl, rfl, rfl⟩)))) (hb hby d_prog_6_method_9_4) hr
  · show QR a_BOOLEAN h0 n0 _ T1.heap _
    rw [e1]
    exact ⟨rfl, N0, rfl⟩
set_option maxRecDepth 65536 in
set_option maxHeartbeats 40000000 in
theorem rm_sin_0 (l : Launch) (Z : State) (a0 : Array Value) (hw : ∀ d ∈ tables_1, d.before a0 Z = true) (ws : List Jvm.Cond) (a_FALSE : Addr) (a_TRUE : Addr) (a_BOOLEAN : Addr) (v_a_FALSE : Addr) (v_a_TRUE : Addr) (hS : SB Z a_FALSE a_TRUE a_BOOLEAN v_a_FALSE v_a_TRUE) (h0 : Heap) (n0 : Nat) (O0 : Old Z n0 h0) (sx : Addr) :
    MetFree l (⟨"com/example/iron_policy/ironpolicy/AttributeValue", "single", "(Lcom/example/iron_policy/ironpolicy/DataType;Ljava/lang/String;)Lcom/example/iron_policy/ironpolicy/AttributeValue;"⟩ : MethodName) (head1 (Jvm.Cond.code (⟨"com/example/iron_policy/ironpolicy/AttributeValue", "single", "(Lcom/example/iron_policy/ironpolicy/DataType;Ljava/lang/String;)Lcom/example/iron_policy/ironpolicy/AttributeValue;"⟩ : MethodName) prog_6_method_4_code 3 (some (.object "com/example/iron_policy/ironpolicy/AttributeValue")) :: ws) ({ frames := 0, cells := 0, slots := 0, locals := 0 } : Room)) (fun a U => a = #[(.ref a_FALSE), (.ref a_BOOLEAN), (.ref sx)] ∧ Z.Warmed39 U.vm ∧ U.heap = h0) (fun _ _ _ _ _ => True) (fun _ U o U' => ∃ v L, o = .returned v ∧ QR a_FALSE h0 n0 v U'.heap L ∧ FrameEnd U o U' L ({ frames := 0, cells := 0, slots := 0, locals := 0 } : Room).cells ({ frames := 0, cells := 0, slots := 0, locals := 0 } : Room).slots) := by
  refine MetFree.of_bodySF (plainFor_of_name pn_0) hisR ?_
  intro p e s m args below meth c s₁ Bd hml0 hP hK
  obtain ⟨rfl, hZ, hh⟩ := hP
  have hx := Bd.exec
  have hby := Bd.bytes
  have hml : c.maxLocals = 3 := hml0
  have hown : s.vm.findClass "com/example/iron_policy/ironpolicy/AttributeValue" = some m.cls := findClass_of_methodNamed Bd.named
  have hnm := (name_of_methodNamed Bd.named Bd.method).1
  have X0 : Stand p l e ({ frames := 0, cells := 0, slots := 0, locals := 0 } : Room) s m #[(.ref a_FALSE), (.ref a_BOOLEAN), (.ref sx)] below meth c s₁ [] 0 0 := Stand.of_body Bd
  have e0 : s₁.heap = h0 := by rw [← hh, Bd.state]; rfl
  have N0 := Fr.nil n0
  have pre0 : ∀ t, Steps p.tables e below (s₁.setTop (mkF m 0 #[.val (.ref a_FALSE), .val (.ref a_BOOLEAN), .val (.ref sx)] [])) t → Steps p.tables e below (s₁.setTop (entryFrame m #[(.ref a_FALSE), (.ref a_BOOLEAN), (.ref sx)] 3)) t := fun t k => castTop (ef_rm_sin_0 m (a_FALSE) (a_BOOLEAN) (sx)) k
  obtain ⟨T1, X1, e1, st1⟩ := getF X0 hx hZ hown (host := "") (Or.inl (hw _ (List.mem_of_getElem? (i := 14) rfl))) Via.refl e0 (hS.2.2.2.2.2.2.2.1.ext O0.2) (g := (mkF m 1 #[.val (.ref a_FALSE), .val (.ref a_BOOLEAN), .val (.ref sx)] [(.ref a_FALSE)])) rfl rfl (hb hby d_prog_6_method_4_1)
  obtain ⟨fs, hr, hrun, hended, hW, hsame⟩ := X1.leave (v := (some (.ref a_FALSE))) (fun h => by rw [Bd.returns] at h; cases h)
  refine ⟨_, _, pre0 _ ?_, hrun, hended, _, _, rfl, ?_, ⟨_, rfl⟩, hW, hsame.mono (by decide) (by decide)⟩
  · refine XS.aloadN X0.here hx rfl (hb hby d_prog_6_method_4_0) rfl rfl ?_
    show Steps p.tables e below (s₁.setTop (mkF m 1 #[.val (.ref a_FALSE), .val (.ref a_BOOLEAN), .val (.ref sx)] [(.ref a_FALSE)])) _
    refine st1 _ ?_
    show Steps p.tables e below (T1.setTop (mkF m 4 #[.val (.ref a_FALSE), .val (.ref a_BOOLEAN), .val (.ref sx)] [(.ref a_BOOLEAN)])) _
    refine XS.aloadN X1.here hx rfl (hb hby d_prog_6_method_4_4) rfl rfl ?_
    show Steps p.tables e below (T1.setTop (mkF m 5 #[.val (.ref a_FALSE), .val (.ref a_BOOLEAN), .val (.ref sx)] [(.ref a_BOOLEAN), (.ref a_BOOLEAN)])) _
    refine Jvm.RoadKit.acmp (g := (mkF m 5 #[.val (.ref a_FALSE), .val (.ref a_BOOLEAN), .val (.ref sx)] [(.ref a_BOOLEAN), (.ref a_BOOLEAN)])) X1 hx rfl rfl rfl (pc0 := 5) (pc' := 33) (same := true) rfl (hb hby d_prog_6_method_4_5) rfl (decide_eq_true rfl) (by decide) (by decide) ?_
    show Steps p.tables e below (T1.setTop (mkF m 33 #[.val (.ref a_FALSE), .val (.ref a_BOOLEAN), .val (.ref sx)] [])) _
    refine XS.aloadN X1.here hx rfl (hb hby d_prog_6_method_4_33) rfl rfl ?_
    show Steps p.tables e below (T1.setTop (mkF m 34 #[.val (.ref a_FALSE), .val (.ref a_BOOLEAN), .val (.ref sx)] [(.ref a_FALSE)])) _
    exact retOut X1 hx Bd.returns rfl (Or.inr (Or.inr (Or.inr (Or.inr ⟨rfl, rfl, rfl⟩)))) (hb hby d_prog_6_method_4_34) hr
  · show QR a_FALSE h0 n0 _ T1.heap _
    rw [e1]
    exact ⟨rfl, N0, rfl⟩
set_option maxRecDepth 65536 in
set_option maxHeartbeats 40000000 in
theorem rm_val_0 (l : Launch) (Z : State) (a0 : Array Value) (hw : ∀ d ∈ tables_1, d.before a0 Z = true) (ws : List Jvm.Cond) (a_FALSE : Addr) (a_TRUE : Addr) (a_BOOLEAN : Addr) (v_a_FALSE : Addr) (v_a_TRUE : Addr) (hS : SB Z a_FALSE a_TRUE a_BOOLEAN v_a_FALSE v_a_TRUE) (h0 : Heap) (n0 : Nat) (O0 : Old Z n0 h0) :
    MetFree l (⟨"com/example/iron_policy/ironpolicy/AttributeValue", "value", "()Ljava/lang/Object;"⟩ : MethodName) (head1 (Jvm.Cond.code (⟨"com/example/iron_policy/ironpolicy/AttributeValue", "value", "()Ljava/lang/Object;"⟩ : MethodName) prog_6_method_10_code 1 (some (.object "java/lang/Object")) :: ws) ({ frames := 0, cells := 0, slots := 0, locals := 0 } : Room)) (fun a U => a = #[(.ref a_FALSE)] ∧ Z.Warmed39 U.vm ∧ U.heap = h0) (fun _ _ _ _ _ => True) (fun _ U o U' => ∃ v L, o = .returned v ∧ QR v_a_FALSE h0 n0 v U'.heap L ∧ FrameEnd U o U' L ({ frames := 0, cells := 0, slots := 0, locals := 0 } : Room).cells ({ frames := 0, cells := 0, slots := 0, locals := 0 } : Room).slots) := by
  refine MetFree.of_bodySF (plainFor_of_name pn_0) hisR ?_
  intro p e s m args below meth c s₁ Bd hml0 hP hK
  obtain ⟨rfl, hZ, hh⟩ := hP
  have hx := Bd.exec
  have hby := Bd.bytes
  have hml : c.maxLocals = 1 := hml0
  have hown : s.vm.findClass "com/example/iron_policy/ironpolicy/AttributeValue" = some m.cls := findClass_of_methodNamed Bd.named
  have hnm := (name_of_methodNamed Bd.named Bd.method).1
  have X0 : Stand p l e ({ frames := 0, cells := 0, slots := 0, locals := 0 } : Room) s m #[(.ref a_FALSE)] below meth c s₁ [] 0 0 := Stand.of_body Bd
  have e0 : s₁.heap = h0 := by rw [← hh, Bd.state]; rfl
  have N0 := Fr.nil n0
  have pre0 : ∀ t, Steps p.tables e below (s₁.setTop (mkF m 0 #[.val (.ref a_FALSE)] [])) t → Steps p.tables e below (s₁.setTop (entryFrame m #[(.ref a_FALSE)] 1)) t := fun t k => castTop (ef_rm_val_0 m (a_FALSE)) k
  obtain ⟨T1, X1, e1, st1⟩ := getF X0 hx hZ hown (host := "") (Or.inl (hw _ (List.mem_of_getElem? (i := 50) rfl))) Via.refl e0 (hS.2.2.2.2.2.2.2.2.2.1.ext O0.2) (g := (mkF m 1 #[.val (.ref a_FALSE)] [(.ref a_FALSE)])) rfl rfl (hb hby d_prog_6_method_10_1)
  obtain ⟨fs, hr, hrun, hended, hW, hsame⟩ := X1.leave (v := (some (.ref v_a_FALSE))) (fun h => by rw [Bd.returns] at h; cases h)
  refine ⟨_, _, pre0 _ ?_, hrun, hended, _, _, rfl, ?_, ⟨_, rfl⟩, hW, hsame.mono (by decide) (by decide)⟩
  · refine XS.aloadN X0.here hx rfl (hb hby d_prog_6_method_10_0) rfl rfl ?_
    show Steps p.tables e below (s₁.setTop (mkF m 1 #[.val (.ref a_FALSE)] [(.ref a_FALSE)])) _
    refine st1 _ ?_
    show Steps p.tables e below (T1.setTop (mkF m 4 #[.val (.ref a_FALSE)] [(.ref v_a_FALSE)])) _
    exact retOut X1 hx Bd.returns rfl (Or.inr (Or.inr (Or.inr (Or.inr ⟨rfl, rfl, rfl⟩)))) (hb hby d_prog_6_method_10_4) hr
  · show QR v_a_FALSE h0 n0 _ T1.heap _
    rw [e1]
    exact ⟨rfl, N0, rfl⟩
set_option maxRecDepth 65536 in
set_option maxHeartbeats 40000000 in
theorem rm_bv_0 (l : Launch) (Z : State) (a0 : Array Value) (hw : ∀ d ∈ tables_1, d.before a0 Z = true) (ws : List Jvm.Cond) (a_FALSE : Addr) (a_TRUE : Addr) (a_BOOLEAN : Addr) (v_a_FALSE : Addr) (v_a_TRUE : Addr) (hS : SB Z a_FALSE a_TRUE a_BOOLEAN v_a_FALSE v_a_TRUE) (h0 : Heap) (n0 : Nat) (O0 : Old Z n0 h0) :
    MetFree l (⟨"java/lang/Boolean", "booleanValue", "()Z"⟩ : MethodName) (head1 (Jvm.Cond.code (⟨"java/lang/Boolean", "booleanValue", "()Z"⟩ : MethodName) jdk_2055_method_4_code 1 (some .boolean) :: ws) ({ frames := 0, cells := 0, slots := 0, locals := 0 } : Room)) (fun a U => a = #[(.ref v_a_FALSE)] ∧ Z.Warmed39 U.vm ∧ U.heap = h0) (fun _ _ _ _ _ => True) (fun _ U o U' => ∃ v L, o = .returned v ∧ QI (0 : Int32) h0 n0 v U'.heap L ∧ FrameEnd U o U' L ({ frames := 0, cells := 0, slots := 0, locals := 0 } : Room).cells ({ frames := 0, cells := 0, slots := 0, locals := 0 } : Room).slots) := by
  refine MetFree.of_bodySF (plainFor_of_name pn_1) hisR ?_
  intro p e s m args below meth c s₁ Bd hml0 hP hK
  obtain ⟨rfl, hZ, hh⟩ := hP
  have hx := Bd.exec
  have hby := Bd.bytes
  have hml : c.maxLocals = 1 := hml0
  have hown : s.vm.findClass "java/lang/Boolean" = some m.cls := findClass_of_methodNamed Bd.named
  have hnm := (name_of_methodNamed Bd.named Bd.method).1
  have X0 : Stand p l e ({ frames := 0, cells := 0, slots := 0, locals := 0 } : Room) s m #[(.ref v_a_FALSE)] below meth c s₁ [] 0 0 := Stand.of_body Bd
  have e0 : s₁.heap = h0 := by rw [← hh, Bd.state]; rfl
  have N0 := Fr.nil n0
  have pre0 : ∀ t, Steps p.tables e below (s₁.setTop (mkF m 0 #[.val (.ref v_a_FALSE)] [])) t → Steps p.tables e below (s₁.setTop (entryFrame m #[(.ref v_a_FALSE)] 1)) t := fun t k => castTop (ef_rm_bv_0 m (v_a_FALSE)) k
  obtain ⟨T1, X1, e1, st1⟩ := getF X0 hx hZ hown (host := "") (Or.inl (hw _ (List.mem_of_getElem? (i := 60) rfl))) Via.refl e0 (hS.2.2.2.2.2.2.2.2.2.2.1.ext O0.2) (g := (mkF m 1 #[.val (.ref v_a_FALSE)] [(.ref v_a_FALSE)])) rfl rfl (hb hby d_jdk_2055_method_4_1)
  obtain ⟨fs, hr, hrun, hended, hW, hsame⟩ := X1.leave (v := (some (.int (0 : Int32)))) (fun h => by rw [Bd.returns] at h; cases h)
  refine ⟨_, _, pre0 _ ?_, hrun, hended, _, _, rfl, ?_, ⟨_, rfl⟩, hW, hsame.mono (by decide) (by decide)⟩
  · refine XS.aloadN X0.here hx rfl (hb hby d_jdk_2055_method_4_0) rfl rfl ?_
    show Steps p.tables e below (s₁.setTop (mkF m 1 #[.val (.ref v_a_FALSE)] [(.ref v_a_FALSE)])) _
    refine st1 _ ?_
    show Steps p.tables e below (T1.setTop (mkF m 4 #[.val (.ref v_a_FALSE)] [(.int (0 : Int32))])) _
    exact retN X1 hx (t := .boolean) Bd.returns (by simp) (hb hby d_jdk_2055_method_4_4) hr
  · show QI (0 : Int32) h0 n0 _ T1.heap _
    rw [e1]
    exact ⟨rfl, N0, rfl⟩
set_option maxRecDepth 65536 in
set_option maxHeartbeats 40000000 in
theorem rm_ist_0 (l : Launch) (Z : State) (a0 : Array Value) (hw : ∀ d ∈ tables_1, d.before a0 Z = true) (a_FALSE : Addr) (a_TRUE : Addr) (a_BOOLEAN : Addr) (v_a_FALSE : Addr) (v_a_TRUE : Addr) (hS : SB Z a_FALSE a_TRUE a_BOOLEAN v_a_FALSE v_a_TRUE) (h0 : Heap) (n0 : Nat) (O0 : Old Z n0 h0) (sx : Addr) {p : Program} {e : Env} {s : State} {m : MethodId} {below : List Frame} {meth : Method} {c : Code} {s₁ : State} (X0 : Stand p l e ({ frames := 1, cells := 0, slots := 0, locals := 14 } : Room) s m #[(.ref a_FALSE), (.ref sx)] below meth c s₁ [] 0 0) (hx : p.tables.exec = Jvm.exec) (hby : c.code = prog_19_method_3_code) (hml : c.maxLocals = 2) (hret : meth.sig.returnType = (some .boolean)) (hlk : meth.locks = false) (hown : s.vm.findClass "com/example/iron_policy/ironpolicy/ExpressionValue" = some m.cls) (hZ : Z.Warmed39 s.vm) (e0 : s₁.heap = h0) :
    ∃ s₂ v L, Steps p.tables e below (s₁.setTop (entryFrame m #[(.ref a_FALSE), (.ref sx)] 2)) s₂ ∧ s₂.status = .running ∧ Ended s₂ below (.returned v) ∧ QI (0 : Int32) h0 n0 v s₂.heap L ∧ s.WarmedH s₂.vm ∧ s.sameButNew { s₂ with vm := s.vm } L ({ frames := 1, cells := 0, slots := 0, locals := 14 } : Room).cells ({ frames := 1, cells := 0, slots := 0, locals := 14 } : Room).slots := by
  have N0 := Fr.nil n0
  have pre0 : ∀ t, Steps p.tables e below (s₁.setTop (mkF m 0 #[.val (.ref a_FALSE), .val (.ref sx)] [])) t → Steps p.tables e below (s₁.setTop (entryFrame m #[(.ref a_FALSE), (.ref sx)] 2)) t := fun t k => castTop (ef_rm_ist_0 m (a_FALSE) (sx)) k
  obtain ⟨T1, X1, e1, st1⟩ := getS2 X0 hx hZ hown (host := "") (Or.inl (hw _ (List.mem_of_getElem? (i := 36) rfl))) Via.refl e0 (hS.2.2.2.2.2.2.1.ext O0.2) (g := (mkF m 1 #[.val (.ref a_FALSE), .val (.ref sx)] [(.ref a_FALSE)])) rfl (hb hby d_prog_19_method_3_1)
  obtain ⟨cq2, kq2, q2a, q2b, q2c⟩ := isOf hZ e1 ((hS.1.ext O0.2))
  obtain ⟨_, _, ⟨T2, L2, k2, n2⟩, -, X2, ⟨Lc2, hQ2, l2, y2, z2⟩, st2⟩ := X1.interfaceBack hx (xi := (⟨"com/example/iron_policy/ironpolicy/ExpressionValue", "single", "(Lcom/example/iron_policy/ironpolicy/DataType;Ljava/lang/String;)Lcom/example/iron_policy/ironpolicy/AttributeValue;"⟩ : MethodName)) (y := (⟨"com/example/iron_policy/ironpolicy/AttributeValue", "single", "(Lcom/example/iron_policy/ironpolicy/DataType;Ljava/lang/String;)Lcom/example/iron_policy/ironpolicy/AttributeValue;"⟩ : MethodName)) hown (mvT hZ (hw _ (List.mem_of_getElem? (i := 37) rfl))) (mvT hZ (hw _ (List.mem_of_getElem? (i := 38) rfl))) (mvT hZ (hw _ (List.mem_of_getElem? (i := 39) rfl))) (mvT hZ (hw _ (List.mem_of_getElem? (i := 40) rfl))) (mvT hZ (hw _ (List.mem_of_getElem? (i := 41) rfl))) (mvT hZ (hw _ (List.mem_of_getElem? (i := 42) rfl))) (mvT hZ (hw _ (List.mem_of_getElem? (i := 43) rfl))) (mvT hZ (hw _ (List.mem_of_getElem? (i := 34) rfl))) (by decide) (backOf (W := 0) (rm_sin_0 l Z a0 hw [] a_FALSE a_TRUE a_BOOLEAN v_a_FALSE v_a_TRUE hS h0 n0 O0 sx) hZ (hw _ (List.mem_of_getElem? (i := 44) rfl)) (hw _ (List.mem_of_getElem? (i := 2) rfl)) (by decide) (by decide)) q2a q2b q2c (g := (mkF m 5 #[.val (.ref a_FALSE), .val (.ref sx)] [(.ref sx), (.ref a_BOOLEAN), (.ref a_FALSE)])) rfl (by rw [hml]; rfl) (Steps.refl _) (argsL := [(.ref a_BOOLEAN), (.ref sx)]) (rest := []) (lenOf pd_0 rfl) rfl (by show 2 * 0 + _ ≤ _; exact Nat.le_of_eq rfl) (hb hby d_prog_19_method_3_5) (fun _ _ => ⟨rfl, e1, (by decide : 0 + 0 ≤ _), (by decide : 0 + 0 ≤ _)⟩)
  dsimp only [Pt.U, Pt.locs, Pt.cells, Pt.slots] at X2 l2 y2 z2 st2 hQ2
  subst l2 y2 z2
  obtain ⟨rfl, N2q, e2⟩ := hQ2
  have N2 := Fr.app N0 N2q
  obtain ⟨cq3, kq3, q3a, q3b, q3c⟩ := isOf hZ e2 ((hS.1.ext O0.2))
  obtain ⟨_, _, ⟨T3, L3, k3, n3⟩, -, X3, ⟨Lc3, hQ3, l3, y3, z3⟩, st3⟩ := X2.virtualBack hx (y := (⟨"com/example/iron_policy/ironpolicy/AttributeValue", "value", "()Ljava/lang/Object;"⟩ : MethodName)) (z := (⟨"com/example/iron_policy/ironpolicy/AttributeValue", "value", "()Ljava/lang/Object;"⟩ : MethodName)) hown (mvT hZ (hw _ (List.mem_of_getElem? (i := 45) rfl))) (mvT hZ (hw _ (List.mem_of_getElem? (i := 46) rfl))) (notFace_of_selects (args := #[]) (mvT hZ (hw _ (List.mem_of_getElem? (i := 48) rfl)))) (mvT hZ (hw _ (List.mem_of_getElem? (i := 48) rfl))) (mvT hZ (hw _ (List.mem_of_getElem? (i := 47) rfl))) (by decide) (backOf (W := 0) (rm_val_0 l Z a0 hw [] a_FALSE a_TRUE a_BOOLEAN v_a_FALSE v_a_TRUE hS h0 n0 O0) hZ (hw _ (List.mem_of_getElem? (i := 49) rfl)) (hw _ (List.mem_of_getElem? (i := 2) rfl)) (by decide) (by decide)) q3a q3c (g := (mkF m 10 #[.val (.ref a_FALSE), .val (.ref sx)] [(.ref a_FALSE)])) rfl (by rw [hml]; rfl) (Steps.refl _) (argsL := []) (rest := []) (lenOf pd_1 rfl) rfl (by show 2 * 0 + _ ≤ _; exact Nat.le_of_eq rfl) (hb hby d_prog_19_method_3_10) (fun _ _ => ⟨rfl, e2, (by decide : 0 + 0 ≤ _), (by decide : 0 + 0 ≤ _)⟩)
  dsimp only [Pt.U, Pt.locs, Pt.cells, Pt.slots] at X3 l3 y3 z3 st3 hQ3
  subst l3 y3 z3
  obtain ⟨rfl, N3q, e3⟩ := hQ3
  have N3 := Fr.app N2 N3q
  obtain ⟨T4, X4, e4, st4⟩ := castY X3 hx hZ hown (hw _ (List.mem_of_getElem? (i := 52) rfl)) e3 (Ins.self (hS.2.2.2.2.2.2.2.2.1.ext O0.2)) (g := (mkF m 13 #[.val (.ref a_FALSE), .val (.ref sx)] [(.ref v_a_FALSE)])) rfl rfl (hb hby d_prog_19_method_3_13)
  obtain ⟨cq5, kq5, q5a, q5b, q5c⟩ := isOf hZ e4 ((hS.2.2.2.2.2.2.2.2.1.ext O0.2))
  obtain ⟨_, _, ⟨T5, L5, k5, n5⟩, -, X5, ⟨Lc5, hQ5, l5, y5, z5⟩, st5⟩ := X4.virtualBack hx (y := (⟨"java/lang/Boolean", "booleanValue", "()Z"⟩ : MethodName)) (z := (⟨"java/lang/Boolean", "booleanValue", "()Z"⟩ : MethodName)) hown (mvT hZ (hw _ (List.mem_of_getElem? (i := 54) rfl))) (mvT hZ (hw _ (List.mem_of_getElem? (i := 55) rfl))) (notFace_of_selects (args := #[]) (mvT hZ (hw _ (List.mem_of_getElem? (i := 57) rfl)))) (mvT hZ (hw _ (List.mem_of_getElem? (i := 57) rfl))) (mvT hZ (hw _ (List.mem_of_getElem? (i := 56) rfl))) (by decide) (backOf (W := 0) (rm_bv_0 l Z a0 hw [] a_FALSE a_TRUE a_BOOLEAN v_a_FALSE v_a_TRUE hS h0 n0 O0) hZ (hw _ (List.mem_of_getElem? (i := 59) rfl)) (hw _ (List.mem_of_getElem? (i := 58) rfl)) (by decide) (by decide)) q5a q5c (g := (mkF m 16 #[.val (.ref a_FALSE), .val (.ref sx)] [(.ref v_a_FALSE)])) rfl (by rw [hml]; rfl) (Steps.refl _) (argsL := []) (rest := []) (lenOf pd_2 rfl) rfl (by show 2 * 0 + _ ≤ _; exact Nat.le_of_eq rfl) (hb hby d_prog_19_method_3_16) (fun _ _ => ⟨rfl, e4, (by decide : 0 + 0 ≤ _), (by decide : 0 + 0 ≤ _)⟩)
  dsimp only [Pt.U, Pt.locs, Pt.cells, Pt.slots] at X5 l5 y5 z5 st5 hQ5
  subst l5 y5 z5
  obtain ⟨rfl, N5q, e5⟩ := hQ5
  have N5 := Fr.app N3 N5q
  obtain ⟨fs, hr, hrun, hended, hW, hsame⟩ := X5.leave (v := (some (.int (0 : Int32)))) (fun h => by rw [hret] at h; cases h)
  refine ⟨_, _, _, pre0 _ ?_, hrun, hended, ?_, hW, hsame.mono (by decide) (by decide)⟩
  · refine XS.aloadN X0.here hx rfl (hb hby d_prog_19_method_3_0) rfl rfl ?_
    show Steps p.tables e below (s₁.setTop (mkF m 1 #[.val (.ref a_FALSE), .val (.ref sx)] [(.ref a_FALSE)])) _
    refine st1 _ ?_
    show Steps p.tables e below (T1.setTop (mkF m 4 #[.val (.ref a_FALSE), .val (.ref sx)] [(.ref a_BOOLEAN), (.ref a_FALSE)])) _
    refine XS.aloadN X1.here hx rfl (hb hby d_prog_19_method_3_4) rfl rfl ?_
    show Steps p.tables e below (T1.setTop (mkF m 5 #[.val (.ref a_FALSE), .val (.ref sx)] [(.ref sx), (.ref a_BOOLEAN), (.ref a_FALSE)])) _
    refine st2.trans ?_
    show Steps p.tables e below (T2.setTop (mkF m 10 #[.val (.ref a_FALSE), .val (.ref sx)] [(.ref a_FALSE)])) _
    refine st3.trans ?_
    show Steps p.tables e below (T3.setTop (mkF m 13 #[.val (.ref a_FALSE), .val (.ref sx)] [(.ref v_a_FALSE)])) _
    refine st4 _ ?_
    show Steps p.tables e below (T4.setTop (mkF m 16 #[.val (.ref a_FALSE), .val (.ref sx)] [(.ref v_a_FALSE)])) _
    refine st5.trans ?_
    show Steps p.tables e below (T5.setTop (mkF m 19 #[.val (.ref a_FALSE), .val (.ref sx)] [(.int (0 : Int32))])) _
    exact retN X5 hx (t := .boolean) hret (by simp) (hb hby d_prog_19_method_3_19) hr
  · show QI (0 : Int32) h0 n0 _ T5.heap _
    rw [e5]
    exact ⟨rfl, N5, rfl⟩
set_option maxRecDepth 65536 in
set_option maxHeartbeats 40000000 in
theorem rm0 (l : Launch) (Z : State) (a0 : Array Value) (hw : ∀ d ∈ tables_1, d.before a0 Z = true) (ws : List Jvm.Cond) (a_FALSE : Addr) (a_TRUE : Addr) (a_BOOLEAN : Addr) (v_a_FALSE : Addr) (v_a_TRUE : Addr) (hS : SB Z a_FALSE a_TRUE a_BOOLEAN v_a_FALSE v_a_TRUE) (p0 : Int32) (h0 : Heap) (n0 : Nat) (O0 : Old Z n0 h0) :
    MetFree l x (head1 (Jvm.Cond.code x code maxLocals ret :: ws) room_1) (fun a U => a = #[(.int p0)] ∧ Z.Warmed39 U.vm ∧ U.heap = h0) (fun _ _ _ _ _ => True) (fun _ U o U' => ∃ v L, o = .returned v ∧ Q0 n0 v U'.heap L ∧ ReturnedEndW U o U' L room_1.cells room_1.slots) := by
  refine MetFree.of_bodySF (plainFor_of_name pn_3) hisR ?_
  intro p e s m args below meth c s₁ Bd hml0 hP hK
  obtain ⟨rfl, hZ, hh⟩ := hP
  have hx := Bd.exec
  have hby := Bd.bytes
  have hml : c.maxLocals = 5 := hml0
  have hown : s.vm.findClass "com/example/iron_policy/ironpolicy/AttributeValueOfPinLaw" = some m.cls := findClass_of_methodNamed Bd.named
  have hnm := (name_of_methodNamed Bd.named Bd.method).1
  have X0 : Stand p l e room_1 (s.setVm s.vm) m #[(.int p0)] below meth c s₁ [] 0 0 := Stand.of_body Bd
  have e0 : s₁.heap = h0 := by rw [← hh, Bd.state]; rfl
  have N0 := Fr.nil n0
  have pre0 : ∀ t, Steps p.tables e below (s₁.setTop (mkF m 0 #[.val (.int p0), .unset, .unset, .unset, .unset] [])) t → Steps p.tables e below (s₁.setTop (entryFrame m #[(.int p0)] maxLocals)) t := fun t k => castTop (ef_rm0 m (p0)) k
  have hZ0 : Z.Warmed39 (s.setVm s.vm).vm := hZ
  have hown0 : (s.setVm s.vm).vm.findClass "com/example/iron_policy/ironpolicy/AttributeValueOfPinLaw" = some m.cls := hown
  have hS0 : s.Since s.vm s.heap.size := (State.WarmedH.refl s).since _
  have hk0 : s.heap.size ≤ h0.size := by rw [hh]; exact Nat.le_refl _
  have gp1 : ∀ t, Steps p.tables e below (s₁.setTop (mkF m 3 #[.val (.int p0), .unset, .unset, .unset, .unset] [(.int (p0 &&& (1 : Int32)))])) t → Steps p.tables e below (s₁.setTop (entryFrame m #[(.int p0)] maxLocals)) t := fun t kt => pre0 t (by
    refine XS.iloadN X0.here hx rfl (hb hby at_0) rfl ?_
    show Steps p.tables e below (s₁.setTop (mkF m 1 #[.val (.int p0), .unset, .unset, .unset, .unset] [(.int p0)])) _
    refine XS.iconst X0.here hx rfl (hb hby at_1) ?_
    show Steps p.tables e below (s₁.setTop (mkF m 2 #[.val (.int p0), .unset, .unset, .unset, .unset] [(.int (1 : Int32)), (.int p0)])) _
    refine XS.iand X0.here hx rfl (hb hby at_2) rfl ?_
    show Steps p.tables e below (s₁.setTop (mkF m 3 #[.val (.int p0), .unset, .unset, .unset, .unset] [(.int (p0 &&& (1 : Int32)))])) _
    exact kt)
  by_cases hc3 : (p0 &&& (1 : Int32)) = (0 : Int32)
  · obtain ⟨_, _, ⟨T2, L2, k2, n2⟩, -, X2, ⟨Lc2, hQ2, l2, y2, z2⟩, st2⟩ := Jvm.LawKit.callS X0 hx (y := (⟨"com/example/iron_policy/ironpolicy/AttributeValue", "of", "(Z)Lcom/example/iron_policy/ironpolicy/AttributeValue;"⟩ : MethodName)) hown0 (mvT hZ0 (hw _ (List.mem_of_getElem? (i := 0) rfl))) (mvT hZ0 (hw _ (List.mem_of_getElem? (i := 1) rfl))) (mvT hZ0 (hw _ (List.mem_of_getElem? (i := 2) rfl))) (mvT hZ0 (hw _ (List.mem_of_getElem? (i := 3) rfl))) (by decide) (backOf (W := 0) (rm_of_0 l Z a0 hw [] a_FALSE a_TRUE a_BOOLEAN v_a_FALSE v_a_TRUE hS h0 n0 O0) hZ0 (hw _ (List.mem_of_getElem? (i := 3) rfl)) (hw _ (List.mem_of_getElem? (i := 2) rfl)) (by decide) (by decide)) (g := (mkF m 13 #[.val (.int p0), .val (.int (0 : Int32)), .unset, .unset, .unset] [(.int (0 : Int32))])) rfl (by rw [hml]; rfl) (argsL := [(.int (0 : Int32))]) (rest := []) (lenOf pd_3 rfl) rfl (by show 2 * 0 + _ ≤ _; exact Nat.le_of_eq rfl) (hb hby at_13) (fun _ _ => ⟨rfl, e0, (by decide : 0 + 0 ≤ _), (by decide : 0 + 0 ≤ _)⟩)
    dsimp only [Pt.U, Pt.locs, Pt.cells, Pt.slots] at X2 l2 y2 z2 st2 hQ2
    subst l2 y2 z2
    obtain ⟨rfl, N2q, e2⟩ := hQ2
    have N2 := Fr.app N0 N2q
    obtain ⟨_, _, ⟨T3, L3, k3, n3⟩, -, X3, ⟨Lc3, hQ3, l3, y3, z3⟩, st3⟩ := Jvm.LawKit.callS X2 hx (y := (⟨"com/example/iron_policy/ironpolicy/AttributeValue", "of", "(Z)Lcom/example/iron_policy/ironpolicy/AttributeValue;"⟩ : MethodName)) hown0 (mvT hZ0 (hw _ (List.mem_of_getElem? (i := 0) rfl))) (mvT hZ0 (hw _ (List.mem_of_getElem? (i := 1) rfl))) (mvT hZ0 (hw _ (List.mem_of_getElem? (i := 2) rfl))) (mvT hZ0 (hw _ (List.mem_of_getElem? (i := 3) rfl))) (by decide) (backOf (W := 0) (rm_of_1 l Z a0 hw [] a_FALSE a_TRUE a_BOOLEAN v_a_FALSE v_a_TRUE hS h0 n0 O0) hZ0 (hw _ (List.mem_of_getElem? (i := 3) rfl)) (hw _ (List.mem_of_getElem? (i := 2) rfl)) (by decide) (by decide)) (g := (mkF m 26 #[.val (.int p0), .val (.int (0 : Int32)), .val (.ref a_FALSE), .unset, .unset] [(.int (1 : Int32))])) rfl (by rw [hml]; rfl) (argsL := [(.int (1 : Int32))]) (rest := []) (lenOf pd_3 rfl) rfl (by show 2 * 0 + _ ≤ _; exact Nat.le_of_eq rfl) (hb hby at_26) (fun _ _ => ⟨rfl, e2, (by decide : 0 + 0 ≤ _), (by decide : 0 + 0 ≤ _)⟩)
    dsimp only [Pt.U, Pt.locs, Pt.cells, Pt.slots] at X3 l3 y3 z3 st3 hQ3
    subst l3 y3 z3
    obtain ⟨rfl, N3q, e3⟩ := hQ3
    have N3 := Fr.app N2 N3q
    obtain ⟨T4, X4, e4, st4⟩ := getS2 X3 hx hZ0 hown0 (host := "") (Or.inl (hw _ (List.mem_of_getElem? (i := 8) rfl))) Via.refl e3 (hS.2.1.ext O0.2) (g := (mkF m 40 #[.val (.int p0), .val (.int (0 : Int32)), .val (.ref a_FALSE), .val (.ref a_TRUE), .unset] [])) rfl (hb hby at_40)
    obtain ⟨cq5, kq5, q5a, q5b, q5c⟩ := isOf hZ0 e4 ((hS.1.ext O0.2))
    obtain ⟨_, _, ⟨T5, L5, k5, n5⟩, -, X5, ⟨Lc5, hQ5, l5, y5, z5⟩, st5⟩ := X4.virtualBack hx (y := (⟨"com/example/iron_policy/ironpolicy/AttributeValue", "dataType", "()Lcom/example/iron_policy/ironpolicy/DataType;"⟩ : MethodName)) (z := (⟨"com/example/iron_policy/ironpolicy/AttributeValue", "dataType", "()Lcom/example/iron_policy/ironpolicy/DataType;"⟩ : MethodName)) hown0 (mvT hZ0 (hw _ (List.mem_of_getElem? (i := 9) rfl))) (mvT hZ0 (hw _ (List.mem_of_getElem? (i := 10) rfl))) (notFace_of_selects (args := #[]) (mvT hZ0 (hw _ (List.mem_of_getElem? (i := 12) rfl)))) (mvT hZ0 (hw _ (List.mem_of_getElem? (i := 12) rfl))) (mvT hZ0 (hw _ (List.mem_of_getElem? (i := 11) rfl))) (by decide) (backOf (W := 0) (rm_dt_0 l Z a0 hw [] a_FALSE a_TRUE a_BOOLEAN v_a_FALSE v_a_TRUE hS h0 n0 O0) hZ0 (hw _ (List.mem_of_getElem? (i := 13) rfl)) (hw _ (List.mem_of_getElem? (i := 2) rfl)) (by decide) (by decide)) q5a q5c (g := (mkF m 61 #[.val (.int p0), .val (.int (0 : Int32)), .val (.ref a_FALSE), .val (.ref a_TRUE), .val (.ref a_FALSE)] [(.ref a_FALSE)])) rfl (by rw [hml]; rfl) (Steps.refl _) (argsL := []) (rest := []) (lenOf pd_4 rfl) rfl (by show 2 * 0 + _ ≤ _; exact Nat.le_of_eq rfl) (hb hby at_61) (fun _ _ => ⟨rfl, e4, (by decide : 0 + 0 ≤ _), (by decide : 0 + 0 ≤ _)⟩)
    dsimp only [Pt.U, Pt.locs, Pt.cells, Pt.slots] at X5 l5 y5 z5 st5 hQ5
    subst l5 y5 z5
    obtain ⟨rfl, N5q, e5⟩ := hQ5
    have N5 := Fr.app N3 N5q
    obtain ⟨T6, X6, e6, st6⟩ := getS2 X5 hx hZ0 hown0 (host := "") (Or.inl (hw _ (List.mem_of_getElem? (i := 18) rfl))) Via.refl e5 (hS.2.2.2.2.2.2.1.ext O0.2) (g := (mkF m 64 #[.val (.int p0), .val (.int (0 : Int32)), .val (.ref a_FALSE), .val (.ref a_TRUE), .val (.ref a_FALSE)] [(.ref a_BOOLEAN)])) rfl (hb hby at_64)
    obtain ⟨sa7, T7, h7, k7, X7, e7, E7, hS7, hk7, hZ7, hown7, st7⟩ := ldcS X6 hx hZ0 hown0 (hw _ (List.mem_of_getElem? (i := 19) rfl)) (own_wS hw) e6 hS0 hk0 (g := (mkF m 73 #[.val (.int p0), .val (.int (0 : Int32)), .val (.ref a_FALSE), .val (.ref a_TRUE), .val (.ref a_FALSE)] [(.ref a_FALSE)])) rfl (hb hby at_73) (n := 12) (by decide) (by decide) (by decide) (by decide)
    have O8 : Old Z n0 h7 := Old.ext O0 E7
    have hk9 := Nat.le_trans hk0 E7.1
    obtain ⟨cq10, kq10, q10a, q10b, q10c⟩ := isOf hZ7 e7 ((hS.1.ext O8.2))
    obtain ⟨_, _, ⟨T10, L10, k10, n10⟩, -, X10, ⟨Lc10, hQ10, l10, y10, z10⟩, st10⟩ := X7.virtualBackUpD hx (x := (⟨"com/example/iron_policy/ironpolicy/AttributeValue", "isTrue", "(Ljava/lang/String;)Z"⟩ : MethodName)) (y := (⟨"com/example/iron_policy/ironpolicy/ExpressionValue", "isTrue", "(Ljava/lang/String;)Z"⟩ : MethodName)) (owner := "com/example/iron_policy/ironpolicy/ExpressionValue") hown7 (mvT hZ7 (hw _ (List.mem_of_getElem? (i := 27) rfl))) (mvT hZ7 (hw _ (List.mem_of_getElem? (i := 28) rfl))) (mvT hZ7 (hw _ (List.mem_of_getElem? (i := 29) rfl))) (by decide) (mvD hZ7 (hw _ (List.mem_of_getElem? (i := 31) rfl))) (mvT hZ7 (hw _ (List.mem_of_getElem? (i := 30) rfl))) (own_backI (W := 0) (rm := ({ frames := 1, cells := 0, slots := 0, locals := 14 } : Room)) hx (fun X hb hl hr hk ho hz he => rm_ist_0 l Z a0 hw a_FALSE a_TRUE a_BOOLEAN v_a_FALSE v_a_TRUE hS h7 n0 O8 sa7 X hx hb hl hr hk ho hz he) (plainFor_of_name pn_2) hZ7 (hw _ (List.mem_of_getElem? (i := 35) rfl)) (by decide) (by decide)) q10a q10c (g := (mkF m 75 #[.val (.int p0), .val (.int (0 : Int32)), .val (.ref a_FALSE), .val (.ref a_TRUE), .val (.ref a_FALSE)] [(.ref sa7), (.ref a_FALSE)])) rfl (by rw [hml]; rfl) (Steps.refl _) (argsL := [(.ref sa7)]) (rest := []) (lenOf pd_5 rfl) rfl (by show 2 * 0 + _ ≤ _; exact Nat.le_of_eq rfl) (hb hby at_75) (fun _ _ => ⟨rfl, e7, (by decide : 2 + 0 ≤ _), (by decide : 16 + 0 ≤ _)⟩)
    dsimp only [Pt.U, Pt.locs, Pt.cells, Pt.slots] at X10 l10 y10 z10 st10 hQ10
    subst l10 y10 z10
    obtain ⟨rfl, N10q, e10⟩ := hQ10
    have N10 := Fr.app N5 N10q
    obtain ⟨fs, hr, hrun, hended, hEW⟩ := Jvm.Stand.leaveW X10 hS7 (by rw [e10]; exact hk7) (v := (some (.int (1 : Int32)))) (fun h => by rw [Bd.returns] at h; cases h)
    refine ⟨_, _, gp1 _ ?_, hrun, hended, _, _, rfl, ?_, ⟨_, rfl⟩, hEW.2.1, hEW.2.2.1, hEW.2.2.2.mono (by decide) (by decide)⟩
    · refine XS.ifYes X0.here hx rfl (pc0 := 3) (pc' := 10) rfl (hb hby at_3) rfl ((if0 _ _).trans (teq hc3).1) (by decide) (by decide) ?_
      show Steps p.tables e below (s₁.setTop (mkF m 10 #[.val (.int p0), .unset, .unset, .unset, .unset] [])) _
      refine XS.iconst X0.here hx rfl (hb hby at_10) ?_
      show Steps p.tables e below (s₁.setTop (mkF m 11 #[.val (.int p0), .unset, .unset, .unset, .unset] [(.int (0 : Int32))])) _
      refine XS.istoreN X0.here hx rfl (hb hby at_11) rfl (l' := #[.val (.int p0), .val (.int (0 : Int32)), .unset, .unset, .unset]) rfl ?_
      show Steps p.tables e below (s₁.setTop (mkF m 12 #[.val (.int p0), .val (.int (0 : Int32)), .unset, .unset, .unset] [])) _
      refine XS.iloadN X0.here hx rfl (hb hby at_12) rfl ?_
      show Steps p.tables e below (s₁.setTop (mkF m 13 #[.val (.int p0), .val (.int (0 : Int32)), .unset, .unset, .unset] [(.int (0 : Int32))])) _
      refine st2 _ ?_
      show Steps p.tables e below (T2.setTop (mkF m 16 #[.val (.int p0), .val (.int (0 : Int32)), .unset, .unset, .unset] [(.ref a_FALSE)])) _
      refine XS.astoreN X2.here hx rfl (hb hby at_16) rfl rfl (l' := #[.val (.int p0), .val (.int (0 : Int32)), .val (.ref a_FALSE), .unset, .unset]) rfl ?_
      show Steps p.tables e below (T2.setTop (mkF m 17 #[.val (.int p0), .val (.int (0 : Int32)), .val (.ref a_FALSE), .unset, .unset] [])) _
      refine XS.iloadN X2.here hx rfl (hb hby at_17) rfl ?_
      show Steps p.tables e below (T2.setTop (mkF m 18 #[.val (.int p0), .val (.int (0 : Int32)), .val (.ref a_FALSE), .unset, .unset] [(.int (0 : Int32))])) _
      refine XS.ifNo X2.here hx rfl (hb hby at_18) rfl ((if0 _ _).trans (teq (by decide : (0 : Int32) = (0 : Int32))).2) ?_
      show Steps p.tables e below (T2.setTop (mkF m 21 #[.val (.int p0), .val (.int (0 : Int32)), .val (.ref a_FALSE), .unset, .unset] [])) _
      refine XS.iconst X2.here hx rfl (hb hby at_21) ?_
      show Steps p.tables e below (T2.setTop (mkF m 22 #[.val (.int p0), .val (.int (0 : Int32)), .val (.ref a_FALSE), .unset, .unset] [(.int (1 : Int32))])) _
      refine XS.goto X2.here hx rfl (pc0 := 22) (pc' := 26) rfl (hb hby at_22) (by decide) (by decide) ?_
      show Steps p.tables e below (T2.setTop (mkF m 26 #[.val (.int p0), .val (.int (0 : Int32)), .val (.ref a_FALSE), .unset, .unset] [(.int (1 : Int32))])) _
      refine st3 _ ?_
      show Steps p.tables e below (T3.setTop (mkF m 29 #[.val (.int p0), .val (.int (0 : Int32)), .val (.ref a_FALSE), .unset, .unset] [(.ref a_TRUE)])) _
      refine XS.astoreN X3.here hx rfl (hb hby at_29) rfl rfl (l' := #[.val (.int p0), .val (.int (0 : Int32)), .val (.ref a_FALSE), .val (.ref a_TRUE), .unset]) rfl ?_
      show Steps p.tables e below (T3.setTop (mkF m 30 #[.val (.int p0), .val (.int (0 : Int32)), .val (.ref a_FALSE), .val (.ref a_TRUE), .unset] [])) _
      refine XS.iloadN X3.here hx rfl (hb hby at_30) rfl ?_
      show Steps p.tables e below (T3.setTop (mkF m 31 #[.val (.int p0), .val (.int (0 : Int32)), .val (.ref a_FALSE), .val (.ref a_TRUE), .unset] [(.int (0 : Int32))])) _
      refine XS.ifYes X3.here hx rfl (pc0 := 31) (pc' := 40) rfl (hb hby at_31) rfl ((if0 _ _).trans (teq (by decide : (0 : Int32) = (0 : Int32))).1) (by decide) (by decide) ?_
      show Steps p.tables e below (T3.setTop (mkF m 40 #[.val (.int p0), .val (.int (0 : Int32)), .val (.ref a_FALSE), .val (.ref a_TRUE), .unset] [])) _
      refine st4 _ ?_
      show Steps p.tables e below (T4.setTop (mkF m 43 #[.val (.int p0), .val (.int (0 : Int32)), .val (.ref a_FALSE), .val (.ref a_TRUE), .unset] [(.ref a_FALSE)])) _
      refine XS.astore X4.here hx rfl (hb hby at_43) rfl rfl (l' := #[.val (.int p0), .val (.int (0 : Int32)), .val (.ref a_FALSE), .val (.ref a_TRUE), .val (.ref a_FALSE)]) rfl ?_
      show Steps p.tables e below (T4.setTop (mkF m 45 #[.val (.int p0), .val (.int (0 : Int32)), .val (.ref a_FALSE), .val (.ref a_TRUE), .val (.ref a_FALSE)] [])) _
      refine XS.aloadN X4.here hx rfl (hb hby at_45) rfl rfl ?_
      show Steps p.tables e below (T4.setTop (mkF m 46 #[.val (.int p0), .val (.int (0 : Int32)), .val (.ref a_FALSE), .val (.ref a_TRUE), .val (.ref a_FALSE)] [(.ref a_FALSE)])) _
      refine XS.aload X4.here hx rfl (hb hby at_46) rfl rfl ?_
      show Steps p.tables e below (T4.setTop (mkF m 48 #[.val (.int p0), .val (.int (0 : Int32)), .val (.ref a_FALSE), .val (.ref a_TRUE), .val (.ref a_FALSE)] [(.ref a_FALSE), (.ref a_FALSE)])) _
      refine Jvm.RoadKit.acmp (g := (mkF m 48 #[.val (.int p0), .val (.int (0 : Int32)), .val (.ref a_FALSE), .val (.ref a_TRUE), .val (.ref a_FALSE)] [(.ref a_FALSE), (.ref a_FALSE)])) X4 hx rfl rfl rfl (pc0 := 48) (pc' := 53) (same := true) rfl (hb hby at_48) rfl (decide_eq_true rfl) (by decide) (by decide) ?_
      show Steps p.tables e below (T4.setTop (mkF m 53 #[.val (.int p0), .val (.int (0 : Int32)), .val (.ref a_FALSE), .val (.ref a_TRUE), .val (.ref a_FALSE)] [])) _
      refine XS.aloadN X4.here hx rfl (hb hby at_53) rfl rfl ?_
      show Steps p.tables e below (T4.setTop (mkF m 54 #[.val (.int p0), .val (.int (0 : Int32)), .val (.ref a_FALSE), .val (.ref a_TRUE), .val (.ref a_FALSE)] [(.ref a_FALSE)])) _
      refine XS.aloadN X4.here hx rfl (hb hby at_54) rfl rfl ?_
      show Steps p.tables e below (T4.setTop (mkF m 55 #[.val (.int p0), .val (.int (0 : Int32)), .val (.ref a_FALSE), .val (.ref a_TRUE), .val (.ref a_FALSE)] [(.ref a_TRUE), (.ref a_FALSE)])) _
      refine Jvm.RoadKit.acmp (g := (mkF m 55 #[.val (.int p0), .val (.int (0 : Int32)), .val (.ref a_FALSE), .val (.ref a_TRUE), .val (.ref a_FALSE)] [(.ref a_TRUE), (.ref a_FALSE)])) X4 hx rfl rfl rfl (pc0 := 55) (pc' := 60) (same := false) rfl (hb hby at_55) rfl (decide_eq_false fun q => hS.2.2.2.2.1 (Value.ref.inj q)) (by decide) (by decide) ?_
      show Steps p.tables e below (T4.setTop (mkF m 60 #[.val (.int p0), .val (.int (0 : Int32)), .val (.ref a_FALSE), .val (.ref a_TRUE), .val (.ref a_FALSE)] [])) _
      refine XS.aloadN X4.here hx rfl (hb hby at_60) rfl rfl ?_
      show Steps p.tables e below (T4.setTop (mkF m 61 #[.val (.int p0), .val (.int (0 : Int32)), .val (.ref a_FALSE), .val (.ref a_TRUE), .val (.ref a_FALSE)] [(.ref a_FALSE)])) _
      refine st5.trans ?_
      show Steps p.tables e below (T5.setTop (mkF m 64 #[.val (.int p0), .val (.int (0 : Int32)), .val (.ref a_FALSE), .val (.ref a_TRUE), .val (.ref a_FALSE)] [(.ref a_BOOLEAN)])) _
      refine st6 _ ?_
      show Steps p.tables e below (T6.setTop (mkF m 67 #[.val (.int p0), .val (.int (0 : Int32)), .val (.ref a_FALSE), .val (.ref a_TRUE), .val (.ref a_FALSE)] [(.ref a_BOOLEAN), (.ref a_BOOLEAN)])) _
      refine Jvm.RoadKit.acmp (g := (mkF m 67 #[.val (.int p0), .val (.int (0 : Int32)), .val (.ref a_FALSE), .val (.ref a_TRUE), .val (.ref a_FALSE)] [(.ref a_BOOLEAN), (.ref a_BOOLEAN)])) X6 hx rfl rfl rfl (pc0 := 67) (pc' := 72) (same := true) rfl (hb hby at_67) rfl (decide_eq_true rfl) (by decide) (by decide) ?_
      show Steps p.tables e below (T6.setTop (mkF m 72 #[.val (.int p0), .val (.int (0 : Int32)), .val (.ref a_FALSE), .val (.ref a_TRUE), .val (.ref a_FALSE)] [])) _
      refine XS.aloadN X6.here hx rfl (hb hby at_72) rfl rfl ?_
      show Steps p.tables e below (T6.setTop (mkF m 73 #[.val (.int p0), .val (.int (0 : Int32)), .val (.ref a_FALSE), .val (.ref a_TRUE), .val (.ref a_FALSE)] [(.ref a_FALSE)])) _
      refine st7 _ ?_
      show Steps p.tables e below (T7.setTop (mkF m 75 #[.val (.int p0), .val (.int (0 : Int32)), .val (.ref a_FALSE), .val (.ref a_TRUE), .val (.ref a_FALSE)] [(.ref sa7), (.ref a_FALSE)])) _
      refine st10.trans ?_
      show Steps p.tables e below (T10.setTop (mkF m 78 #[.val (.int p0), .val (.int (0 : Int32)), .val (.ref a_FALSE), .val (.ref a_TRUE), .val (.ref a_FALSE)] [(.int (0 : Int32))])) _
      refine XS.iloadN X10.here hx rfl (hb hby at_78) rfl ?_
      show Steps p.tables e below (T10.setTop (mkF m 79 #[.val (.int p0), .val (.int (0 : Int32)), .val (.ref a_FALSE), .val (.ref a_TRUE), .val (.ref a_FALSE)] [(.int (0 : Int32)), (.int (0 : Int32))])) _
      refine XS.icmpNo X10.here hx rfl (hb hby at_79) rfl (teq (by decide : (0 : Int32) = (0 : Int32))).2 ?_
      show Steps p.tables e below (T10.setTop (mkF m 82 #[.val (.int p0), .val (.int (0 : Int32)), .val (.ref a_FALSE), .val (.ref a_TRUE), .val (.ref a_FALSE)] [])) _
      refine XS.iconst X10.here hx rfl (hb hby at_82) ?_
      show Steps p.tables e below (T10.setTop (mkF m 83 #[.val (.int p0), .val (.int (0 : Int32)), .val (.ref a_FALSE), .val (.ref a_TRUE), .val (.ref a_FALSE)] [(.int (1 : Int32))])) _
      refine XS.goto X10.here hx rfl (pc0 := 83) (pc' := 87) rfl (hb hby at_83) (by decide) (by decide) ?_
      show Steps p.tables e below (T10.setTop (mkF m 87 #[.val (.int p0), .val (.int (0 : Int32)), .val (.ref a_FALSE), .val (.ref a_TRUE), .val (.ref a_FALSE)] [(.int (1 : Int32))])) _
      exact retN X10 hx (t := .boolean) Bd.returns (by simp) (hb hby at_87) hr
    · show Q0 n0 _ T10.heap _
      rw [e10]
      exact ⟨rfl, N10⟩
  · obtain ⟨_, _, ⟨T11, L11, k11, n11⟩, -, X11, ⟨Lc11, hQ11, l11, y11, z11⟩, st11⟩ := Jvm.LawKit.callS X0 hx (y := (⟨"com/example/iron_policy/ironpolicy/AttributeValue", "of", "(Z)Lcom/example/iron_policy/ironpolicy/AttributeValue;"⟩ : MethodName)) hown0 (mvT hZ0 (hw _ (List.mem_of_getElem? (i := 0) rfl))) (mvT hZ0 (hw _ (List.mem_of_getElem? (i := 1) rfl))) (mvT hZ0 (hw _ (List.mem_of_getElem? (i := 2) rfl))) (mvT hZ0 (hw _ (List.mem_of_getElem? (i := 3) rfl))) (by decide) (backOf (W := 0) (rm_of_1 l Z a0 hw [] a_FALSE a_TRUE a_BOOLEAN v_a_FALSE v_a_TRUE hS h0 n0 O0) hZ0 (hw _ (List.mem_of_getElem? (i := 3) rfl)) (hw _ (List.mem_of_getElem? (i := 2) rfl)) (by decide) (by decide)) (g := (mkF m 13 #[.val (.int p0), .val (.int (1 : Int32)), .unset, .unset, .unset] [(.int (1 : Int32))])) rfl (by rw [hml]; rfl) (argsL := [(.int (1 : Int32))]) (rest := []) (lenOf pd_3 rfl) rfl (by show 2 * 0 + _ ≤ _; exact Nat.le_of_eq rfl) (hb hby at_13) (fun _ _ => ⟨rfl, e0, (by decide : 0 + 0 ≤ _), (by decide : 0 + 0 ≤ _)⟩)
    dsimp only [Pt.U, Pt.locs, Pt.cells, Pt.slots] at X11 l11 y11 z11 st11 hQ11
    subst l11 y11 z11
    obtain ⟨rfl, N11q, e11⟩ := hQ11
    have N11 := Fr.app N0 N11q
    obtain ⟨_, _, ⟨T12, L12, k12, n12⟩, -, X12, ⟨Lc12, hQ12, l12, y12, z12⟩, st12⟩ := Jvm.LawKit.callS X11 hx (y := (⟨"com/example/iron_policy/ironpolicy/AttributeValue", "of", "(Z)Lcom/example/iron_policy/ironpolicy/AttributeValue;"⟩ : MethodName)) hown0 (mvT hZ0 (hw _ (List.mem_of_getElem? (i := 0) rfl))) (mvT hZ0 (hw _ (List.mem_of_getElem? (i := 1) rfl))) (mvT hZ0 (hw _ (List.mem_of_getElem? (i := 2) rfl))) (mvT hZ0 (hw _ (List.mem_of_getElem? (i := 3) rfl))) (by decide) (backOf (W := 0) (rm_of_0 l Z a0 hw [] a_FALSE a_TRUE a_BOOLEAN v_a_FALSE v_a_TRUE hS h0 n0 O0) hZ0 (hw _ (List.mem_of_getElem? (i := 3) rfl)) (hw _ (List.mem_of_getElem? (i := 2) rfl)) (by decide) (by decide)) (g := (mkF m 26 #[.val (.int p0), .val (.int (1 : Int32)), .val (.ref a_TRUE), .unset, .unset] [(.int (0 : Int32))])) rfl (by rw [hml]; rfl) (argsL := [(.int (0 : Int32))]) (rest := []) (lenOf pd_3 rfl) rfl (by show 2 * 0 + _ ≤ _; exact Nat.le_of_eq rfl) (hb hby at_26) (fun _ _ => ⟨rfl, e11, (by decide : 0 + 0 ≤ _), (by decide : 0 + 0 ≤ _)⟩)
    dsimp only [Pt.U, Pt.locs, Pt.cells, Pt.slots] at X12 l12 y12 z12 st12 hQ12
    subst l12 y12 z12
    obtain ⟨rfl, N12q, e12⟩ := hQ12
    have N12 := Fr.app N11 N12q
    obtain ⟨T13, X13, e13, st13⟩ := getS2 X12 hx hZ0 hown0 (host := "") (Or.inl (hw _ (List.mem_of_getElem? (i := 62) rfl))) Via.refl e12 (hS.2.2.2.1.ext O0.2) (g := (mkF m 34 #[.val (.int p0), .val (.int (1 : Int32)), .val (.ref a_TRUE), .val (.ref a_FALSE), .unset] [])) rfl (hb hby at_34)
    obtain ⟨cq14, kq14, q14a, q14b, q14c⟩ := isOf hZ0 e13 ((hS.2.2.1.ext O0.2))
    obtain ⟨_, _, ⟨T14, L14, k14, n14⟩, -, X14, ⟨Lc14, hQ14, l14, y14, z14⟩, st14⟩ := X13.virtualBack hx (y := (⟨"com/example/iron_policy/ironpolicy/AttributeValue", "dataType", "()Lcom/example/iron_policy/ironpolicy/DataType;"⟩ : MethodName)) (z := (⟨"com/example/iron_policy/ironpolicy/AttributeValue", "dataType", "()Lcom/example/iron_policy/ironpolicy/DataType;"⟩ : MethodName)) hown0 (mvT hZ0 (hw _ (List.mem_of_getElem? (i := 9) rfl))) (mvT hZ0 (hw _ (List.mem_of_getElem? (i := 10) rfl))) (notFace_of_selects (args := #[]) (mvT hZ0 (hw _ (List.mem_of_getElem? (i := 12) rfl)))) (mvT hZ0 (hw _ (List.mem_of_getElem? (i := 12) rfl))) (mvT hZ0 (hw _ (List.mem_of_getElem? (i := 11) rfl))) (by decide) (backOf (W := 0) (rm_dt_1 l Z a0 hw [] a_FALSE a_TRUE a_BOOLEAN v_a_FALSE v_a_TRUE hS h0 n0 O0) hZ0 (hw _ (List.mem_of_getElem? (i := 13) rfl)) (hw _ (List.mem_of_getElem? (i := 2) rfl)) (by decide) (by decide)) q14a q14c (g := (mkF m 61 #[.val (.int p0), .val (.int (1 : Int32)), .val (.ref a_TRUE), .val (.ref a_FALSE), .val (.ref a_TRUE)] [(.ref a_TRUE)])) rfl (by rw [hml]; rfl) (Steps.refl _) (argsL := []) (rest := []) (lenOf pd_4 rfl) rfl (by show 2 * 0 + _ ≤ _; exact Nat.le_of_eq rfl) (hb hby at_61) (fun _ _ => ⟨rfl, e13, (by decide : 0 + 0 ≤ _), (by decide : 0 + 0 ≤ _)⟩)
    dsimp only [Pt.U, Pt.locs, Pt.cells, Pt.slots] at X14 l14 y14 z14 st14 hQ14
    subst l14 y14 z14
    obtain ⟨rfl, N14q, e14⟩ := hQ14
    have N14 := Fr.app N12 N14q
    obtain ⟨T15, X15, e15, st15⟩ := getS2 X14 hx hZ0 hown0 (host := "") (Or.inl (hw _ (List.mem_of_getElem? (i := 18) rfl))) Via.refl e14 (hS.2.2.2.2.2.2.1.ext O0.2) (g := (mkF m 64 #[.val (.int p0), .val (.int (1 : Int32)), .val (.ref a_TRUE), .val (.ref a_FALSE), .val (.ref a_TRUE)] [(.ref a_BOOLEAN)])) rfl (hb hby at_64)
    obtain ⟨sa16, T16, h16, k16, X16, e16, E16, hS16, hk16, hZ16, hown16, st16⟩ := ldcS X15 hx hZ0 hown0 (hw _ (List.mem_of_getElem? (i := 19) rfl)) (own_wS hw) e15 hS0 hk0 (g := (mkF m 73 #[.val (.int p0), .val (.int (1 : Int32)), .val (.ref a_TRUE), .val (.ref a_FALSE), .val (.ref a_TRUE)] [(.ref a_TRUE)])) rfl (hb hby at_73) (n := 12) (by decide) (by decide) (by decide) (by decide)
    have O17 : Old Z n0 h16 := Old.ext O0 E16
    have hk18 := Nat.le_trans hk0 E16.1
    obtain ⟨cq19, kq19, q19a, q19b, q19c⟩ := isOf hZ16 e16 ((hS.2.2.1.ext O17.2))
    obtain ⟨_, _, ⟨T19, L19, k19, n19⟩, -, X19, ⟨Lc19, hQ19, l19, y19, z19⟩, st19⟩ := X16.virtualBackUpD hx (x := (⟨"com/example/iron_policy/ironpolicy/AttributeValue", "isTrue", "(Ljava/lang/String;)Z"⟩ : MethodName)) (y := (⟨"com/example/iron_policy/ironpolicy/ExpressionValue", "isTrue", "(Ljava/lang/String;)Z"⟩ : MethodName)) (owner := "com/example/iron_policy/ironpolicy/ExpressionValue") hown16 (mvT hZ16 (hw _ (List.mem_of_getElem? (i := 27) rfl))) (mvT hZ16 (hw _ (List.mem_of_getElem? (i := 28) rfl))) (mvT hZ16 (hw _ (List.mem_of_getElem? (i := 29) rfl))) (by decide) (mvD hZ16 (hw _ (List.mem_of_getElem? (i := 31) rfl))) (mvT hZ16 (hw _ (List.mem_of_getElem? (i := 30) rfl))) (own_backI (W := 0) (rm := ({ frames := 1, cells := 0, slots := 0, locals := 14 } : Room)) hx (fun X hb hl hr hk ho hz he => rm_ist_1 l Z a0 hw a_FALSE a_TRUE a_BOOLEAN v_a_FALSE v_a_TRUE hS h16 n0 O17 sa16 X hx hb hl hr hk ho hz he) (plainFor_of_name pn_2) hZ16 (hw _ (List.mem_of_getElem? (i := 35) rfl)) (by decide) (by decide)) q19a q19c (g := (mkF m 75 #[.val (.int p0), .val (.int (1 : Int32)), .val (.ref a_TRUE), .val (.ref a_FALSE), .val (.ref a_TRUE)] [(.ref sa16), (.ref a_TRUE)])) rfl (by rw [hml]; rfl) (Steps.refl _) (argsL := [(.ref sa16)]) (rest := []) (lenOf pd_5 rfl) rfl (by show 2 * 0 + _ ≤ _; exact Nat.le_of_eq rfl) (hb hby at_75) (fun _ _ => ⟨rfl, e16, (by decide : 2 + 0 ≤ _), (by decide : 16 + 0 ≤ _)⟩)
    dsimp only [Pt.U, Pt.locs, Pt.cells, Pt.slots] at X19 l19 y19 z19 st19 hQ19
    subst l19 y19 z19
    obtain ⟨rfl, N19q, e19⟩ := hQ19
    have N19 := Fr.app N14 N19q
    obtain ⟨fs, hr, hrun, hended, hEW⟩ := Jvm.Stand.leaveW X19 hS16 (by rw [e19]; exact hk16) (v := (some (.int (1 : Int32)))) (fun h => by rw [Bd.returns] at h; cases h)
    refine ⟨_, _, gp1 _ ?_, hrun, hended, _, _, rfl, ?_, ⟨_, rfl⟩, hEW.2.1, hEW.2.2.1, hEW.2.2.2.mono (by decide) (by decide)⟩
    · refine XS.ifNo X0.here hx rfl (hb hby at_3) rfl ((if0 _ _).trans (feq hc3).1) ?_
      show Steps p.tables e below (s₁.setTop (mkF m 6 #[.val (.int p0), .unset, .unset, .unset, .unset] [])) _
      refine XS.iconst X0.here hx rfl (hb hby at_6) ?_
      show Steps p.tables e below (s₁.setTop (mkF m 7 #[.val (.int p0), .unset, .unset, .unset, .unset] [(.int (1 : Int32))])) _
      refine XS.goto X0.here hx rfl (pc0 := 7) (pc' := 11) rfl (hb hby at_7) (by decide) (by decide) ?_
      show Steps p.tables e below (s₁.setTop (mkF m 11 #[.val (.int p0), .unset, .unset, .unset, .unset] [(.int (1 : Int32))])) _
      refine XS.istoreN X0.here hx rfl (hb hby at_11) rfl (l' := #[.val (.int p0), .val (.int (1 : Int32)), .unset, .unset, .unset]) rfl ?_
      show Steps p.tables e below (s₁.setTop (mkF m 12 #[.val (.int p0), .val (.int (1 : Int32)), .unset, .unset, .unset] [])) _
      refine XS.iloadN X0.here hx rfl (hb hby at_12) rfl ?_
      show Steps p.tables e below (s₁.setTop (mkF m 13 #[.val (.int p0), .val (.int (1 : Int32)), .unset, .unset, .unset] [(.int (1 : Int32))])) _
      refine st11 _ ?_
      show Steps p.tables e below (T11.setTop (mkF m 16 #[.val (.int p0), .val (.int (1 : Int32)), .unset, .unset, .unset] [(.ref a_TRUE)])) _
      refine XS.astoreN X11.here hx rfl (hb hby at_16) rfl rfl (l' := #[.val (.int p0), .val (.int (1 : Int32)), .val (.ref a_TRUE), .unset, .unset]) rfl ?_
      show Steps p.tables e below (T11.setTop (mkF m 17 #[.val (.int p0), .val (.int (1 : Int32)), .val (.ref a_TRUE), .unset, .unset] [])) _
      refine XS.iloadN X11.here hx rfl (hb hby at_17) rfl ?_
      show Steps p.tables e below (T11.setTop (mkF m 18 #[.val (.int p0), .val (.int (1 : Int32)), .val (.ref a_TRUE), .unset, .unset] [(.int (1 : Int32))])) _
      refine XS.ifYes X11.here hx rfl (pc0 := 18) (pc' := 25) rfl (hb hby at_18) rfl ((if0 _ _).trans (feq (by decide : ¬ ((1 : Int32) = (0 : Int32)))).2) (by decide) (by decide) ?_
      show Steps p.tables e below (T11.setTop (mkF m 25 #[.val (.int p0), .val (.int (1 : Int32)), .val (.ref a_TRUE), .unset, .unset] [])) _
      refine XS.iconst X11.here hx rfl (hb hby at_25) ?_
      show Steps p.tables e below (T11.setTop (mkF m 26 #[.val (.int p0), .val (.int (1 : Int32)), .val (.ref a_TRUE), .unset, .unset] [(.int (0 : Int32))])) _
      refine st12 _ ?_
      show Steps p.tables e below (T12.setTop (mkF m 29 #[.val (.int p0), .val (.int (1 : Int32)), .val (.ref a_TRUE), .unset, .unset] [(.ref a_FALSE)])) _
      refine XS.astoreN X12.here hx rfl (hb hby at_29) rfl rfl (l' := #[.val (.int p0), .val (.int (1 : Int32)), .val (.ref a_TRUE), .val (.ref a_FALSE), .unset]) rfl ?_
      show Steps p.tables e below (T12.setTop (mkF m 30 #[.val (.int p0), .val (.int (1 : Int32)), .val (.ref a_TRUE), .val (.ref a_FALSE), .unset] [])) _
      refine XS.iloadN X12.here hx rfl (hb hby at_30) rfl ?_
      show Steps p.tables e below (T12.setTop (mkF m 31 #[.val (.int p0), .val (.int (1 : Int32)), .val (.ref a_TRUE), .val (.ref a_FALSE), .unset] [(.int (1 : Int32))])) _
      refine XS.ifNo X12.here hx rfl (hb hby at_31) rfl ((if0 _ _).trans (feq (by decide : ¬ ((1 : Int32) = (0 : Int32)))).1) ?_
      show Steps p.tables e below (T12.setTop (mkF m 34 #[.val (.int p0), .val (.int (1 : Int32)), .val (.ref a_TRUE), .val (.ref a_FALSE), .unset] [])) _
      refine st13 _ ?_
      show Steps p.tables e below (T13.setTop (mkF m 37 #[.val (.int p0), .val (.int (1 : Int32)), .val (.ref a_TRUE), .val (.ref a_FALSE), .unset] [(.ref a_TRUE)])) _
      refine XS.goto X13.here hx rfl (pc0 := 37) (pc' := 43) rfl (hb hby at_37) (by decide) (by decide) ?_
      show Steps p.tables e below (T13.setTop (mkF m 43 #[.val (.int p0), .val (.int (1 : Int32)), .val (.ref a_TRUE), .val (.ref a_FALSE), .unset] [(.ref a_TRUE)])) _
      refine XS.astore X13.here hx rfl (hb hby at_43) rfl rfl (l' := #[.val (.int p0), .val (.int (1 : Int32)), .val (.ref a_TRUE), .val (.ref a_FALSE), .val (.ref a_TRUE)]) rfl ?_
      show Steps p.tables e below (T13.setTop (mkF m 45 #[.val (.int p0), .val (.int (1 : Int32)), .val (.ref a_TRUE), .val (.ref a_FALSE), .val (.ref a_TRUE)] [])) _
      refine XS.aloadN X13.here hx rfl (hb hby at_45) rfl rfl ?_
      show Steps p.tables e below (T13.setTop (mkF m 46 #[.val (.int p0), .val (.int (1 : Int32)), .val (.ref a_TRUE), .val (.ref a_FALSE), .val (.ref a_TRUE)] [(.ref a_TRUE)])) _
      refine XS.aload X13.here hx rfl (hb hby at_46) rfl rfl ?_
      show Steps p.tables e below (T13.setTop (mkF m 48 #[.val (.int p0), .val (.int (1 : Int32)), .val (.ref a_TRUE), .val (.ref a_FALSE), .val (.ref a_TRUE)] [(.ref a_TRUE), (.ref a_TRUE)])) _
      refine Jvm.RoadKit.acmp (g := (mkF m 48 #[.val (.int p0), .val (.int (1 : Int32)), .val (.ref a_TRUE), .val (.ref a_FALSE), .val (.ref a_TRUE)] [(.ref a_TRUE), (.ref a_TRUE)])) X13 hx rfl rfl rfl (pc0 := 48) (pc' := 53) (same := true) rfl (hb hby at_48) rfl (decide_eq_true rfl) (by decide) (by decide) ?_
      show Steps p.tables e below (T13.setTop (mkF m 53 #[.val (.int p0), .val (.int (1 : Int32)), .val (.ref a_TRUE), .val (.ref a_FALSE), .val (.ref a_TRUE)] [])) _
      refine XS.aloadN X13.here hx rfl (hb hby at_53) rfl rfl ?_
      show Steps p.tables e below (T13.setTop (mkF m 54 #[.val (.int p0), .val (.int (1 : Int32)), .val (.ref a_TRUE), .val (.ref a_FALSE), .val (.ref a_TRUE)] [(.ref a_TRUE)])) _
      refine XS.aloadN X13.here hx rfl (hb hby at_54) rfl rfl ?_
      show Steps p.tables e below (T13.setTop (mkF m 55 #[.val (.int p0), .val (.int (1 : Int32)), .val (.ref a_TRUE), .val (.ref a_FALSE), .val (.ref a_TRUE)] [(.ref a_FALSE), (.ref a_TRUE)])) _
      refine Jvm.RoadKit.acmp (g := (mkF m 55 #[.val (.int p0), .val (.int (1 : Int32)), .val (.ref a_TRUE), .val (.ref a_FALSE), .val (.ref a_TRUE)] [(.ref a_FALSE), (.ref a_TRUE)])) X13 hx rfl rfl rfl (pc0 := 55) (pc' := 60) (same := false) rfl (hb hby at_55) rfl (decide_eq_false fun q => (Ne.symm hS.2.2.2.2.1) (Value.ref.inj q)) (by decide) (by decide) ?_
      show Steps p.tables e below (T13.setTop (mkF m 60 #[.val (.int p0), .val (.int (1 : Int32)), .val (.ref a_TRUE), .val (.ref a_FALSE), .val (.ref a_TRUE)] [])) _
      refine XS.aloadN X13.here hx rfl (hb hby at_60) rfl rfl ?_
      show Steps p.tables e below (T13.setTop (mkF m 61 #[.val (.int p0), .val (.int (1 : Int32)), .val (.ref a_TRUE), .val (.ref a_FALSE), .val (.ref a_TRUE)] [(.ref a_TRUE)])) _
      refine st14.trans ?_
      show Steps p.tables e below (T14.setTop (mkF m 64 #[.val (.int p0), .val (.int (1 : Int32)), .val (.ref a_TRUE), .val (.ref a_FALSE), .val (.ref a_TRUE)] [(.ref a_BOOLEAN)])) _
      refine st15 _ ?_
      show Steps p.tables e below (T15.setTop (mkF m 67 #[.val (.int p0), .val (.int (1 : Int32)), .val (.ref a_TRUE), .val (.ref a_FALSE), .val (.ref a_TRUE)] [(.ref a_BOOLEAN), (.ref a_BOOLEAN)])) _
      refine Jvm.RoadKit.acmp (g := (mkF m 67 #[.val (.int p0), .val (.int (1 : Int32)), .val (.ref a_TRUE), .val (.ref a_FALSE), .val (.ref a_TRUE)] [(.ref a_BOOLEAN), (.ref a_BOOLEAN)])) X15 hx rfl rfl rfl (pc0 := 67) (pc' := 72) (same := true) rfl (hb hby at_67) rfl (decide_eq_true rfl) (by decide) (by decide) ?_
      show Steps p.tables e below (T15.setTop (mkF m 72 #[.val (.int p0), .val (.int (1 : Int32)), .val (.ref a_TRUE), .val (.ref a_FALSE), .val (.ref a_TRUE)] [])) _
      refine XS.aloadN X15.here hx rfl (hb hby at_72) rfl rfl ?_
      show Steps p.tables e below (T15.setTop (mkF m 73 #[.val (.int p0), .val (.int (1 : Int32)), .val (.ref a_TRUE), .val (.ref a_FALSE), .val (.ref a_TRUE)] [(.ref a_TRUE)])) _
      refine st16 _ ?_
      show Steps p.tables e below (T16.setTop (mkF m 75 #[.val (.int p0), .val (.int (1 : Int32)), .val (.ref a_TRUE), .val (.ref a_FALSE), .val (.ref a_TRUE)] [(.ref sa16), (.ref a_TRUE)])) _
      refine st19.trans ?_
      show Steps p.tables e below (T19.setTop (mkF m 78 #[.val (.int p0), .val (.int (1 : Int32)), .val (.ref a_TRUE), .val (.ref a_FALSE), .val (.ref a_TRUE)] [(.int (1 : Int32))])) _
      refine XS.iloadN X19.here hx rfl (hb hby at_78) rfl ?_
      show Steps p.tables e below (T19.setTop (mkF m 79 #[.val (.int p0), .val (.int (1 : Int32)), .val (.ref a_TRUE), .val (.ref a_FALSE), .val (.ref a_TRUE)] [(.int (1 : Int32)), (.int (1 : Int32))])) _
      refine XS.icmpNo X19.here hx rfl (hb hby at_79) rfl (teq (by decide : (1 : Int32) = (1 : Int32))).2 ?_
      show Steps p.tables e below (T19.setTop (mkF m 82 #[.val (.int p0), .val (.int (1 : Int32)), .val (.ref a_TRUE), .val (.ref a_FALSE), .val (.ref a_TRUE)] [])) _
      refine XS.iconst X19.here hx rfl (hb hby at_82) ?_
      show Steps p.tables e below (T19.setTop (mkF m 83 #[.val (.int p0), .val (.int (1 : Int32)), .val (.ref a_TRUE), .val (.ref a_FALSE), .val (.ref a_TRUE)] [(.int (1 : Int32))])) _
      refine XS.goto X19.here hx rfl (pc0 := 83) (pc' := 87) rfl (hb hby at_83) (by decide) (by decide) ?_
      show Steps p.tables e below (T19.setTop (mkF m 87 #[.val (.int p0), .val (.int (1 : Int32)), .val (.ref a_TRUE), .val (.ref a_FALSE), .val (.ref a_TRUE)] [(.int (1 : Int32))])) _
      exact retN X19 hx (t := .boolean) Bd.returns (by simp) (hb hby at_87) hr
    · show Q0 n0 _ T19.heap _
      rw [e19]
      exact ⟨rfl, N19⟩
set_option maxRecDepth 65536 in
set_option maxHeartbeats 40000000 in
theorem comes_1 {Post : Tables → Env → Array Value → State → Outcome → State → Prop} (hpost : ∀ tb e args s v u, (limb_1_1.after args s (.returned v) u = true ∧ limb_1_2.after args s (.returned v) u = true ∧ True) → ReturnedEndW s (.returned v) u (Jvm.fieldLocs frame_1_writes args s ++ Jvm.arrayLocs frame_1_arrays args s ++ Jvm.staticLocs frame_1_statics s) 8 1088 → Post tb e args s (.returned v) u) :
    ArmFor flags0 classFile x code maxLocals ret World_1 tables_1 room_1 Calls_1 rest_1 Pre_1 Post := by
  intro l hfl _ _ p e ha hc hk s m args below hf hA hF happ hP
  obtain ⟨hcalls, hrest, hpre⟩ := hP
  obtain ⟨-, -, -, hnamed, -, -, -, hat⟩ := (Spec.applies_iff hf).mp happ
  obtain ⟨hg, hn⟩ := and_e (Cond.before_iff.mp (show (Jvm.Cond.and given_1 narrow_1).before args s = true from hpre))
  obtain ⟨g0, r0⟩ := and_e hg
  obtain ⟨w0, rfl⟩ : ∃ w0 : Value, args = #[w0] := by
    have hs : args.size = 1 := by simpa [Cond.value, given_1] using g0
    obtain ⟨L⟩ := args
    match L, hs with
    | [w0], _ => exact ⟨w0, rfl⟩
  have hw := fun d (hd : d ∈ tables_1) => atoms_spec (ws := Jvm.Cond.code x code maxLocals ret :: tables_1) hat d (List.mem_cons_of_mem _ hd)
  have hfit : Fit s := fun {y c} hc i hi => by
    obtain ⟨ha, rfl⟩ := Array.getElem?_eq_some_iff.mp hc
    have q := List.all_eq_true.mp ((Array.all_eq_true_iff_forall_mem.mp hF) _ (Array.getElem_mem ha)) i (List.mem_range.mpr hi)
    simpa [Array.getElem?_eq_getElem hi] using q
  obtain ⟨i0, ei0⟩ := is_v r0
  obtain rfl : w0 = (.int i0) := Option.some.inj ei0
  obtain ⟨n0, m0⟩ := and_e hn
  obtain ⟨n1, m1⟩ := and_e m0
  obtain ⟨n2, m2⟩ := and_e m1
  obtain ⟨n3, m3⟩ := and_e m2
  obtain ⟨n4, m4⟩ := and_e m3
  obtain ⟨n5, m5⟩ := and_e m4
  obtain ⟨n6, m6⟩ := and_e m5
  obtain ⟨n7, m7⟩ := and_e m6
  obtain ⟨n8, m8⟩ := and_e m7
  obtain ⟨a_FALSE, ev_a_FALSE⟩ := exa_v n0
  have E_a_FALSE : Exa s s.heap a_FALSE "com/example/iron_policy/ironpolicy/AttributeValue" := Exa.start ev_a_FALSE n0
  have S_a_FALSE : Sta s s.heap "com/example/iron_policy/ironpolicy/AttributeValue" "FALSE" "Lcom/example/iron_policy/ironpolicy/AttributeValue;" (.ref a_FALSE) := Sta.start ev_a_FALSE (Or.inr ⟨(hw _ (List.mem_of_getElem? (i := 2) rfl)), (hw _ (List.mem_of_getElem? (i := 5) rfl))⟩)
  obtain ⟨a_TRUE, ev_a_TRUE⟩ := exa_v n1
  have E_a_TRUE : Exa s s.heap a_TRUE "com/example/iron_policy/ironpolicy/AttributeValue" := Exa.start ev_a_TRUE n1
  have S_a_TRUE : Sta s s.heap "com/example/iron_policy/ironpolicy/AttributeValue" "TRUE" "Lcom/example/iron_policy/ironpolicy/AttributeValue;" (.ref a_TRUE) := Sta.start ev_a_TRUE (Or.inr ⟨(hw _ (List.mem_of_getElem? (i := 2) rfl)), (hw _ (List.mem_of_getElem? (i := 7) rfl))⟩)
  have ne_a_FALSE_a_TRUE : a_FALSE ≠ a_TRUE := own_ne_ref n2 ev_a_FALSE ev_a_TRUE
  obtain ⟨a_BOOLEAN, ev_a_BOOLEAN⟩ := exa_v n3
  have E_a_BOOLEAN : Exa s s.heap a_BOOLEAN "com/example/iron_policy/ironpolicy/DataType" := Exa.start ev_a_BOOLEAN n3
  have S_a_BOOLEAN : Sta s s.heap "com/example/iron_policy/ironpolicy/DataType" "BOOLEAN" "Lcom/example/iron_policy/ironpolicy/DataType;" (.ref a_BOOLEAN) := Sta.start ev_a_BOOLEAN (Or.inr ⟨(hw _ (List.mem_of_getElem? (i := 16) rfl)), (hw _ (List.mem_of_getElem? (i := 17) rfl))⟩)
  have F_dataType_a_FALSE : Fld s s.heap a_FALSE "com/example/iron_policy/ironpolicy/AttributeValue" "dataType" "Lcom/example/iron_policy/ironpolicy/DataType;" (.ref a_BOOLEAN) := own_fld_ref n4 ev_a_FALSE ev_a_BOOLEAN
  obtain ⟨v_a_FALSE, ev_v_a_FALSE⟩ := exa_v n5
  have E_v_a_FALSE : Exa s s.heap v_a_FALSE "java/lang/Boolean" := Exa.start ev_v_a_FALSE n5
  have F_value_a_FALSE : Fld s s.heap a_FALSE "com/example/iron_policy/ironpolicy/AttributeValue" "value" "Ljava/lang/Object;" (.ref v_a_FALSE) := Fld.start ((fld_at ev_a_FALSE).symm.trans ev_v_a_FALSE)
  have F_value_v_a_FALSE : Fld s s.heap v_a_FALSE "java/lang/Boolean" "value" "Z" (.int (0 : Int32)) := Fld.start ((fld_at ev_v_a_FALSE).symm.trans (Cond.eq_int (Cond.before_iff.mpr n6) rfl))
  have F_dataType_a_TRUE : Fld s s.heap a_TRUE "com/example/iron_policy/ironpolicy/AttributeValue" "dataType" "Lcom/example/iron_policy/ironpolicy/DataType;" (.ref a_BOOLEAN) := own_fld_ref n7 ev_a_TRUE ev_a_BOOLEAN
  obtain ⟨v_a_TRUE, ev_v_a_TRUE⟩ := exa_v n8
  have E_v_a_TRUE : Exa s s.heap v_a_TRUE "java/lang/Boolean" := Exa.start ev_v_a_TRUE n8
  have F_value_a_TRUE : Fld s s.heap a_TRUE "com/example/iron_policy/ironpolicy/AttributeValue" "value" "Ljava/lang/Object;" (.ref v_a_TRUE) := Fld.start ((fld_at ev_a_TRUE).symm.trans ev_v_a_TRUE)
  have F_value_v_a_TRUE : Fld s s.heap v_a_TRUE "java/lang/Boolean" "value" "Z" (.int (1 : Int32)) := Fld.start ((fld_at ev_v_a_TRUE).symm.trans (Cond.eq_int (Cond.before_iff.mpr m8) rfl))
  obtain ⟨n, o, h1, h2, h3, _, L, rfl, ⟨rfl, N⟩, hq⟩ := rm0 l s _ hw tables_1 a_FALSE a_TRUE a_BOOLEAN v_a_FALSE v_a_TRUE ⟨E_a_FALSE, S_a_FALSE, E_a_TRUE, S_a_TRUE, ne_a_FALSE_a_TRUE, E_a_BOOLEAN, S_a_BOOLEAN, F_dataType_a_FALSE, E_v_a_FALSE, F_value_a_FALSE, F_value_v_a_FALSE, F_dataType_a_TRUE, E_v_a_TRUE, F_value_a_TRUE, F_value_v_a_TRUE⟩ i0 s.heap s.heap.size (Old.start s) p e ha hc hk s m _ below hf ((Spec.applies_iff_loose hf).mp happ).1 ⟨rfl, State.Warmed39.refl s, rfl⟩ trivial
  refine ⟨n, _, h1, h2, h3, hpost _ _ _ _ _ _ ⟨Cond.after_iff.mpr rfl, Cond.after_iff.mpr (eq_i res_at (Term.int_eval (1)) rfl), trivial⟩ ⟨hq.1, hq.2.1, hq.2.2.1, (hq.2.2.2.sift fun y hy => Or.inr (N y hy)).mono (by decide) (by decide)⟩⟩
theorem main_1_1 : Claimed_1_1 := comes_1 fun _ _ _ _ _ _ h hF => ⟨h.1, hF⟩
theorem main_1_2 : Claimed_1_2 := comes_1 fun _ _ _ _ _ _ h hF => ⟨h.2.1, hF⟩
end Jvm.Pilot.@@N@@
-- the witness, by the kit's program
namespace Jvm.Pilot.@@N@@
open Jvm Jvm.ClassFile Sem Op Lib Jvm.Free Jvm.Stand Jvm.Pilot.@@N@@.Jvm.D
/-! MADE BY PROGRAM (witnessworld.py) out of the Statement's table words and the real class files: 20 classes; the members and pool entries that the words name. The judged class is class 1, her method 1. -/
namespace start1
open Jvm.ClassFile
def u (s : String) : CpInfo := .utf8 (stringToUtf16 s)
/-- a pool by its gaps: so many unusable entries, then the entry; so many at the end -/
def gap : Nat → List CpInfo → List CpInfo
  | 0, r => r
  | n + 1, r => .unusable :: gap n r
def poolList (es : List (Nat × CpInfo)) (last : Nat) : List CpInfo := es.foldr (fun e r => gap e.1 (e.2 :: r)) (gap last [])
def pool (es : List (Nat × CpInfo)) (last : Nat) : Array CpInfo := ⟨poolList es last⟩
def fileOf (pool : Array CpInfo) (this : Nat) (attrs : Array Attribute := #[]) (ms : Array MethodInfo := #[]) (fl : Nat := 33) (sup : Nat := 0) (ifs : Array Nat := #[]) (fds : Array FieldInfo := #[]) : ClassFile where
  minorVersion := 0
  majorVersion := 65
  constantPool := pool
  accessFlags := fl
  thisClass := this
  superClass := sup
  interfaces := ifs
  fields := fds
  methods := ms
  attributes := attrs
def plain (name : String) (sup : Option ClassId) : Class where
  name := name
  kind := .ordinary
  loader := none
  accessFlags := 33
  super := sup
  interfaces := #[]
  cf := none
  fields := #[]
  methods := #[]
  instanceTypes := #[]
  staticTypes := #[]
  resolved := #[]
  callSites := []
  init := .initialized
  statics := none
  mirror := none

def pool0 : Array CpInfo := pool [(5, u "<init>"), (0, u "()V"), (1, .class_ 10), (1, u "java/lang/Object")] 113

def k0m0 : Method := { name := "<init>", desc := "()V", sig := { parameters := [], returnType := none }, accessFlags := 1, code := none }
/-- java/lang/Object -/
def k0 : Class := { plain "java/lang/Object" none with
  accessFlags := 33
  interfaces := #[]
  cf := some (fileOf pool0 8 #[] #[{ accessFlags := 1, nameIndex := 5, descriptorIndex := 6, attributes := #[] }] 33 0 #[] #[])
  fields := #[]
  methods := #[k0m0]
  instanceTypes := #[]
  staticTypes := #[]
  resolved := Array.replicate 124 none
  statics := none }

def pool1 : Array CpInfo := pool [(2, .class_ 4), (1, u "java/lang/Object"), (0, u "<init>"), (0, u "()V"), (0, .methodref 8 9), (0, .class_ 10), (0, .nameAndType 11 12), (0, u "com/example/iron_policy/ironpolicy/AttributeValue"), (0, u "of"), (0, u "(Z)Lcom/example/iron_policy/ironpolicy/AttributeValue;"), (0, .fieldref 8 14), (0, .nameAndType 15 16), (0, u "TRUE"), (0, u "Lcom/example/iron_policy/ironpolicy/AttributeValue;"), (0, .fieldref 8 18), (0, .nameAndType 19 16), (0, u "FALSE"), (0, .methodref 8 21), (0, .nameAndType 22 23), (0, u "dataType"), (0, u "()Lcom/example/iron_policy/ironpolicy/DataType;"), (0, .fieldref 25 26), (0, .class_ 27), (0, .nameAndType 28 29), (0, u "com/example/iron_policy/ironpolicy/DataType"), (0, u "BOOLEAN"), (0, u "Lcom/example/iron_policy/ironpolicy/DataType;"), (0, .string 31), (0, u "law"), (0, .methodref 8 33), (0, .nameAndType 34 35), (0, u "isTrue"), (0, u "(Ljava/lang/String;)Z"), (0, .class_ 37), (0, u "com/example/iron_policy/ironpolicy/AttributeValueOfPinLaw"), (2, u "(I)Z")] 6

def k1m0 : Method := { name := "<init>", desc := "()V", sig := { parameters := [], returnType := none }, accessFlags := 1, code := none }
def k1c1 : Code := { maxStack := 2, maxLocals := 5, code := code, exceptionTable := #[], attributes := #[] }
def k1m1 : Method := { name := "law", desc := "(I)Z", sig := { parameters := [.int], returnType := some .boolean }, accessFlags := 9, code := some k1c1 }
/-- com/example/iron_policy/ironpolicy/AttributeValueOfPinLaw -/
def k1 : Class := { plain "com/example/iron_policy/ironpolicy/AttributeValueOfPinLaw" (some 0) with
  accessFlags := 49
  interfaces := #[]
  cf := some (fileOf pool1 36 #[] #[{ accessFlags := 1, nameIndex := 5, descriptorIndex := 6, attributes := #[] }, { accessFlags := 9, nameIndex := 31, descriptorIndex := 40, attributes := #[] }] 49 2 #[] #[])
  fields := #[]
  methods := #[k1m0, k1m1]
  instanceTypes := #[]
  staticTypes := #[]
  resolved := Array.replicate 47 none
  statics := none }

def pool2 : Array CpInfo := pool [(2, .class_ 4), (1, u "java/lang/Object"), (0, u "<init>"), (0, u "()V"), (0, .class_ 8), (0, u "java/lang/Record")] 13

def k2m0 : Method := { name := "<init>", desc := "()V", sig := { parameters := [], returnType := none }, accessFlags := 4, code := none }
/-- java/lang/Record -/
def k2 : Class := { plain "java/lang/Record" (some 0) with
  accessFlags := 1057
  interfaces := #[]
  cf := some (fileOf pool2 7 #[] #[{ accessFlags := 4, nameIndex := 5, descriptorIndex := 6, attributes := #[] }] 1057 2 #[] #[])
  fields := #[]
  methods := #[k2m0]
  instanceTypes := #[]
  staticTypes := #[]
  resolved := Array.replicate 22 none
  statics := none }

def pool3 : Array CpInfo := pool [(1, .class_ 2), (0, u "com/example/iron_policy/ironpolicy/Expression"), (0, .class_ 4), (0, u "java/lang/Object")] 16

/-- com/example/iron_policy/ironpolicy/Expression -/
def k3 : Class := { plain "com/example/iron_policy/ironpolicy/Expression" (some 0) with
  accessFlags := 1537
  interfaces := #[]
  cf := some (fileOf pool3 1 #[] #[] 1537 3 #[] #[])
  fields := #[]
  methods := #[]
  instanceTypes := #[]
  staticTypes := #[]
  resolved := Array.replicate 21 none
  statics := none }

def pool4 : Array CpInfo := pool [(1, .fieldref 2 3), (0, .class_ 4), (0, .nameAndType 5 6), (0, u "com/example/iron_policy/ironpolicy/DataType"), (0, u "BOOLEAN"), (0, u "Lcom/example/iron_policy/ironpolicy/DataType;"), (0, .interfaceMethodref 8 9), (0, .class_ 10), (0, .nameAndType 11 12), (0, u "com/example/iron_policy/ironpolicy/ExpressionValue"), (0, u "single"), (0, u "(Lcom/example/iron_policy/ironpolicy/DataType;Ljava/lang/String;)Lcom/example/iron_policy/ironpolicy/AttributeValue;"), (0, .methodref 14 15), (0, .class_ 16), (0, .nameAndType 17 18), (0, u "com/example/iron_policy/ironpolicy/AttributeValue"), (0, u "value"), (0, u "()Ljava/lang/Object;"), (0, .class_ 20), (0, u "java/lang/Boolean"), (0, .methodref 19 22), (0, .nameAndType 23 24), (0, u "booleanValue"), (0, u "()Z"), (0, .class_ 26), (0, u "java/lang/Object"), (5, u "isTrue"), (0, u "(Ljava/lang/String;)Z")] 7

def k4m0 : Method := { name := "single", desc := "(Lcom/example/iron_policy/ironpolicy/DataType;Ljava/lang/String;)Lcom/example/iron_policy/ironpolicy/AttributeValue;", sig := { parameters := [(.object "com/example/iron_policy/ironpolicy/DataType"), (.object "java/lang/String")], returnType := some (.object "com/example/iron_policy/ironpolicy/AttributeValue") }, accessFlags := 1025, code := none }
def k4c1 : Code := { maxStack := 3, maxLocals := 2, code := prog_19_method_3_code, exceptionTable := #[], attributes := #[] }
def k4m1 : Method := { name := "isTrue", desc := "(Ljava/lang/String;)Z", sig := { parameters := [(.object "java/lang/String")], returnType := some .boolean }, accessFlags := 1, code := some k4c1 }
/-- com/example/iron_policy/ironpolicy/ExpressionValue -/
def k4 : Class := { plain "com/example/iron_policy/ironpolicy/ExpressionValue" (some 0) with
  accessFlags := 1537
  interfaces := #[]
  cf := some (fileOf pool4 8 #[] #[{ accessFlags := 1025, nameIndex := 11, descriptorIndex := 12, attributes := #[] }, { accessFlags := 1, nameIndex := 32, descriptorIndex := 33, attributes := #[] }] 1537 25 #[] #[])
  fields := #[]
  methods := #[k4m0, k4m1]
  instanceTypes := #[]
  staticTypes := #[]
  resolved := Array.replicate 41 none
  statics := none }

def pool5 : Array CpInfo := pool [(2, .class_ 4), (1, u "java/lang/Record"), (2, .fieldref 8 9), (0, .class_ 10), (0, .nameAndType 11 12), (0, u "com/example/iron_policy/ironpolicy/AttributeValue"), (0, u "dataType"), (0, u "Lcom/example/iron_policy/ironpolicy/DataType;"), (0, .fieldref 8 14), (0, .nameAndType 15 16), (0, u "value"), (0, u "Ljava/lang/Object;"), (0, .fieldref 8 18), (0, .nameAndType 19 20), (0, u "TRUE"), (0, u "Lcom/example/iron_policy/ironpolicy/AttributeValue;"), (0, .fieldref 8 22), (0, .nameAndType 23 20), (0, u "FALSE"), (43, .class_ 68), (0, u "com/example/iron_policy/ironpolicy/Expression"), (0, .class_ 70), (0, u "com/example/iron_policy/ironpolicy/ExpressionValue"), (3, u "of"), (0, u "(Z)Lcom/example/iron_policy/ironpolicy/AttributeValue;"), (3, u "single"), (0, u "(Lcom/example/iron_policy/ironpolicy/DataType;Ljava/lang/String;)Lcom/example/iron_policy/ironpolicy/AttributeValue;"), (5, u "()Lcom/example/iron_policy/ironpolicy/DataType;"), (0, u "()Ljava/lang/Object;")] 32

def k5c0 : Code := { maxStack := 1, maxLocals := 1, code := prog_6_method_2_code, exceptionTable := #[], attributes := #[] }
def k5m0 : Method := { name := "of", desc := "(Z)Lcom/example/iron_policy/ironpolicy/AttributeValue;", sig := { parameters := [.boolean], returnType := some (.object "com/example/iron_policy/ironpolicy/AttributeValue") }, accessFlags := 9, code := some k5c0 }
def k5c1 : Code := { maxStack := 5, maxLocals := 3, code := prog_6_method_4_code, exceptionTable := #[], attributes := #[] }
def k5m1 : Method := { name := "single", desc := "(Lcom/example/iron_policy/ironpolicy/DataType;Ljava/lang/String;)Lcom/example/iron_policy/ironpolicy/AttributeValue;", sig := { parameters := [(.object "com/example/iron_policy/ironpolicy/DataType"), (.object "java/lang/String")], returnType := some (.object "com/example/iron_policy/ironpolicy/AttributeValue") }, accessFlags := 1, code := some k5c1 }
def k5c2 : Code := { maxStack := 1, maxLocals := 1, code := prog_6_method_9_code, exceptionTable := #[], attributes := #[] }
def k5m2 : Method := { name := "dataType", desc := "()Lcom/example/iron_policy/ironpolicy/DataType;", sig := { parameters := [], returnType := some (.object "com/example/iron_policy/ironpolicy/DataType") }, accessFlags := 1, code := some k5c2 }
def k5c3 : Code := { maxStack := 1, maxLocals := 1, code := prog_6_method_10_code, exceptionTable := #[], attributes := #[] }
def k5m3 : Method := { name := "value", desc := "()Ljava/lang/Object;", sig := { parameters := [], returnType := some (.object "java/lang/Object") }, accessFlags := 1, code := some k5c3 }
/-- com/example/iron_policy/ironpolicy/AttributeValue -/
def k5 : Class := { plain "com/example/iron_policy/ironpolicy/AttributeValue" (some 2) with
  accessFlags := 49
  interfaces := #[3, 4]
  cf := some (fileOf pool5 8 #[] #[{ accessFlags := 9, nameIndex := 74, descriptorIndex := 75, attributes := #[] }, { accessFlags := 1, nameIndex := 79, descriptorIndex := 80, attributes := #[] }, { accessFlags := 1, nameIndex := 11, descriptorIndex := 86, attributes := #[] }, { accessFlags := 1, nameIndex := 15, descriptorIndex := 87, attributes := #[] }] 49 2 #[67, 69] #[{ accessFlags := 18, nameIndex := 11, descriptorIndex := 12, attributes := #[] }, { accessFlags := 18, nameIndex := 15, descriptorIndex := 16, attributes := #[] }, { accessFlags := 25, nameIndex := 19, descriptorIndex := 20, attributes := #[] }, { accessFlags := 25, nameIndex := 23, descriptorIndex := 20, attributes := #[] }])
  fields := #[{ name := "dataType", type := (.object "com/example/iron_policy/ironpolicy/DataType"), accessFlags := 18, slot := 0, constantValue := 0 }, { name := "value", type := (.object "java/lang/Object"), accessFlags := 18, slot := 1, constantValue := 0 }, { name := "TRUE", type := (.object "com/example/iron_policy/ironpolicy/AttributeValue"), accessFlags := 25, slot := 0, constantValue := 0 }, { name := "FALSE", type := (.object "com/example/iron_policy/ironpolicy/AttributeValue"), accessFlags := 25, slot := 1, constantValue := 0 }]
  methods := #[k5m0, k5m1, k5m2, k5m3]
  instanceTypes := #[(.object "com/example/iron_policy/ironpolicy/DataType"), (.object "java/lang/Object")]
  staticTypes := #[(.object "com/example/iron_policy/ironpolicy/AttributeValue"), (.object "com/example/iron_policy/ironpolicy/AttributeValue")]
  resolved := Array.replicate 120 none
  statics := some 0 }

def pool6 : Array CpInfo := pool [(1, .class_ 2), (0, u "java/lang/constant/Constable"), (0, .class_ 4), (0, u "java/lang/Object")] 6

/-- java/lang/constant/Constable -/
def k6 : Class := { plain "java/lang/constant/Constable" (some 0) with
  accessFlags := 1537
  interfaces := #[]
  cf := some (fileOf pool6 1 #[] #[] 1537 3 #[] #[])
  fields := #[]
  methods := #[]
  instanceTypes := #[]
  staticTypes := #[]
  resolved := Array.replicate 11 none
  statics := none }

def pool7 : Array CpInfo := pool [(1, .class_ 2), (0, u "java/lang/Comparable"), (0, .class_ 4), (0, u "java/lang/Object")] 7

/-- java/lang/Comparable -/
def k7 : Class := { plain "java/lang/Comparable" (some 0) with
  accessFlags := 1537
  interfaces := #[]
  cf := some (fileOf pool7 1 #[] #[] 1537 3 #[] #[])
  fields := #[]
  methods := #[]
  instanceTypes := #[]
  staticTypes := #[]
  resolved := Array.replicate 12 none
  statics := none }

def pool8 : Array CpInfo := pool [(1, .class_ 2), (0, u "java/io/Serializable"), (0, .class_ 4), (0, u "java/lang/Object")] 2

/-- java/io/Serializable -/
def k8 : Class := { plain "java/io/Serializable" (some 0) with
  accessFlags := 1537
  interfaces := #[]
  cf := some (fileOf pool8 1 #[] #[] 1537 3 #[] #[])
  fields := #[]
  methods := #[]
  instanceTypes := #[]
  staticTypes := #[]
  resolved := Array.replicate 7 none
  statics := none }

def pool9 : Array CpInfo := pool [(2, .class_ 4), (1, u "java/lang/Enum"), (0, u "name"), (0, u "Ljava/lang/String;"), (2, u "ordinal"), (0, u "I"), (1, .class_ 14), (1, u "java/lang/Object"), (4, u "hash"), (86, .class_ 108), (1, u "java/lang/Enum$EnumDesc"), (2, .class_ 112), (0, u "java/lang/constant/Constable"), (0, .class_ 114), (0, u "java/lang/Comparable"), (0, .class_ 116), (0, u "java/io/Serializable")] 87

/-- java/lang/Enum -/
def k9 : Class := { plain "java/lang/Enum" (some 0) with
  accessFlags := 1057
  interfaces := #[6, 7, 8]
  cf := some (fileOf pool9 2 #[.nestMembers #[106]] #[] 1057 12 #[111, 113, 115] #[{ accessFlags := 18, nameIndex := 5, descriptorIndex := 6, attributes := #[] }, { accessFlags := 18, nameIndex := 9, descriptorIndex := 10, attributes := #[] }, { accessFlags := 2, nameIndex := 19, descriptorIndex := 10, attributes := #[] }])
  fields := #[{ name := "name", type := (.object "java/lang/String"), accessFlags := 18, slot := 0, constantValue := 0 }, { name := "ordinal", type := .int, accessFlags := 18, slot := 1, constantValue := 0 }, { name := "hash", type := .int, accessFlags := 2, slot := 2, constantValue := 0 }]
  methods := #[]
  instanceTypes := #[(.object "java/lang/String"), .int, .int]
  staticTypes := #[]
  resolved := Array.replicate 204 none
  statics := none }

def pool10 : Array CpInfo := pool [(1, .class_ 2), (0, u "com/example/iron_policy/ironpolicy/DataType"), (2, u "STRING"), (0, u "Lcom/example/iron_policy/ironpolicy/DataType;"), (2, u "INTEGER"), (2, u "BOOLEAN"), (2, u "DOUBLE"), (2, u "DATE"), (2, u "TIME"), (2, u "DATE_TIME"), (2, u "DAY_TIME_DURATION"), (2, u "YEAR_MONTH_DURATION"), (2, u "ANY_URI"), (2, u "HEX_BINARY"), (2, u "BASE64_BINARY"), (2, u "RFC822_NAME"), (2, u "X500_NAME"), (2, u "DNS_NAME"), (2, u "IP_ADDRESS"), (2, u "$VALUES"), (0, u "[Lcom/example/iron_policy/ironpolicy/DataType;"), (6, .class_ 64), (1, u "java/lang/Enum"), (8, u "id"), (0, u "Ljava/lang/String;"), (18, u "shortName"), (6, u "functionPrefix"), (17, u "XML_WHITESPACE"), (0, u "Ljava/util/regex/Pattern;"), (29, u "INTEGER_FORM"), (11, u "BOOLEAN_FORM"), (2, u "TRUE_FORMS"), (0, u "Ljava/util/Set;")] 210

/-- com/example/iron_policy/ironpolicy/DataType -/
def k10 : Class := { plain "com/example/iron_policy/ironpolicy/DataType" (some 9) with
  accessFlags := 16433
  interfaces := #[]
  cf := some (fileOf pool10 1 #[] #[] 16433 62 #[] #[{ accessFlags := 16409, nameIndex := 5, descriptorIndex := 6, attributes := #[] }, { accessFlags := 16409, nameIndex := 9, descriptorIndex := 6, attributes := #[] }, { accessFlags := 16409, nameIndex := 12, descriptorIndex := 6, attributes := #[] }, { accessFlags := 16409, nameIndex := 15, descriptorIndex := 6, attributes := #[] }, { accessFlags := 16409, nameIndex := 18, descriptorIndex := 6, attributes := #[] }, { accessFlags := 16409, nameIndex := 21, descriptorIndex := 6, attributes := #[] }, { accessFlags := 16409, nameIndex := 24, descriptorIndex := 6, attributes := #[] }, { accessFlags := 16409, nameIndex := 27, descriptorIndex := 6, attributes := #[] }, { accessFlags := 16409, nameIndex := 30, descriptorIndex := 6, attributes := #[] }, { accessFlags := 16409, nameIndex := 33, descriptorIndex := 6, attributes := #[] }, { accessFlags := 16409, nameIndex := 36, descriptorIndex := 6, attributes := #[] }, { accessFlags := 16409, nameIndex := 39, descriptorIndex := 6, attributes := #[] }, { accessFlags := 16409, nameIndex := 42, descriptorIndex := 6, attributes := #[] }, { accessFlags := 16409, nameIndex := 45, descriptorIndex := 6, attributes := #[] }, { accessFlags := 16409, nameIndex := 48, descriptorIndex := 6, attributes := #[] }, { accessFlags := 16409, nameIndex := 51, descriptorIndex := 6, attributes := #[] }, { accessFlags := 26, nameIndex := 149, descriptorIndex := 119, attributes := #[] }, { accessFlags := 26, nameIndex := 161, descriptorIndex := 119, attributes := #[] }, { accessFlags := 26, nameIndex := 164, descriptorIndex := 165, attributes := #[] }, { accessFlags := 26, nameIndex := 118, descriptorIndex := 119, attributes := #[] }, { accessFlags := 18, nameIndex := 93, descriptorIndex := 74, attributes := #[] }, { accessFlags := 18, nameIndex := 73, descriptorIndex := 74, attributes := #[] }, { accessFlags := 18, nameIndex := 100, descriptorIndex := 74, attributes := #[] }, { accessFlags := 4122, nameIndex := 54, descriptorIndex := 55, attributes := #[] }])
  fields := #[{ name := "STRING", type := (.object "com/example/iron_policy/ironpolicy/DataType"), accessFlags := 16409, slot := 0, constantValue := 0 }, { name := "INTEGER", type := (.object "com/example/iron_policy/ironpolicy/DataType"), accessFlags := 16409, slot := 1, constantValue := 0 }, { name := "BOOLEAN", type := (.object "com/example/iron_policy/ironpolicy/DataType"), accessFlags := 16409, slot := 2, constantValue := 0 }, { name := "DOUBLE", type := (.object "com/example/iron_policy/ironpolicy/DataType"), accessFlags := 16409, slot := 3, constantValue := 0 }, { name := "DATE", type := (.object "com/example/iron_policy/ironpolicy/DataType"), accessFlags := 16409, slot := 4, constantValue := 0 }, { name := "TIME", type := (.object "com/example/iron_policy/ironpolicy/DataType"), accessFlags := 16409, slot := 5, constantValue := 0 }, { name := "DATE_TIME", type := (.object "com/example/iron_policy/ironpolicy/DataType"), accessFlags := 16409, slot := 6, constantValue := 0 }, { name := "DAY_TIME_DURATION", type := (.object "com/example/iron_policy/ironpolicy/DataType"), accessFlags := 16409, slot := 7, constantValue := 0 }, { name := "YEAR_MONTH_DURATION", type := (.object "com/example/iron_policy/ironpolicy/DataType"), accessFlags := 16409, slot := 8, constantValue := 0 }, { name := "ANY_URI", type := (.object "com/example/iron_policy/ironpolicy/DataType"), accessFlags := 16409, slot := 9, constantValue := 0 }, { name := "HEX_BINARY", type := (.object "com/example/iron_policy/ironpolicy/DataType"), accessFlags := 16409, slot := 10, constantValue := 0 }, { name := "BASE64_BINARY", type := (.object "com/example/iron_policy/ironpolicy/DataType"), accessFlags := 16409, slot := 11, constantValue := 0 }, { name := "RFC822_NAME", type := (.object "com/example/iron_policy/ironpolicy/DataType"), accessFlags := 16409, slot := 12, constantValue := 0 }, { name := "X500_NAME", type := (.object "com/example/iron_policy/ironpolicy/DataType"), accessFlags := 16409, slot := 13, constantValue := 0 }, { name := "DNS_NAME", type := (.object "com/example/iron_policy/ironpolicy/DataType"), accessFlags := 16409, slot := 14, constantValue := 0 }, { name := "IP_ADDRESS", type := (.object "com/example/iron_policy/ironpolicy/DataType"), accessFlags := 16409, slot := 15, constantValue := 0 }, { name := "INTEGER_FORM", type := (.object "java/util/regex/Pattern"), accessFlags := 26, slot := 16, constantValue := 0 }, { name := "BOOLEAN_FORM", type := (.object "java/util/regex/Pattern"), accessFlags := 26, slot := 17, constantValue := 0 }, { name := "TRUE_FORMS", type := (.object "java/util/Set"), accessFlags := 26, slot := 18, constantValue := 0 }, { name := "XML_WHITESPACE", type := (.object "java/util/regex/Pattern"), accessFlags := 26, slot := 19, constantValue := 0 }, { name := "shortName", type := (.object "java/lang/String"), accessFlags := 18, slot := 3, constantValue := 0 }, { name := "id", type := (.object "java/lang/String"), accessFlags := 18, slot := 4, constantValue := 0 }, { name := "functionPrefix", type := (.object "java/lang/String"), accessFlags := 18, slot := 5, constantValue := 0 }, { name := "$VALUES", type := (.array (.object "com/example/iron_policy/ironpolicy/DataType")), accessFlags := 4122, slot := 20, constantValue := 0 }]
  methods := #[]
  instanceTypes := #[(.object "java/lang/String"), .int, .int, (.object "java/lang/String"), (.object "java/lang/String"), (.object "java/lang/String")]
  staticTypes := #[(.object "com/example/iron_policy/ironpolicy/DataType"), (.object "com/example/iron_policy/ironpolicy/DataType"), (.object "com/example/iron_policy/ironpolicy/DataType"), (.object "com/example/iron_policy/ironpolicy/DataType"), (.object "com/example/iron_policy/ironpolicy/DataType"), (.object "com/example/iron_policy/ironpolicy/DataType"), (.object "com/example/iron_policy/ironpolicy/DataType"), (.object "com/example/iron_policy/ironpolicy/DataType"), (.object "com/example/iron_policy/ironpolicy/DataType"), (.object "com/example/iron_policy/ironpolicy/DataType"), (.object "com/example/iron_policy/ironpolicy/DataType"), (.object "com/example/iron_policy/ironpolicy/DataType"), (.object "com/example/iron_policy/ironpolicy/DataType"), (.object "com/example/iron_policy/ironpolicy/DataType"), (.object "com/example/iron_policy/ironpolicy/DataType"), (.object "com/example/iron_policy/ironpolicy/DataType"), (.object "java/util/regex/Pattern"), (.object "java/util/regex/Pattern"), (.object "java/util/Set"), (.object "java/util/regex/Pattern"), (.array (.object "com/example/iron_policy/ironpolicy/DataType"))]
  resolved := Array.replicate 376 none
  statics := some 1 }

def pool11 : Array CpInfo := pool [(2, .class_ 4), (1, u "java/lang/CharSequence"), (42, .class_ 48), (0, u "java/lang/CharSequence$1CodePointIterator"), (10, .class_ 60), (0, u "java/lang/CharSequence$1CharIterator"), (5, .class_ 67), (0, u "java/lang/Object")] 63

/-- java/lang/CharSequence -/
def k11 : Class := { plain "java/lang/CharSequence" (some 0) with
  accessFlags := 1537
  interfaces := #[]
  cf := some (fileOf pool11 2 #[.nestMembers #[47, 59]] #[] 1537 66 #[] #[])
  fields := #[]
  methods := #[]
  instanceTypes := #[]
  staticTypes := #[]
  resolved := Array.replicate 131 none
  statics := none }

def pool12 : Array CpInfo := pool [(1, .class_ 2), (0, u "java/lang/constant/ConstantDesc"), (0, .class_ 4), (0, u "java/lang/Object")] 32

/-- java/lang/constant/ConstantDesc -/
def k12 : Class := { plain "java/lang/constant/ConstantDesc" (some 0) with
  accessFlags := 1537
  interfaces := #[]
  cf := some (fileOf pool12 1 #[] #[] 1537 3 #[] #[])
  fields := #[]
  methods := #[]
  instanceTypes := #[]
  staticTypes := #[]
  resolved := Array.replicate 37 none
  statics := none }

def pool13 : Array CpInfo := pool [(2, .class_ 4), (1, u "java/lang/Object"), (0, u "<init>"), (0, u "()V"), (3, .class_ 12), (1, u "java/lang/String"), (0, u "value"), (0, u "[B"), (2, u "coder"), (0, u "B"), (2, u "hash"), (0, u "I"), (2, u "hashIsZero"), (0, u "Z"), (13, u "COMPACT_STRINGS"), (534, .class_ 576), (0, u "java/lang/CharSequence"), (22, u "CASE_INSENSITIVE_ORDER"), (0, u "Ljava/util/Comparator;"), (500, u "serialPersistentFields"), (0, u "[Ljava/io/ObjectStreamField;"), (0, .class_ 1104), (0, u "java/lang/String$CaseInsensitiveComparator"), (1, .class_ 1107), (0, u "java/io/Serializable"), (0, .class_ 1109), (0, u "java/lang/Comparable"), (0, .class_ 1111), (0, u "java/lang/constant/Constable"), (0, .class_ 1113), (0, u "java/lang/constant/ConstantDesc"), (2, u "serialVersionUID"), (0, u "J"), (3, u "REPL"), (0, u "C"), (2, u "LATIN1"), (1, u "UTF16")] 323

def k13m0 : Method := { name := "<init>", desc := "()V", sig := { parameters := [], returnType := none }, accessFlags := 1, code := none }
/-- java/lang/String -/
def k13 : Class := { plain "java/lang/String" (some 0) with
  accessFlags := 49
  interfaces := #[8, 7, 11, 6, 12]
  cf := some (fileOf pool13 10 #[.nestMembers #[1103]] #[{ accessFlags := 1, nameIndex := 5, descriptorIndex := 6, attributes := #[] }] 49 2 #[1106, 1108, 575, 1110, 1112] #[{ accessFlags := 18, nameIndex := 13, descriptorIndex := 14, attributes := #[] }, { accessFlags := 18, nameIndex := 17, descriptorIndex := 18, attributes := #[] }, { accessFlags := 2, nameIndex := 21, descriptorIndex := 22, attributes := #[] }, { accessFlags := 2, nameIndex := 25, descriptorIndex := 26, attributes := #[] }, { accessFlags := 26, nameIndex := 1116, descriptorIndex := 1117, attributes := #[] }, { accessFlags := 24, nameIndex := 40, descriptorIndex := 26, attributes := #[] }, { accessFlags := 26, nameIndex := 1101, descriptorIndex := 1102, attributes := #[] }, { accessFlags := 26, nameIndex := 1121, descriptorIndex := 1122, attributes := #[] }, { accessFlags := 25, nameIndex := 599, descriptorIndex := 600, attributes := #[] }, { accessFlags := 24, nameIndex := 1125, descriptorIndex := 18, attributes := #[] }, { accessFlags := 24, nameIndex := 1127, descriptorIndex := 18, attributes := #[] }])
  fields := #[{ name := "value", type := (.array .byte), accessFlags := 18, slot := 0, constantValue := 0 }, { name := "coder", type := .byte, accessFlags := 18, slot := 1, constantValue := 0 }, { name := "hash", type := .int, accessFlags := 2, slot := 2, constantValue := 0 }, { name := "hashIsZero", type := .boolean, accessFlags := 2, slot := 3, constantValue := 0 }, { name := "serialVersionUID", type := .long, accessFlags := 26, slot := 0, constantValue := 0 }, { name := "COMPACT_STRINGS", type := .boolean, accessFlags := 24, slot := 1, constantValue := 0 }, { name := "serialPersistentFields", type := (.array (.object "java/io/ObjectStreamField")), accessFlags := 26, slot := 2, constantValue := 0 }, { name := "REPL", type := .char, accessFlags := 26, slot := 3, constantValue := 0 }, { name := "CASE_INSENSITIVE_ORDER", type := (.object "java/util/Comparator"), accessFlags := 25, slot := 4, constantValue := 0 }, { name := "LATIN1", type := .byte, accessFlags := 24, slot := 5, constantValue := 0 }, { name := "UTF16", type := .byte, accessFlags := 24, slot := 6, constantValue := 0 }]
  methods := #[k13m0]
  instanceTypes := #[(.array .byte), .byte, .int, .boolean]
  staticTypes := #[.long, .boolean, (.array (.object "java/io/ObjectStreamField")), .char, (.object "java/util/Comparator"), .byte, .byte]
  resolved := Array.replicate 1451 none
  statics := none }

def pool14 : Array CpInfo := pool [(2, .class_ 4), (1, u "java/lang/Object"), (2, .fieldref 8 9), (0, .class_ 10), (0, .nameAndType 11 12), (0, u "java/lang/Boolean"), (0, u "value"), (0, u "Z"), (16, u "TRUE"), (0, u "Ljava/lang/Boolean;"), (2, u "FALSE"), (10, u "booleanValue"), (0, u "()Z"), (41, u "TYPE"), (0, u "Ljava/lang/Class;"), (0, .class_ 90), (0, u "java/io/Serializable"), (0, .class_ 92), (0, u "java/lang/Comparable"), (0, .class_ 94), (0, u "java/lang/constant/Constable"), (2, u "serialVersionUID"), (0, u "J")] 53

def k14c0 : Code := { maxStack := 1, maxLocals := 1, code := jdk_2055_method_4_code, exceptionTable := #[], attributes := #[] }
def k14m0 : Method := { name := "booleanValue", desc := "()Z", sig := { parameters := [], returnType := some .boolean }, accessFlags := 1, code := some k14c0 }
/-- java/lang/Boolean -/
def k14 : Class := { plain "java/lang/Boolean" (some 0) with
  accessFlags := 49
  interfaces := #[8, 7, 6]
  cf := some (fileOf pool14 8 #[] #[{ accessFlags := 1, nameIndex := 44, descriptorIndex := 45, attributes := #[] }] 49 2 #[89, 91, 93] #[{ accessFlags := 25, nameIndex := 29, descriptorIndex := 30, attributes := #[] }, { accessFlags := 25, nameIndex := 33, descriptorIndex := 30, attributes := #[] }, { accessFlags := 25, nameIndex := 87, descriptorIndex := 88, attributes := #[] }, { accessFlags := 18, nameIndex := 11, descriptorIndex := 12, attributes := #[] }, { accessFlags := 26, nameIndex := 97, descriptorIndex := 98, attributes := #[] }])
  fields := #[{ name := "TRUE", type := (.object "java/lang/Boolean"), accessFlags := 25, slot := 0, constantValue := 0 }, { name := "FALSE", type := (.object "java/lang/Boolean"), accessFlags := 25, slot := 1, constantValue := 0 }, { name := "TYPE", type := (.object "java/lang/Class"), accessFlags := 25, slot := 2, constantValue := 0 }, { name := "value", type := .boolean, accessFlags := 18, slot := 0, constantValue := 0 }, { name := "serialVersionUID", type := .long, accessFlags := 26, slot := 3, constantValue := 0 }]
  methods := #[k14m0]
  instanceTypes := #[.boolean]
  staticTypes := #[(.object "java/lang/Boolean"), (.object "java/lang/Boolean"), (.object "java/lang/Class"), .long]
  resolved := Array.replicate 152 none
  statics := none }

def pool15 : Array CpInfo := pool [(1, u "java/lang/Cloneable"), (0, .class_ 1), (0, u "java/lang/Object"), (0, .class_ 3)] 3

/-- java/lang/Cloneable -/
def k15 : Class := { plain "java/lang/Cloneable" (some 0) with
  accessFlags := 1537
  interfaces := #[]
  cf := some (fileOf pool15 2 #[] #[] 1537 4 #[] #[])
  fields := #[]
  methods := #[]
  instanceTypes := #[]
  staticTypes := #[]
  resolved := Array.replicate 8 none
  statics := none }

/-- the primitive byte -/
def k16 : Class := { plain "byte" none with kind := .primitive 'B', accessFlags := 0x411 }
/-- [B -/
def k17 : Class := { plain "[B" (some 0) with kind := .array 16 .byte, interfaces := #[15, 8], accessFlags := 1041 }

/-- the primitive int -/
def k18 : Class := { plain "int" none with kind := .primitive 'I', accessFlags := 0x411 }
/-- [I -/
def k19 : Class := { plain "[I" (some 0) with kind := .array 18 .int, interfaces := #[15, 8], accessFlags := 1041 }

def heap : Heap := #[{ cls := 5, slots := #[.ref 3, .ref 2], vm := .statics 5 },
  { cls := 10, slots := #[.null, .null, .ref 4, .null, .null, .null, .null, .null, .null, .null, .null, .null, .null, .null, .null, .null, .null, .null, .null, .null, .null], vm := .statics 10 },
  { cls := 5, slots := #[.ref 4, .ref 5], vm := .none },
  { cls := 5, slots := #[.ref 4, .ref 6], vm := .none },
  { cls := 10, slots := #[.null, .int 0, .int 0, .null, .null, .null], vm := .none },
  { cls := 14, slots := #[.int 0], vm := .none },
  { cls := 14, slots := #[.int 1], vm := .none }]
def classes : Array Class := #[k0, k1, k2, k3, k4, k5, k6, k7, k8, k9, k10, k11, k12, k13, k14, k15, k16, k17, k18, k19]
def interned : List (Array UInt16 × Addr) := []
def slotsUsed : Nat := 35
def theMethod : MethodId := ⟨1, 1⟩
def args0 : Array Value := #[.int 5]
def aboutOver (below : List Frame) : State where
  vm := { classes := classes, interned := interned.toArray }
  heap := heap
  slotsUsed := slotsUsed
  threads := #[{ frames := .invoking theMethod args0 :: below }]
def below0 : List Frame := [.native { method := ⟨0, 0⟩, args := #[] }]
def about1 : State := aboutOver below0
def p0 : Program := .bare "" "" ""
def e0 : Env := launch0.env 0 0 0
theorem w_frames : about1.frames = Frame.invoking theMethod args0 :: below0 := rfl
set_option maxRecDepth 65536 in
theorem w_args : argsFit about1.vm theMethod args0 = true := by decide +kernel
set_option maxRecDepth 65536 in
theorem w_heap : heapFits about1 = true := by decide +kernel
set_option maxRecDepth 65536 in
theorem w_runnable : about1.curStatus? = some .runnable := by decide +kernel
set_option maxRecDepth 65536 in
theorem w_alone : about1.alone = true := by decide +kernel
set_option maxRecDepth 65536 in
theorem w_named : about1.methodNamed? x = some theMethod := by decide +kernel
set_option maxRecDepth 65536 in
theorem w_hears : about1.hears theMethod below0 = true := by decide +kernel
set_option maxRecDepth 65536 in
theorem w_ripe : about1.ripe theMethod args0 below0 = true := by decide +kernel
theorem w_running : about1.status = .running := rfl
set_option maxRecDepth 65536 in
theorem w_room : about1.hasRoom e0.platform room_1 = true :=
  launch0.hasRoom_least _ room_1 (by decide +kernel) (by decide +kernel) (by decide +kernel) (by decide +kernel) (by decide +kernel) (by decide +kernel)
theorem allAtoms_all (ts : List Jvm.Cond) (a : Array Jvm.Value) (st : Jvm.State) : (allAtoms ts).before a st = ts.all (fun c => c.before a st) := by
  induction ts with
  | nil => rfl
  | cons c t ih =>
    show (Jvm.Cond.and c (allAtoms t)).before a st = _
    rw [Jvm.Cond.before_and, ih, List.all_cons]
def words1 : List Jvm.Cond := Jvm.Cond.code x code maxLocals ret :: tables_1
/-- a 'code' word, met by the world's own term for the bytes: nothing is compared byte by byte -/
theorem code_word {y : MethodName} {bytes : ByteArray} {mx : Nat} {rt : Option FieldType} {a : Array Value} {s : State} {m : MethodId} {meth : Method} {c : Code} (h1 : s.methodNamed? y = some m) (h2 : s.vm.method? m = some meth) (h3 : meth.code = some c) (h4 : c.code = bytes)
    (h5 : (c.maxLocals == mx && c.exceptionTable.isEmpty && decide (c.maxStack ≤ mostOperands) && decide (meth.sig.returnType = rt) && !meth.locks && decide (parseMethodDescriptor y.desc = some meth.sig)) = true) : (Jvm.Cond.code y bytes mx rt).before a s = true := by
  simp only [Bool.and_eq_true, beq_iff_eq, Bool.not_eq_true', decide_eq_true_eq] at h5
  obtain ⟨⟨⟨⟨⟨g1, g2⟩, g3⟩, g4⟩, g5⟩, g6⟩ := h5
  simp [Cond.before, Cond.holds, Cond.value, h1, h2, h3, h4, g1, g2, g3, g4, g5, g6]
def isCode : Jvm.Cond → Bool
  | .code _ _ _ _ => true
  | _ => false
theorem all_split {L : List Jvm.Cond} {P : Jvm.Cond → Bool} (h1 : L.all (fun c => isCode c || P c) = true) (h2 : ∀ c ∈ L.filter isCode, P c = true) : L.all P = true := by
  refine List.all_eq_true.mpr fun c hc => ?_
  have h := List.all_eq_true.mp h1 c hc
  rcases Bool.eq_false_or_eq_true (isCode c) with hi | hi
  · exact h2 c (List.mem_filter.mpr ⟨hc, hi⟩)
  · simpa [hi] using h
set_option maxRecDepth 65536 in
theorem w_c0 : (Jvm.Cond.code x code maxLocals ret).before args0 about1 = true := code_word (m := ⟨1, 1⟩) (meth := k1m1) (c := k1c1) (by decide +kernel) rfl rfl rfl (by decide +kernel)
set_option maxRecDepth 65536 in
theorem w_c1 : (Jvm.Cond.code ({ cls := "com/example/iron_policy/ironpolicy/AttributeValue", name := "of", desc := "(Z)Lcom/example/iron_policy/ironpolicy/AttributeValue;" } : Jvm.MethodName) prog_6_method_2_code (1 : Nat) (Option.some (Jvm.ClassFile.FieldType.object "com/example/iron_policy/ironpolicy/AttributeValue"))).before args0 about1 = true := code_word (m := ⟨5, 0⟩) (meth := k5m0) (c := k5c0) (by decide +kernel) rfl rfl rfl (by decide +kernel)
set_option maxRecDepth 65536 in
theorem w_c2 : (Jvm.Cond.code ({ cls := "com/example/iron_policy/ironpolicy/AttributeValue", name := "dataType", desc := "()Lcom/example/iron_policy/ironpolicy/DataType;" } : Jvm.MethodName) prog_6_method_9_code (1 : Nat) (Option.some (Jvm.ClassFile.FieldType.object "com/example/iron_policy/ironpolicy/DataType"))).before args0 about1 = true := code_word (m := ⟨5, 2⟩) (meth := k5m2) (c := k5c2) (by decide +kernel) rfl rfl rfl (by decide +kernel)
set_option maxRecDepth 65536 in
theorem w_c3 : (Jvm.Cond.code ({ cls := "com/example/iron_policy/ironpolicy/ExpressionValue", name := "isTrue", desc := "(Ljava/lang/String;)Z" } : Jvm.MethodName) prog_19_method_3_code (2 : Nat) (Option.some Jvm.ClassFile.FieldType.boolean)).before args0 about1 = true := code_word (m := ⟨4, 1⟩) (meth := k4m1) (c := k4c1) (by decide +kernel) rfl rfl rfl (by decide +kernel)
set_option maxRecDepth 65536 in
theorem w_c4 : (Jvm.Cond.code ({ cls := "com/example/iron_policy/ironpolicy/AttributeValue", name := "single", desc := "(Lcom/example/iron_policy/ironpolicy/DataType;Ljava/lang/String;)Lcom/example/iron_policy/ironpolicy/AttributeValue;" } : Jvm.MethodName) prog_6_method_4_code (3 : Nat) (Option.some (Jvm.ClassFile.FieldType.object "com/example/iron_policy/ironpolicy/AttributeValue"))).before args0 about1 = true := code_word (m := ⟨5, 1⟩) (meth := k5m1) (c := k5c1) (by decide +kernel) rfl rfl rfl (by decide +kernel)
set_option maxRecDepth 65536 in
theorem w_c5 : (Jvm.Cond.code ({ cls := "com/example/iron_policy/ironpolicy/AttributeValue", name := "value", desc := "()Ljava/lang/Object;" } : Jvm.MethodName) prog_6_method_10_code (1 : Nat) (Option.some (Jvm.ClassFile.FieldType.object "java/lang/Object"))).before args0 about1 = true := code_word (m := ⟨5, 3⟩) (meth := k5m3) (c := k5c3) (by decide +kernel) rfl rfl rfl (by decide +kernel)
set_option maxRecDepth 65536 in
theorem w_c6 : (Jvm.Cond.code ({ cls := "java/lang/Boolean", name := "booleanValue", desc := "()Z" } : Jvm.MethodName) jdk_2055_method_4_code (1 : Nat) (Option.some Jvm.ClassFile.FieldType.boolean)).before args0 about1 = true := code_word (m := ⟨14, 0⟩) (meth := k14m0) (c := k14c0) (by decide +kernel) rfl rfl rfl (by decide +kernel)
def codes1 : List Jvm.Cond := [Jvm.Cond.code x code maxLocals ret, Jvm.Cond.code ({ cls := "com/example/iron_policy/ironpolicy/AttributeValue", name := "of", desc := "(Z)Lcom/example/iron_policy/ironpolicy/AttributeValue;" } : Jvm.MethodName) prog_6_method_2_code (1 : Nat) (Option.some (Jvm.ClassFile.FieldType.object "com/example/iron_policy/ironpolicy/AttributeValue")), Jvm.Cond.code ({ cls := "com/example/iron_policy/ironpolicy/AttributeValue", name := "dataType", desc := "()Lcom/example/iron_policy/ironpolicy/DataType;" } : Jvm.MethodName) prog_6_method_9_code (1 : Nat) (Option.some (Jvm.ClassFile.FieldType.object "com/example/iron_policy/ironpolicy/DataType")), Jvm.Cond.code ({ cls := "com/example/iron_policy/ironpolicy/ExpressionValue", name := "isTrue", desc := "(Ljava/lang/String;)Z" } : Jvm.MethodName) prog_19_method_3_code (2 : Nat) (Option.some Jvm.ClassFile.FieldType.boolean), Jvm.Cond.code ({ cls := "com/example/iron_policy/ironpolicy/AttributeValue", name := "single", desc := "(Lcom/example/iron_policy/ironpolicy/DataType;Ljava/lang/String;)Lcom/example/iron_policy/ironpolicy/AttributeValue;" } : Jvm.MethodName) prog_6_method_4_code (3 : Nat) (Option.some (Jvm.ClassFile.FieldType.object "com/example/iron_policy/ironpolicy/AttributeValue")), Jvm.Cond.code ({ cls := "com/example/iron_policy/ironpolicy/AttributeValue", name := "value", desc := "()Ljava/lang/Object;" } : Jvm.MethodName) prog_6_method_10_code (1 : Nat) (Option.some (Jvm.ClassFile.FieldType.object "java/lang/Object")), Jvm.Cond.code ({ cls := "java/lang/Boolean", name := "booleanValue", desc := "()Z" } : Jvm.MethodName) jdk_2055_method_4_code (1 : Nat) (Option.some Jvm.ClassFile.FieldType.boolean)]
set_option maxRecDepth 65536 in
theorem codes_eq : words1.filter isCode = codes1 := rfl
theorem w_codes : ∀ c ∈ words1.filter isCode, c.before args0 about1 = true := by
  rw [codes_eq]
  intro c hc
  simp only [codes1, List.mem_cons, List.not_mem_nil, or_false] at hc
  rcases hc with rfl | rfl | rfl | rfl | rfl | rfl | rfl
  · exact w_c0
  · exact w_c1
  · exact w_c2
  · exact w_c3
  · exact w_c4
  · exact w_c5
  · exact w_c6
set_option maxRecDepth 65536 in
theorem w_t1 : (words1.take 24).all (fun c => isCode c || c.before args0 about1) = true := by decide +kernel
set_option maxRecDepth 65536 in
theorem w_t2 : ((words1.drop 24).take 24).all (fun c => isCode c || c.before args0 about1) = true := by decide +kernel
set_option maxRecDepth 65536 in
theorem w_t3 : ((words1.drop 24).drop 24).all (fun c => isCode c || c.before args0 about1) = true := by decide +kernel
theorem w_tables : (allAtoms (Jvm.Cond.code x code maxLocals ret :: tables_1)).before args0 about1 = true := by
  rw [allAtoms_all]
  show words1.all (fun c => c.before args0 about1) = true
  refine all_split ?_ w_codes
  rw [← List.take_append_drop 24 words1, List.all_append, w_t1, ← List.take_append_drop 24 (words1.drop 24), List.all_append, w_t2, w_t3]
  rfl
set_option maxRecDepth 65536 in
theorem w_case : (Jvm.Cond.and given_1 narrow_1).before args0 about1 = true := by decide +kernel
theorem w_applies : (headSpec (Jvm.Cond.code x code maxLocals ret :: tables_1) room_1).applies x e0.platform about1 = true :=
  (Spec.applies_iff w_frames).mpr ⟨w_running, w_runnable, w_alone, w_named, w_hears, w_ripe, w_room, w_tables⟩
theorem atStart : AtStart classFile x code maxLocals ret World_1 tables_1 room_1 Calls_1 rest_1 Pre_1 launch0 p0 e0 about1 theMethod args0 below0 :=
  ⟨lists_1, trivial, launch0.admits_env _ _ _, launch0.least_env, fairChoices_fair.cas, fairChoices_fair.clock, w_frames, w_args, w_heap, w_applies, trivial, trivial, w_case⟩
end start1
theorem witness_1 : WitnessClaimed_1 := ⟨start1.p0, start1.e0, start1.about1, start1.theMethod, start1.args0, start1.below0, start1.atStart⟩
end Jvm.Pilot.@@N@@
