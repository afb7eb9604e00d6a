import JvmDerived
import JvmDerived.Pilot.@@N@@Statement
import JvmDerived.Pilot.@@N@@Code
set_option linter.unusedVariables false
set_option linter.unusedSimpArgs false
namespace Jvm.RoadKit
open Sem ClassFile Op Lib Jvm.Stand Jvm.Free Jvm.LawKit
section New
variable {p : Program} {l : Launch} {e : Env} {R : Room} {s : State} {m : MethodId} {args : Array Value} {below : List Frame} {meth : Method} {c : Code} {T : State} {locs : List Loc} {cells slots : Nat}
theorem retI (X : Stand p l e R s m args below meth c T locs cells slots) (hx : p.tables.exec = Jvm.exec) {pc : Nat} {Ls : Array Slot} {z : Int32} {rest : List Value} (hret : meth.sig.returnType = some .int) (hd : decode c.code pc = .ok (.ireturn, 1)) {fs : List Frame}
    (hl : ∀ (f : JFrame) (acts : List Action), f.method = m → f.locked = none → f.entered = [] → (doReturn e (T.setTop f) acts (some (.int z))).1 = T.setFrames fs) : Steps p.tables e below (T.setTop (mkF m pc Ls (.int z :: rest))) (T.setFrames fs) := by
  have hm' : T.vm.method? m = some meth := X.method'
  have hn : narrow .int (.int z) = .int z := rfl
  show Steps p.tables e below (T.setTop { method := m, pc := pc, locals := Ls, stack := _ :: rest, locked := none }) _
  jvm_step X.here [X.here.top, hx, hd, hm', hret, hn]
  first | (intro acts; rw [hl _ acts rfl rfl rfl]) | rw [hl _ _ rfl rfl rfl]
  exact Steps.refl _
end New
end Jvm.RoadKit
namespace Jvm.Pilot.@@N@@
open Jvm Jvm.ClassFile Sem Op Lib Jvm.Free Jvm.Stand Jvm.LawKit Jvm.RoadKit Bundle Jvm.Pilot.@@N@@.Jvm.D
theorem ef_rm1 (m : MethodId) (x0 : Addr) (x1 : Addr) : entryFrame m #[(.ref x0), (.ref x1)] 2 = mkF m 0 #[.val (.ref x0), .val (.ref x1)] [] := by first | (simp [entryFrame, mkF, argsToLocals, Value.category]; done) | rfl
theorem d_prog_29_method_7_0 : decode prog_29_method_7_code 0 = .ok (.aload_n 0, 1) := by decide +kernel
theorem d_prog_29_method_7_1 : decode prog_29_method_7_code 1 = .ok (.getfield 36, 3) := by decide +kernel
theorem d_prog_29_method_7_4 : decode prog_29_method_7_code 4 = .ok (.aload_n 1, 1) := by decide +kernel
theorem d_prog_29_method_7_5 : decode prog_29_method_7_code 5 = .ok (.getfield 36, 3) := by decide +kernel
theorem d_prog_29_method_7_8 : decode prog_29_method_7_code 8 = .ok (.if_icmp .ge 7, 3) := by decide +kernel
theorem d_prog_29_method_7_11 : decode prog_29_method_7_code 11 = .ok (.iconst 1, 1) := by decide +kernel
theorem d_prog_29_method_7_12 : decode prog_29_method_7_code 12 = .ok (.goto 4, 3) := by decide +kernel
theorem d_prog_29_method_7_16 : decode prog_29_method_7_code 16 = .ok (.ireturn, 1) := by decide +kernel
theorem d_prog_29_method_7_15 : decode prog_29_method_7_code 15 = .ok (.iconst 0, 1) := by decide +kernel
theorem pn_0 : plainName "com/example/rows_by_rule/rowsbyrule/query/Junction" = true := by first | (simp [plainName, overriddenIn]; done) | decide +kernel
theorem ef_rm0 (m : MethodId) (x0 : Int32) (x1 : Int32) : entryFrame m #[(.int x0), (.int x1)] maxLocals = mkF m 0 #[.val (.int x0), .val (.int x1), .unset, .unset, .unset] [] := by first | (simp [entryFrame, mkF, argsToLocals, Value.category, maxLocals]; done) | rfl
theorem pd_0 : parseMethodDescriptor "(Lcom/example/rows_by_rule/rowsbyrule/query/Junction;)Z" = some ⟨[(.object "com/example/rows_by_rule/rowsbyrule/query/Junction")], some .boolean⟩ := by decide +kernel
theorem pn_1 : plainName "com/example/rows_by_rule/rowsbyrule/query/JunctionBindsLooserThanPinLaw" = true := by first | (simp [plainName, overriddenIn]; done) | decide +kernel
def SB (Z : State) (a_OR : Addr) (a_AND : Addr) : Prop := (Exa Z Z.heap a_OR "com/example/rows_by_rule/rowsbyrule/query/Junction") ∧ (Sta Z Z.heap "com/example/rows_by_rule/rowsbyrule/query/Junction" "OR" "Lcom/example/rows_by_rule/rowsbyrule/query/Junction;" (.ref a_OR)) ∧ (Exa Z Z.heap a_AND "com/example/rows_by_rule/rowsbyrule/query/Junction") ∧ (Sta Z Z.heap "com/example/rows_by_rule/rowsbyrule/query/Junction" "AND" "Lcom/example/rows_by_rule/rowsbyrule/query/Junction;" (.ref a_AND)) ∧ (Fld Z Z.heap a_OR "com/example/rows_by_rule/rowsbyrule/query/Junction" "precedence" "I" (.int (1 : Int32))) ∧ (Fld Z Z.heap a_AND "com/example/rows_by_rule/rowsbyrule/query/Junction" "precedence" "I" (.int (2 : Int32))) ∧ (Fld Z Z.heap a_OR "java/lang/Enum" "ordinal" "I" (.int (0 : Int32))) ∧ (Fld Z Z.heap a_AND "java/lang/Enum" "ordinal" "I" (.int (1 : Int32)))
def Q1 (r : Int32) (h0 : Heap) (n0 : Nat) (v : Option Value) (h : Heap) (L : List Loc) : Prop := v = some (.int r) ∧ Fr n0 L ∧ h = h0
def Q0 (n0 : Nat) (v : Option Value) (h : Heap) (L : List Loc) : Prop := v = some (.int 1) ∧ Fr n0 L
set_option maxRecDepth 65536 in
set_option maxHeartbeats 40000000 in
theorem rm1 (l : Launch) (Z : State) (a0 : Array Value) (hw : ∀ d ∈ tables_1, d.before a0 Z = true) (ws : List Jvm.Cond) (a1 a2 : Addr) (w1 w2 r : Int32) (h0 : Heap) (n0 : Nat) (F1 : Fld Z h0 a1 "com/example/rows_by_rule/rowsbyrule/query/Junction" "precedence" "I" (.int w1)) (F2 : Fld Z h0 a2 "com/example/rows_by_rule/rowsbyrule/query/Junction" "precedence" "I" (.int w2)) (hres : (w1 < w2 → r = 1) ∧ (¬ w1 < w2 → r = 0)) :
    MetFree l (⟨"com/example/rows_by_rule/rowsbyrule/query/Junction", "bindsLooserThan", "(Lcom/example/rows_by_rule/rowsbyrule/query/Junction;)Z"⟩ : MethodName) (head1 (Jvm.Cond.code (⟨"com/example/rows_by_rule/rowsbyrule/query/Junction", "bindsLooserThan", "(Lcom/example/rows_by_rule/rowsbyrule/query/Junction;)Z"⟩ : MethodName) prog_29_method_7_code 2 (some .boolean) :: ws) ({ frames := 0, cells := 0, slots := 0, locals := 0 } : Room)) (fun a U => a = #[(.ref a1), (.ref a2)] ∧ Z.Warmed39 U.vm ∧ U.heap = h0) (fun _ _ _ _ _ => True) (fun _ U o U' => ∃ v L, o = .returned v ∧ Q1 r h0 n0 v U'.heap L ∧ FrameEnd U o U' L ({ frames := 0, cells := 0, slots := 0, locals := 0 } : Room).cells ({ frames := 0, cells := 0, slots := 0, locals := 0 } : Room).slots) := by
  refine MetFree.of_bodySF (plainFor_of_name pn_0) hisR ?_
  intro p e s m args below meth c s₁ Bd hml0 hP hK
  obtain ⟨rfl, hZ, hh⟩ := hP
  have hx := Bd.exec
  have hby := Bd.bytes
  have hml : c.maxLocals = 2 := hml0
  have hown : s.vm.findClass "com/example/rows_by_rule/rowsbyrule/query/Junction" = some m.cls := findClass_of_methodNamed Bd.named
  have hnm := (name_of_methodNamed Bd.named Bd.method).1
  have X0 : Stand p l e ({ frames := 0, cells := 0, slots := 0, locals := 0 } : Room) s m #[(.ref a1), (.ref a2)] below meth c s₁ [] 0 0 := Stand.of_body Bd
  have e0 : s₁.heap = h0 := by rw [← hh, Bd.state]; rfl
  have N0 := Fr.nil n0
  have pre0 : ∀ t, Steps p.tables e below (s₁.setTop (mkF m 0 #[.val (.ref a1), .val (.ref a2)] [])) t → Steps p.tables e below (s₁.setTop (entryFrame m #[(.ref a1), (.ref a2)] 2)) t := fun t k => castTop (ef_rm1 m (a1) (a2)) k
  obtain ⟨T1, X1, e1, st1⟩ := getF X0 hx hZ hown (host := "") (Or.inl (hw _ (List.mem_of_getElem? (i := 10) rfl))) Via.refl e0 F1 (g := (mkF m 1 #[.val (.ref a1), .val (.ref a2)] [(.ref a1)])) rfl rfl (hb hby d_prog_29_method_7_1)
  obtain ⟨T2, X2, e2, st2⟩ := getF X1 hx hZ hown (host := "") (Or.inl (hw _ (List.mem_of_getElem? (i := 10) rfl))) Via.refl e1 F2 (g := (mkF m 5 #[.val (.ref a1), .val (.ref a2)] [(.ref a2), (.int w1)])) rfl rfl (hb hby d_prog_29_method_7_5)
  have gp3 : ∀ t, Steps p.tables e below (T2.setTop (mkF m 8 #[.val (.ref a1), .val (.ref a2)] [(.int w2), (.int w1)])) t → Steps p.tables e below (s₁.setTop (entryFrame m #[(.ref a1), (.ref a2)] 2)) t := fun t kt => pre0 t (by
    refine XS.aloadN X0.here hx rfl (hb hby d_prog_29_method_7_0) rfl rfl ?_
    show Steps p.tables e below (s₁.setTop (mkF m 1 #[.val (.ref a1), .val (.ref a2)] [(.ref a1)])) _
    refine st1 _ ?_
    show Steps p.tables e below (T1.setTop (mkF m 4 #[.val (.ref a1), .val (.ref a2)] [(.int w1)])) _
    refine XS.aloadN X1.here hx rfl (hb hby d_prog_29_method_7_4) rfl rfl ?_
    show Steps p.tables e below (T1.setTop (mkF m 5 #[.val (.ref a1), .val (.ref a2)] [(.ref a2), (.int w1)])) _
    refine st2 _ ?_
    show Steps p.tables e below (T2.setTop (mkF m 8 #[.val (.ref a1), .val (.ref a2)] [(.int w2), (.int w1)])) _
    exact kt)
  by_cases hc : w1 < w2
  · obtain ⟨fs, hr, hrun, hended, hW, hsame⟩ := X2.leave (v := (some (.int (1 : Int32)))) (fun h => by rw [Bd.returns] at h; cases h)
    refine ⟨_, _, gp3 _ ?_, hrun, hended, _, _, rfl, ?_, ⟨_, rfl⟩, hW, hsame.mono (by decide) (by decide)⟩
    · refine XS.icmpNo X2.here hx rfl (hb hby d_prog_29_method_7_8) rfl (tlt hc).2.1 ?_
      show Steps p.tables e below (T2.setTop (mkF m 11 #[.val (.ref a1), .val (.ref a2)] [])) _
      refine XS.iconst X2.here hx rfl (hb hby d_prog_29_method_7_11) ?_
      show Steps p.tables e below (T2.setTop (mkF m 12 #[.val (.ref a1), .val (.ref a2)] [(.int (1 : Int32))])) _
      refine XS.goto X2.here hx rfl (pc0 := 12) (pc' := 16) rfl (hb hby d_prog_29_method_7_12) (by decide) (by decide) ?_
      show Steps p.tables e below (T2.setTop (mkF m 16 #[.val (.ref a1), .val (.ref a2)] [(.int (1 : Int32))])) _
      exact retN X2 hx (t := .boolean) Bd.returns (by simp) (hb hby d_prog_29_method_7_16) hr
    · show Q1 r h0 n0 _ T2.heap _
      rw [e2]
      exact ⟨by rw [hres.1 hc], N0, rfl⟩
  · obtain ⟨fs, hr, hrun, hended, hW, hsame⟩ := X2.leave (v := (some (.int (0 : Int32)))) (fun h => by rw [Bd.returns] at h; cases h)
    refine ⟨_, _, gp3 _ ?_, hrun, hended, _, _, rfl, ?_, ⟨_, rfl⟩, hW, hsame.mono (by decide) (by decide)⟩
    · refine XS.icmpYes X2.here hx rfl (pc0 := 8) (pc' := 15) rfl (hb hby d_prog_29_method_7_8) rfl (flt hc).2.1 (by decide) (by decide) ?_
      show Steps p.tables e below (T2.setTop (mkF m 15 #[.val (.ref a1), .val (.ref a2)] [])) _
      refine XS.iconst X2.here hx rfl (hb hby d_prog_29_method_7_15) ?_
      show Steps p.tables e below (T2.setTop (mkF m 16 #[.val (.ref a1), .val (.ref a2)] [(.int (0 : Int32))])) _
      exact retN X2 hx (t := .boolean) Bd.returns (by simp) (hb hby d_prog_29_method_7_16) hr
    · show Q1 r h0 n0 _ T2.heap _
      rw [e2]
      exact ⟨by rw [hres.2 hc], N0, rfl⟩
set_option maxRecDepth 65536 in
set_option maxHeartbeats 40000000 in
theorem rm0 (l : Launch) (Z : State) (a0 : Array Value) (hw : ∀ d ∈ tables_1, d.before a0 Z = true) (ws : List Jvm.Cond) (a_OR : Addr) (a_AND : Addr) (hS : SB Z a_OR a_AND) (p0 p1 : Int32) (h0 : Heap) (n0 : Nat) (O0 : Old Z n0 h0) :
    MetFree l x (head1 (Jvm.Cond.code x code maxLocals ret :: ws) room_1) (fun a U => a = #[(.int p0), (.int p1)] ∧ Z.Warmed39 U.vm ∧ U.heap = h0) (fun _ _ _ _ _ => True) (fun _ U o U' => ∃ v L, o = .returned v ∧ Q0 n0 v U'.heap L ∧ FrameEnd U o U' L room_1.cells room_1.slots) := by
  refine MetFree.of_bodySF (plainFor_of_name pn_1) hisR ?_
  intro p e s m args below meth c s₁ Bd hml0 hP hK
  obtain ⟨rfl, hZ, hh⟩ := hP
  have hx := Bd.exec
  have hby := Bd.bytes
  have hml : c.maxLocals = 5 := hml0
  have hown : s.vm.findClass "com/example/rows_by_rule/rowsbyrule/query/JunctionBindsLooserThanPinLaw" = some m.cls := findClass_of_methodNamed Bd.named
  have hnm := (name_of_methodNamed Bd.named Bd.method).1
  have X0 : Stand p l e room_1 s m #[(.int p0), (.int p1)] below meth c s₁ [] 0 0 := Stand.of_body Bd
  have e0 : s₁.heap = h0 := by rw [← hh, Bd.state]; rfl
  have N0 := Fr.nil n0
  have pre0 : ∀ t, Steps p.tables e below (s₁.setTop (mkF m 0 #[.val (.int p0), .val (.int p1), .unset, .unset, .unset] [])) t → Steps p.tables e below (s₁.setTop (entryFrame m #[(.int p0), (.int p1)] maxLocals)) t := fun t k => castTop (ef_rm0 m (p0) (p1)) k
  have gp1 : ∀ t, Steps p.tables e below (s₁.setTop (mkF m 3 #[.val (.int p0), .val (.int p1), .unset, .unset, .unset] [(.int (p0 &&& (1 : Int32)))])) t → Steps p.tables e below (s₁.setTop (entryFrame m #[(.int p0), (.int p1)] maxLocals)) t := fun t kt => pre0 t (by
    refine XS.iloadN X0.here hx rfl (hb hby at_0) rfl ?_
    show Steps p.tables e below (s₁.setTop (mkF m 1 #[.val (.int p0), .val (.int p1), .unset, .unset, .unset] [(.int p0)])) _
    refine XS.iconst X0.here hx rfl (hb hby at_1) ?_
    show Steps p.tables e below (s₁.setTop (mkF m 2 #[.val (.int p0), .val (.int p1), .unset, .unset, .unset] [(.int (1 : Int32)), (.int p0)])) _
    refine XS.iand X0.here hx rfl (hb hby at_2) rfl ?_
    show Steps p.tables e below (s₁.setTop (mkF m 3 #[.val (.int p0), .val (.int p1), .unset, .unset, .unset] [(.int (p0 &&& (1 : Int32)))])) _
    exact kt)
  by_cases hc3 : (p0 &&& (1 : Int32)) = (0 : Int32)
  · obtain ⟨T2, X2, e2, st2⟩ := getS2 X0 hx hZ hown (host := "") (Or.inl (hw _ (List.mem_of_getElem? (i := 0) rfl))) Via.refl e0 (hS.2.1.ext O0.2) (g := (mkF m 6 #[.val (.int p0), .val (.int p1), .unset, .unset, .unset] [])) rfl (hb hby at_6)
    have gp3 : ∀ t, Steps p.tables e below (T2.setTop (mkF m 19 #[.val (.int p0), .val (.int p1), .val (.ref a_OR), .unset, .unset] [(.int (p1 &&& (1 : Int32)))])) t → Steps p.tables e below (s₁.setTop (entryFrame m #[(.int p0), (.int p1)] maxLocals)) t := fun t kt => gp1 t (by
      refine XS.ifNo X0.here hx rfl (hb hby at_3) rfl ((if0 _ _).trans (teq hc3).2) ?_
      show Steps p.tables e below (s₁.setTop (mkF m 6 #[.val (.int p0), .val (.int p1), .unset, .unset, .unset] [])) _
      refine st2 _ ?_
      show Steps p.tables e below (T2.setTop (mkF m 9 #[.val (.int p0), .val (.int p1), .unset, .unset, .unset] [(.ref a_OR)])) _
      refine XS.goto X2.here hx rfl (pc0 := 9) (pc' := 15) rfl (hb hby at_9) (by decide) (by decide) ?_
      show Steps p.tables e below (T2.setTop (mkF m 15 #[.val (.int p0), .val (.int p1), .unset, .unset, .unset] [(.ref a_OR)])) _
      refine XS.astoreN X2.here hx rfl (hb hby at_15) rfl rfl (l' := #[.val (.int p0), .val (.int p1), .val (.ref a_OR), .unset, .unset]) rfl ?_
      show Steps p.tables e below (T2.setTop (mkF m 16 #[.val (.int p0), .val (.int p1), .val (.ref a_OR), .unset, .unset] [])) _
      refine XS.iloadN X2.here hx rfl (hb hby at_16) rfl ?_
      show Steps p.tables e below (T2.setTop (mkF m 17 #[.val (.int p0), .val (.int p1), .val (.ref a_OR), .unset, .unset] [(.int p1)])) _
      refine XS.iconst X2.here hx rfl (hb hby at_17) ?_
      show Steps p.tables e below (T2.setTop (mkF m 18 #[.val (.int p0), .val (.int p1), .val (.ref a_OR), .unset, .unset] [(.int (1 : Int32)), (.int p1)])) _
      refine XS.iand X2.here hx rfl (hb hby at_18) rfl ?_
      show Steps p.tables e below (T2.setTop (mkF m 19 #[.val (.int p0), .val (.int p1), .val (.ref a_OR), .unset, .unset] [(.int (p1 &&& (1 : Int32)))])) _
      exact kt)
    by_cases hc19 : (p1 &&& (1 : Int32)) = (0 : Int32)
    · obtain ⟨T4, X4, e4, st4⟩ := getS2 X2 hx hZ hown (host := "") (Or.inl (hw _ (List.mem_of_getElem? (i := 0) rfl))) Via.refl e2 (hS.2.1.ext O0.2) (g := (mkF m 22 #[.val (.int p0), .val (.int p1), .val (.ref a_OR), .unset, .unset] [])) rfl (hb hby at_22)
      obtain ⟨T5, X5, e5, st5⟩ := getS2 X4 hx hZ hown (host := "") (Or.inl (hw _ (List.mem_of_getElem? (i := 0) rfl))) Via.refl e4 (hS.2.1.ext O0.2) (g := (mkF m 33 #[.val (.int p0), .val (.int p1), .val (.ref a_OR), .val (.ref a_OR), .unset] [(.ref a_OR)])) rfl (hb hby at_33)
      obtain ⟨T6, X6, e6, st6⟩ := getS2 X5 hx hZ hown (host := "") (Or.inl (hw _ (List.mem_of_getElem? (i := 3) rfl))) Via.refl e5 (hS.2.2.2.1.ext O0.2) (g := (mkF m 40 #[.val (.int p0), .val (.int p1), .val (.ref a_OR), .val (.ref a_OR), .unset] [(.ref a_OR)])) rfl (hb hby at_40)
      obtain ⟨cq7, kq7, q7a, q7b, q7c⟩ := isOf hZ e6 (hS.1.ext O0.2)
      obtain ⟨_, _, ⟨T7, L7, k7, n7⟩, -, X7, ⟨Lc7, hQ7, l7, y7, z7⟩, st7⟩ := X6.virtualBack hx (y := (⟨"com/example/rows_by_rule/rowsbyrule/query/Junction", "bindsLooserThan", "(Lcom/example/rows_by_rule/rowsbyrule/query/Junction;)Z"⟩ : MethodName)) (z := (⟨"com/example/rows_by_rule/rowsbyrule/query/Junction", "bindsLooserThan", "(Lcom/example/rows_by_rule/rowsbyrule/query/Junction;)Z"⟩ : MethodName)) hown (mvT hZ (hw _ (List.mem_of_getElem? (i := 5) rfl))) (mvT hZ (hw _ (List.mem_of_getElem? (i := 6) rfl))) (notFace_of_selects (args := #[]) (mvT hZ (hw _ (List.mem_of_getElem? (i := 8) rfl)))) (mvT hZ (hw _ (List.mem_of_getElem? (i := 8) rfl))) (mvT hZ (hw _ (List.mem_of_getElem? (i := 7) rfl))) (by decide) (backOf (W := 0) (rm1 l Z a0 hw [] a_OR a_OR (1 : Int32) (1 : Int32) (0 : Int32) h0 n0 (hS.2.2.2.2.1.ext O0.2) (hS.2.2.2.2.1.ext O0.2) (by decide)) hZ (hw _ (List.mem_of_getElem? (i := 9) rfl)) (hw _ (List.mem_of_getElem? (i := 1) rfl)) (by decide) (by decide)) q7a q7c (g := (mkF m 55 #[.val (.int p0), .val (.int p1), .val (.ref a_OR), .val (.ref a_OR), .val (.int (0 : Int32))] [(.ref a_OR), (.ref a_OR)])) rfl (by rw [hml]; rfl) (Steps.refl _) (argsL := [(.ref a_OR)]) (rest := []) (lenOf pd_0 rfl) rfl (by show 2 * 0 + _ ≤ _; exact Nat.le_of_eq rfl) (hb hby at_55) (fun _ _ => ⟨rfl, e6, (by decide : 0 + 0 ≤ _), (by decide : 0 + 0 ≤ _)⟩)
      dsimp only [Pt.U, Pt.locs, Pt.cells, Pt.slots] at X7 l7 y7 z7 st7 hQ7
      subst l7 y7 z7
      obtain ⟨rfl, N7q, e7⟩ := hQ7
      have N7 := Fr.app N0 N7q
      obtain ⟨fs, hr, hrun, hended, hW, hsame⟩ := X7.leave (v := (some (.int (1 : Int32)))) (fun h => by rw [Bd.returns] at h; cases h)
      refine ⟨_, _, gp3 _ ?_, hrun, hended, _, _, rfl, ?_, ⟨_, rfl⟩, hW, hsame.mono (by decide) (by decide)⟩
      · refine XS.ifNo X2.here hx rfl (hb hby at_19) rfl ((if0 _ _).trans (teq hc19).2) ?_
        show Steps p.tables e below (T2.setTop (mkF m 22 #[.val (.int p0), .val (.int p1), .val (.ref a_OR), .unset, .unset] [])) _
        refine st4 _ ?_
        show Steps p.tables e below (T4.setTop (mkF m 25 #[.val (.int p0), .val (.int p1), .val (.ref a_OR), .unset, .unset] [(.ref a_OR)])) _
        refine XS.goto X4.here hx rfl (pc0 := 25) (pc' := 31) rfl (hb hby at_25) (by decide) (by decide) ?_
        show Steps p.tables e below (T4.setTop (mkF m 31 #[.val (.int p0), .val (.int p1), .val (.ref a_OR), .unset, .unset] [(.ref a_OR)])) _
        refine XS.astoreN X4.here hx rfl (hb hby at_31) rfl rfl (l' := #[.val (.int p0), .val (.int p1), .val (.ref a_OR), .val (.ref a_OR), .unset]) rfl ?_
        show Steps p.tables e below (T4.setTop (mkF m 32 #[.val (.int p0), .val (.int p1), .val (.ref a_OR), .val (.ref a_OR), .unset] [])) _
        refine XS.aloadN X4.here hx rfl (hb hby at_32) rfl rfl ?_
        show Steps p.tables e below (T4.setTop (mkF m 33 #[.val (.int p0), .val (.int p1), .val (.ref a_OR), .val (.ref a_OR), .unset] [(.ref a_OR)])) _
        refine st5 _ ?_
        show Steps p.tables e below (T5.setTop (mkF m 36 #[.val (.int p0), .val (.int p1), .val (.ref a_OR), .val (.ref a_OR), .unset] [(.ref a_OR), (.ref a_OR)])) _
        refine Jvm.RoadKit.acmp (g := (mkF m 36 #[.val (.int p0), .val (.int p1), .val (.ref a_OR), .val (.ref a_OR), .unset] [(.ref a_OR), (.ref a_OR)])) X5 hx rfl rfl rfl (pc0 := 36) (pc' := 39) (same := true) rfl (hb hby at_36) rfl (decide_eq_true rfl) (by decide) (by decide) ?_
        show Steps p.tables e below (T5.setTop (mkF m 39 #[.val (.int p0), .val (.int p1), .val (.ref a_OR), .val (.ref a_OR), .unset] [])) _
        refine XS.aloadN X5.here hx rfl (hb hby at_39) rfl rfl ?_
        show Steps p.tables e below (T5.setTop (mkF m 40 #[.val (.int p0), .val (.int p1), .val (.ref a_OR), .val (.ref a_OR), .unset] [(.ref a_OR)])) _
        refine st6 _ ?_
        show Steps p.tables e below (T6.setTop (mkF m 43 #[.val (.int p0), .val (.int p1), .val (.ref a_OR), .val (.ref a_OR), .unset] [(.ref a_AND), (.ref a_OR)])) _
        refine Jvm.RoadKit.acmp (g := (mkF m 43 #[.val (.int p0), .val (.int p1), .val (.ref a_OR), .val (.ref a_OR), .unset] [(.ref a_AND), (.ref a_OR)])) X6 hx rfl rfl rfl (pc0 := 43) (pc' := 50) (same := false) rfl (hb hby at_43) rfl (decide_eq_false fun q => (Fld.ne hS.2.2.2.2.2.2.1 hS.2.2.2.2.2.2.2 (fun q => absurd (Value.int.inj q) (by decide))) (Value.ref.inj q)) (by decide) (by decide) ?_
        show Steps p.tables e below (T6.setTop (mkF m 50 #[.val (.int p0), .val (.int p1), .val (.ref a_OR), .val (.ref a_OR), .unset] [])) _
        refine XS.iconst X6.here hx rfl (hb hby at_50) ?_
        show Steps p.tables e below (T6.setTop (mkF m 51 #[.val (.int p0), .val (.int p1), .val (.ref a_OR), .val (.ref a_OR), .unset] [(.int (0 : Int32))])) _
        refine XS.istore X6.here hx rfl (hb hby at_51) rfl (l' := #[.val (.int p0), .val (.int p1), .val (.ref a_OR), .val (.ref a_OR), .val (.int (0 : Int32))]) rfl ?_
        show Steps p.tables e below (T6.setTop (mkF m 53 #[.val (.int p0), .val (.int p1), .val (.ref a_OR), .val (.ref a_OR), .val (.int (0 : Int32))] [])) _
        refine XS.aloadN X6.here hx rfl (hb hby at_53) rfl rfl ?_
        show Steps p.tables e below (T6.setTop (mkF m 54 #[.val (.int p0), .val (.int p1), .val (.ref a_OR), .val (.ref a_OR), .val (.int (0 : Int32))] [(.ref a_OR)])) _
        refine XS.aloadN X6.here hx rfl (hb hby at_54) rfl rfl ?_
        show Steps p.tables e below (T6.setTop (mkF m 55 #[.val (.int p0), .val (.int p1), .val (.ref a_OR), .val (.ref a_OR), .val (.int (0 : Int32))] [(.ref a_OR), (.ref a_OR)])) _
        refine st7.trans ?_
        show Steps p.tables e below (T7.setTop (mkF m 58 #[.val (.int p0), .val (.int p1), .val (.ref a_OR), .val (.ref a_OR), .val (.int (0 : Int32))] [(.int (0 : Int32))])) _
        refine XS.iload X7.here hx rfl (hb hby at_58) rfl ?_
        show Steps p.tables e below (T7.setTop (mkF m 60 #[.val (.int p0), .val (.int p1), .val (.ref a_OR), .val (.ref a_OR), .val (.int (0 : Int32))] [(.int (0 : Int32)), (.int (0 : Int32))])) _
        refine XS.icmpNo X7.here hx rfl (hb hby at_60) rfl (teq (by decide : (0 : Int32) = (0 : Int32))).2 ?_
        show Steps p.tables e below (T7.setTop (mkF m 63 #[.val (.int p0), .val (.int p1), .val (.ref a_OR), .val (.ref a_OR), .val (.int (0 : Int32))] [])) _
        refine XS.iconst X7.here hx rfl (hb hby at_63) ?_
        show Steps p.tables e below (T7.setTop (mkF m 64 #[.val (.int p0), .val (.int p1), .val (.ref a_OR), .val (.ref a_OR), .val (.int (0 : Int32))] [(.int (1 : Int32))])) _
        refine XS.goto X7.here hx rfl (pc0 := 64) (pc' := 68) rfl (hb hby at_64) (by decide) (by decide) ?_
        show Steps p.tables e below (T7.setTop (mkF m 68 #[.val (.int p0), .val (.int p1), .val (.ref a_OR), .val (.ref a_OR), .val (.int (0 : Int32))] [(.int (1 : Int32))])) _
        exact retN X7 hx (t := .boolean) Bd.returns (by simp) (hb hby at_68) hr
      · show Q0 n0 _ T7.heap _
        rw [e7]
        exact ⟨rfl, N7⟩
    · obtain ⟨T8, X8, e8, st8⟩ := getS2 X2 hx hZ hown (host := "") (Or.inl (hw _ (List.mem_of_getElem? (i := 3) rfl))) Via.refl e2 (hS.2.2.2.1.ext O0.2) (g := (mkF m 28 #[.val (.int p0), .val (.int p1), .val (.ref a_OR), .unset, .unset] [])) rfl (hb hby at_28)
      obtain ⟨T9, X9, e9, st9⟩ := getS2 X8 hx hZ hown (host := "") (Or.inl (hw _ (List.mem_of_getElem? (i := 0) rfl))) Via.refl e8 (hS.2.1.ext O0.2) (g := (mkF m 33 #[.val (.int p0), .val (.int p1), .val (.ref a_OR), .val (.ref a_AND), .unset] [(.ref a_OR)])) rfl (hb hby at_33)
      obtain ⟨T10, X10, e10, st10⟩ := getS2 X9 hx hZ hown (host := "") (Or.inl (hw _ (List.mem_of_getElem? (i := 3) rfl))) Via.refl e9 (hS.2.2.2.1.ext O0.2) (g := (mkF m 40 #[.val (.int p0), .val (.int p1), .val (.ref a_OR), .val (.ref a_AND), .unset] [(.ref a_AND)])) rfl (hb hby at_40)
      obtain ⟨cq11, kq11, q11a, q11b, q11c⟩ := isOf hZ e10 (hS.1.ext O0.2)
      obtain ⟨_, _, ⟨T11, L11, k11, n11⟩, -, X11, ⟨Lc11, hQ11, l11, y11, z11⟩, st11⟩ := X10.virtualBack hx (y := (⟨"com/example/rows_by_rule/rowsbyrule/query/Junction", "bindsLooserThan", "(Lcom/example/rows_by_rule/rowsbyrule/query/Junction;)Z"⟩ : MethodName)) (z := (⟨"com/example/rows_by_rule/rowsbyrule/query/Junction", "bindsLooserThan", "(Lcom/example/rows_by_rule/rowsbyrule/query/Junction;)Z"⟩ : MethodName)) hown (mvT hZ (hw _ (List.mem_of_getElem? (i := 5) rfl))) (mvT hZ (hw _ (List.mem_of_getElem? (i := 6) rfl))) (notFace_of_selects (args := #[]) (mvT hZ (hw _ (List.mem_of_getElem? (i := 8) rfl)))) (mvT hZ (hw _ (List.mem_of_getElem? (i := 8) rfl))) (mvT hZ (hw _ (List.mem_of_getElem? (i := 7) rfl))) (by decide) (backOf (W := 0) (rm1 l Z a0 hw [] a_OR a_AND (1 : Int32) (2 : Int32) (1 : Int32) h0 n0 (hS.2.2.2.2.1.ext O0.2) (hS.2.2.2.2.2.1.ext O0.2) (by decide)) hZ (hw _ (List.mem_of_getElem? (i := 9) rfl)) (hw _ (List.mem_of_getElem? (i := 1) rfl)) (by decide) (by decide)) q11a q11c (g := (mkF m 55 #[.val (.int p0), .val (.int p1), .val (.ref a_OR), .val (.ref a_AND), .val (.int (1 : Int32))] [(.ref a_AND), (.ref a_OR)])) rfl (by rw [hml]; rfl) (Steps.refl _) (argsL := [(.ref a_AND)]) (rest := []) (lenOf pd_0 rfl) rfl (by show 2 * 0 + _ ≤ _; exact Nat.le_of_eq rfl) (hb hby at_55) (fun _ _ => ⟨rfl, e10, (by decide : 0 + 0 ≤ _), (by decide : 0 + 0 ≤ _)⟩)
      dsimp only [Pt.U, Pt.locs, Pt.cells, Pt.slots] at X11 l11 y11 z11 st11 hQ11
      subst l11 y11 z11
      obtain ⟨rfl, N11q, e11⟩ := hQ11
      have N11 := Fr.app N0 N11q
      obtain ⟨fs, hr, hrun, hended, hW, hsame⟩ := X11.leave (v := (some (.int (1 : Int32)))) (fun h => by rw [Bd.returns] at h; cases h)
      refine ⟨_, _, gp3 _ ?_, hrun, hended, _, _, rfl, ?_, ⟨_, rfl⟩, hW, hsame.mono (by decide) (by decide)⟩
      · refine XS.ifYes X2.here hx rfl (pc0 := 19) (pc' := 28) rfl (hb hby at_19) rfl ((if0 _ _).trans (feq hc19).2) (by decide) (by decide) ?_
        show Steps p.tables e below (T2.setTop (mkF m 28 #[.val (.int p0), .val (.int p1), .val (.ref a_OR), .unset, .unset] [])) _
        refine st8 _ ?_
        show Steps p.tables e below (T8.setTop (mkF m 31 #[.val (.int p0), .val (.int p1), .val (.ref a_OR), .unset, .unset] [(.ref a_AND)])) _
        refine XS.astoreN X8.here hx rfl (hb hby at_31) rfl rfl (l' := #[.val (.int p0), .val (.int p1), .val (.ref a_OR), .val (.ref a_AND), .unset]) rfl ?_
        show Steps p.tables e below (T8.setTop (mkF m 32 #[.val (.int p0), .val (.int p1), .val (.ref a_OR), .val (.ref a_AND), .unset] [])) _
        refine XS.aloadN X8.here hx rfl (hb hby at_32) rfl rfl ?_
        show Steps p.tables e below (T8.setTop (mkF m 33 #[.val (.int p0), .val (.int p1), .val (.ref a_OR), .val (.ref a_AND), .unset] [(.ref a_OR)])) _
        refine st9 _ ?_
        show Steps p.tables e below (T9.setTop (mkF m 36 #[.val (.int p0), .val (.int p1), .val (.ref a_OR), .val (.ref a_AND), .unset] [(.ref a_OR), (.ref a_OR)])) _
        refine Jvm.RoadKit.acmp (g := (mkF m 36 #[.val (.int p0), .val (.int p1), .val (.ref a_OR), .val (.ref a_AND), .unset] [(.ref a_OR), (.ref a_OR)])) X9 hx rfl rfl rfl (pc0 := 36) (pc' := 39) (same := true) rfl (hb hby at_36) rfl (decide_eq_true rfl) (by decide) (by decide) ?_
        show Steps p.tables e below (T9.setTop (mkF m 39 #[.val (.int p0), .val (.int p1), .val (.ref a_OR), .val (.ref a_AND), .unset] [])) _
        refine XS.aloadN X9.here hx rfl (hb hby at_39) rfl rfl ?_
        show Steps p.tables e below (T9.setTop (mkF m 40 #[.val (.int p0), .val (.int p1), .val (.ref a_OR), .val (.ref a_AND), .unset] [(.ref a_AND)])) _
        refine st10 _ ?_
        show Steps p.tables e below (T10.setTop (mkF m 43 #[.val (.int p0), .val (.int p1), .val (.ref a_OR), .val (.ref a_AND), .unset] [(.ref a_AND), (.ref a_AND)])) _
        refine Jvm.RoadKit.acmp (g := (mkF m 43 #[.val (.int p0), .val (.int p1), .val (.ref a_OR), .val (.ref a_AND), .unset] [(.ref a_AND), (.ref a_AND)])) X10 hx rfl rfl rfl (pc0 := 43) (pc' := 46) (same := true) rfl (hb hby at_43) rfl (decide_eq_true rfl) (by decide) (by decide) ?_
        show Steps p.tables e below (T10.setTop (mkF m 46 #[.val (.int p0), .val (.int p1), .val (.ref a_OR), .val (.ref a_AND), .unset] [])) _
        refine XS.iconst X10.here hx rfl (hb hby at_46) ?_
        show Steps p.tables e below (T10.setTop (mkF m 47 #[.val (.int p0), .val (.int p1), .val (.ref a_OR), .val (.ref a_AND), .unset] [(.int (1 : Int32))])) _
        refine XS.goto X10.here hx rfl (pc0 := 47) (pc' := 51) rfl (hb hby at_47) (by decide) (by decide) ?_
        show Steps p.tables e below (T10.setTop (mkF m 51 #[.val (.int p0), .val (.int p1), .val (.ref a_OR), .val (.ref a_AND), .unset] [(.int (1 : Int32))])) _
        refine XS.istore X10.here hx rfl (hb hby at_51) rfl (l' := #[.val (.int p0), .val (.int p1), .val (.ref a_OR), .val (.ref a_AND), .val (.int (1 : Int32))]) rfl ?_
        show Steps p.tables e below (T10.setTop (mkF m 53 #[.val (.int p0), .val (.int p1), .val (.ref a_OR), .val (.ref a_AND), .val (.int (1 : Int32))] [])) _
        refine XS.aloadN X10.here hx rfl (hb hby at_53) rfl rfl ?_
        show Steps p.tables e below (T10.setTop (mkF m 54 #[.val (.int p0), .val (.int p1), .val (.ref a_OR), .val (.ref a_AND), .val (.int (1 : Int32))] [(.ref a_OR)])) _
        refine XS.aloadN X10.here hx rfl (hb hby at_54) rfl rfl ?_
        show Steps p.tables e below (T10.setTop (mkF m 55 #[.val (.int p0), .val (.int p1), .val (.ref a_OR), .val (.ref a_AND), .val (.int (1 : Int32))] [(.ref a_AND), (.ref a_OR)])) _
        refine st11.trans ?_
        show Steps p.tables e below (T11.setTop (mkF m 58 #[.val (.int p0), .val (.int p1), .val (.ref a_OR), .val (.ref a_AND), .val (.int (1 : Int32))] [(.int (1 : Int32))])) _
        refine XS.iload X11.here hx rfl (hb hby at_58) rfl ?_
        show Steps p.tables e below (T11.setTop (mkF m 60 #[.val (.int p0), .val (.int p1), .val (.ref a_OR), .val (.ref a_AND), .val (.int (1 : Int32))] [(.int (1 : Int32)), (.int (1 : Int32))])) _
        refine XS.icmpNo X11.here hx rfl (hb hby at_60) rfl (teq (by decide : (1 : Int32) = (1 : Int32))).2 ?_
        show Steps p.tables e below (T11.setTop (mkF m 63 #[.val (.int p0), .val (.int p1), .val (.ref a_OR), .val (.ref a_AND), .val (.int (1 : Int32))] [])) _
        refine XS.iconst X11.here hx rfl (hb hby at_63) ?_
        show Steps p.tables e below (T11.setTop (mkF m 64 #[.val (.int p0), .val (.int p1), .val (.ref a_OR), .val (.ref a_AND), .val (.int (1 : Int32))] [(.int (1 : Int32))])) _
        refine XS.goto X11.here hx rfl (pc0 := 64) (pc' := 68) rfl (hb hby at_64) (by decide) (by decide) ?_
        show Steps p.tables e below (T11.setTop (mkF m 68 #[.val (.int p0), .val (.int p1), .val (.ref a_OR), .val (.ref a_AND), .val (.int (1 : Int32))] [(.int (1 : Int32))])) _
        exact retN X11 hx (t := .boolean) Bd.returns (by simp) (hb hby at_68) hr
      · show Q0 n0 _ T11.heap _
        rw [e11]
        exact ⟨rfl, N11⟩
  · obtain ⟨T12, X12, e12, st12⟩ := getS2 X0 hx hZ hown (host := "") (Or.inl (hw _ (List.mem_of_getElem? (i := 3) rfl))) Via.refl e0 (hS.2.2.2.1.ext O0.2) (g := (mkF m 12 #[.val (.int p0), .val (.int p1), .unset, .unset, .unset] [])) rfl (hb hby at_12)
    have gp13 : ∀ t, Steps p.tables e below (T12.setTop (mkF m 19 #[.val (.int p0), .val (.int p1), .val (.ref a_AND), .unset, .unset] [(.int (p1 &&& (1 : Int32)))])) t → Steps p.tables e below (s₁.setTop (entryFrame m #[(.int p0), (.int p1)] maxLocals)) t := fun t kt => gp1 t (by
      refine XS.ifYes X0.here hx rfl (pc0 := 3) (pc' := 12) rfl (hb hby at_3) rfl ((if0 _ _).trans (feq hc3).2) (by decide) (by decide) ?_
      show Steps p.tables e below (s₁.setTop (mkF m 12 #[.val (.int p0), .val (.int p1), .unset, .unset, .unset] [])) _
      refine st12 _ ?_
      show Steps p.tables e below (T12.setTop (mkF m 15 #[.val (.int p0), .val (.int p1), .unset, .unset, .unset] [(.ref a_AND)])) _
      refine XS.astoreN X12.here hx rfl (hb hby at_15) rfl rfl (l' := #[.val (.int p0), .val (.int p1), .val (.ref a_AND), .unset, .unset]) rfl ?_
      show Steps p.tables e below (T12.setTop (mkF m 16 #[.val (.int p0), .val (.int p1), .val (.ref a_AND), .unset, .unset] [])) _
      refine XS.iloadN X12.here hx rfl (hb hby at_16) rfl ?_
      show Steps p.tables e below (T12.setTop (mkF m 17 #[.val (.int p0), .val (.int p1), .val (.ref a_AND), .unset, .unset] [(.int p1)])) _
      refine XS.iconst X12.here hx rfl (hb hby at_17) ?_
      show Steps p.tables e below (T12.setTop (mkF m 18 #[.val (.int p0), .val (.int p1), .val (.ref a_AND), .unset, .unset] [(.int (1 : Int32)), (.int p1)])) _
      refine XS.iand X12.here hx rfl (hb hby at_18) rfl ?_
      show Steps p.tables e below (T12.setTop (mkF m 19 #[.val (.int p0), .val (.int p1), .val (.ref a_AND), .unset, .unset] [(.int (p1 &&& (1 : Int32)))])) _
      exact kt)
    by_cases hc19 : (p1 &&& (1 : Int32)) = (0 : Int32)
    · obtain ⟨T14, X14, e14, st14⟩ := getS2 X12 hx hZ hown (host := "") (Or.inl (hw _ (List.mem_of_getElem? (i := 0) rfl))) Via.refl e12 (hS.2.1.ext O0.2) (g := (mkF m 22 #[.val (.int p0), .val (.int p1), .val (.ref a_AND), .unset, .unset] [])) rfl (hb hby at_22)
      obtain ⟨T15, X15, e15, st15⟩ := getS2 X14 hx hZ hown (host := "") (Or.inl (hw _ (List.mem_of_getElem? (i := 0) rfl))) Via.refl e14 (hS.2.1.ext O0.2) (g := (mkF m 33 #[.val (.int p0), .val (.int p1), .val (.ref a_AND), .val (.ref a_OR), .unset] [(.ref a_AND)])) rfl (hb hby at_33)
      obtain ⟨cq16, kq16, q16a, q16b, q16c⟩ := isOf hZ e15 (hS.2.2.1.ext O0.2)
      obtain ⟨_, _, ⟨T16, L16, k16, n16⟩, -, X16, ⟨Lc16, hQ16, l16, y16, z16⟩, st16⟩ := X15.virtualBack hx (y := (⟨"com/example/rows_by_rule/rowsbyrule/query/Junction", "bindsLooserThan", "(Lcom/example/rows_by_rule/rowsbyrule/query/Junction;)Z"⟩ : MethodName)) (z := (⟨"com/example/rows_by_rule/rowsbyrule/query/Junction", "bindsLooserThan", "(Lcom/example/rows_by_rule/rowsbyrule/query/Junction;)Z"⟩ : MethodName)) hown (mvT hZ (hw _ (List.mem_of_getElem? (i := 5) rfl))) (mvT hZ (hw _ (List.mem_of_getElem? (i := 6) rfl))) (notFace_of_selects (args := #[]) (mvT hZ (hw _ (List.mem_of_getElem? (i := 8) rfl)))) (mvT hZ (hw _ (List.mem_of_getElem? (i := 8) rfl))) (mvT hZ (hw _ (List.mem_of_getElem? (i := 7) rfl))) (by decide) (backOf (W := 0) (rm1 l Z a0 hw [] a_AND a_OR (2 : Int32) (1 : Int32) (0 : Int32) h0 n0 (hS.2.2.2.2.2.1.ext O0.2) (hS.2.2.2.2.1.ext O0.2) (by decide)) hZ (hw _ (List.mem_of_getElem? (i := 9) rfl)) (hw _ (List.mem_of_getElem? (i := 1) rfl)) (by decide) (by decide)) q16a q16c (g := (mkF m 55 #[.val (.int p0), .val (.int p1), .val (.ref a_AND), .val (.ref a_OR), .val (.int (0 : Int32))] [(.ref a_OR), (.ref a_AND)])) rfl (by rw [hml]; rfl) (Steps.refl _) (argsL := [(.ref a_OR)]) (rest := []) (lenOf pd_0 rfl) rfl (by show 2 * 0 + _ ≤ _; exact Nat.le_of_eq rfl) (hb hby at_55) (fun _ _ => ⟨rfl, e15, (by decide : 0 + 0 ≤ _), (by decide : 0 + 0 ≤ _)⟩)
      dsimp only [Pt.U, Pt.locs, Pt.cells, Pt.slots] at X16 l16 y16 z16 st16 hQ16
      subst l16 y16 z16
      obtain ⟨rfl, N16q, e16⟩ := hQ16
      have N16 := Fr.app N0 N16q
      obtain ⟨fs, hr, hrun, hended, hW, hsame⟩ := X16.leave (v := (some (.int (1 : Int32)))) (fun h => by rw [Bd.returns] at h; cases h)
      refine ⟨_, _, gp13 _ ?_, hrun, hended, _, _, rfl, ?_, ⟨_, rfl⟩, hW, hsame.mono (by decide) (by decide)⟩
      · refine XS.ifNo X12.here hx rfl (hb hby at_19) rfl ((if0 _ _).trans (teq hc19).2) ?_
        show Steps p.tables e below (T12.setTop (mkF m 22 #[.val (.int p0), .val (.int p1), .val (.ref a_AND), .unset, .unset] [])) _
        refine st14 _ ?_
        show Steps p.tables e below (T14.setTop (mkF m 25 #[.val (.int p0), .val (.int p1), .val (.ref a_AND), .unset, .unset] [(.ref a_OR)])) _
        refine XS.goto X14.here hx rfl (pc0 := 25) (pc' := 31) rfl (hb hby at_25) (by decide) (by decide) ?_
        show Steps p.tables e below (T14.setTop (mkF m 31 #[.val (.int p0), .val (.int p1), .val (.ref a_AND), .unset, .unset] [(.ref a_OR)])) _
        refine XS.astoreN X14.here hx rfl (hb hby at_31) rfl rfl (l' := #[.val (.int p0), .val (.int p1), .val (.ref a_AND), .val (.ref a_OR), .unset]) rfl ?_
        show Steps p.tables e below (T14.setTop (mkF m 32 #[.val (.int p0), .val (.int p1), .val (.ref a_AND), .val (.ref a_OR), .unset] [])) _
        refine XS.aloadN X14.here hx rfl (hb hby at_32) rfl rfl ?_
        show Steps p.tables e below (T14.setTop (mkF m 33 #[.val (.int p0), .val (.int p1), .val (.ref a_AND), .val (.ref a_OR), .unset] [(.ref a_AND)])) _
        refine st15 _ ?_
        show Steps p.tables e below (T15.setTop (mkF m 36 #[.val (.int p0), .val (.int p1), .val (.ref a_AND), .val (.ref a_OR), .unset] [(.ref a_OR), (.ref a_AND)])) _
        refine Jvm.RoadKit.acmp (g := (mkF m 36 #[.val (.int p0), .val (.int p1), .val (.ref a_AND), .val (.ref a_OR), .unset] [(.ref a_OR), (.ref a_AND)])) X15 hx rfl rfl rfl (pc0 := 36) (pc' := 50) (same := false) rfl (hb hby at_36) rfl (decide_eq_false fun q => (Fld.ne hS.2.2.2.2.2.2.2 hS.2.2.2.2.2.2.1 (fun q => absurd (Value.int.inj q) (by decide))) (Value.ref.inj q)) (by decide) (by decide) ?_
        show Steps p.tables e below (T15.setTop (mkF m 50 #[.val (.int p0), .val (.int p1), .val (.ref a_AND), .val (.ref a_OR), .unset] [])) _
        refine XS.iconst X15.here hx rfl (hb hby at_50) ?_
        show Steps p.tables e below (T15.setTop (mkF m 51 #[.val (.int p0), .val (.int p1), .val (.ref a_AND), .val (.ref a_OR), .unset] [(.int (0 : Int32))])) _
        refine XS.istore X15.here hx rfl (hb hby at_51) rfl (l' := #[.val (.int p0), .val (.int p1), .val (.ref a_AND), .val (.ref a_OR), .val (.int (0 : Int32))]) rfl ?_
        show Steps p.tables e below (T15.setTop (mkF m 53 #[.val (.int p0), .val (.int p1), .val (.ref a_AND), .val (.ref a_OR), .val (.int (0 : Int32))] [])) _
        refine XS.aloadN X15.here hx rfl (hb hby at_53) rfl rfl ?_
        show Steps p.tables e below (T15.setTop (mkF m 54 #[.val (.int p0), .val (.int p1), .val (.ref a_AND), .val (.ref a_OR), .val (.int (0 : Int32))] [(.ref a_AND)])) _
        refine XS.aloadN X15.here hx rfl (hb hby at_54) rfl rfl ?_
        show Steps p.tables e below (T15.setTop (mkF m 55 #[.val (.int p0), .val (.int p1), .val (.ref a_AND), .val (.ref a_OR), .val (.int (0 : Int32))] [(.ref a_OR), (.ref a_AND)])) _
        refine st16.trans ?_
        show Steps p.tables e below (T16.setTop (mkF m 58 #[.val (.int p0), .val (.int p1), .val (.ref a_AND), .val (.ref a_OR), .val (.int (0 : Int32))] [(.int (0 : Int32))])) _
        refine XS.iload X16.here hx rfl (hb hby at_58) rfl ?_
        show Steps p.tables e below (T16.setTop (mkF m 60 #[.val (.int p0), .val (.int p1), .val (.ref a_AND), .val (.ref a_OR), .val (.int (0 : Int32))] [(.int (0 : Int32)), (.int (0 : Int32))])) _
        refine XS.icmpNo X16.here hx rfl (hb hby at_60) rfl (teq (by decide : (0 : Int32) = (0 : Int32))).2 ?_
        show Steps p.tables e below (T16.setTop (mkF m 63 #[.val (.int p0), .val (.int p1), .val (.ref a_AND), .val (.ref a_OR), .val (.int (0 : Int32))] [])) _
        refine XS.iconst X16.here hx rfl (hb hby at_63) ?_
        show Steps p.tables e below (T16.setTop (mkF m 64 #[.val (.int p0), .val (.int p1), .val (.ref a_AND), .val (.ref a_OR), .val (.int (0 : Int32))] [(.int (1 : Int32))])) _
        refine XS.goto X16.here hx rfl (pc0 := 64) (pc' := 68) rfl (hb hby at_64) (by decide) (by decide) ?_
        show Steps p.tables e below (T16.setTop (mkF m 68 #[.val (.int p0), .val (.int p1), .val (.ref a_AND), .val (.ref a_OR), .val (.int (0 : Int32))] [(.int (1 : Int32))])) _
        exact retN X16 hx (t := .boolean) Bd.returns (by simp) (hb hby at_68) hr
      · show Q0 n0 _ T16.heap _
        rw [e16]
        exact ⟨rfl, N16⟩
    · obtain ⟨T17, X17, e17, st17⟩ := getS2 X12 hx hZ hown (host := "") (Or.inl (hw _ (List.mem_of_getElem? (i := 3) rfl))) Via.refl e12 (hS.2.2.2.1.ext O0.2) (g := (mkF m 28 #[.val (.int p0), .val (.int p1), .val (.ref a_AND), .unset, .unset] [])) rfl (hb hby at_28)
      obtain ⟨T18, X18, e18, st18⟩ := getS2 X17 hx hZ hown (host := "") (Or.inl (hw _ (List.mem_of_getElem? (i := 0) rfl))) Via.refl e17 (hS.2.1.ext O0.2) (g := (mkF m 33 #[.val (.int p0), .val (.int p1), .val (.ref a_AND), .val (.ref a_AND), .unset] [(.ref a_AND)])) rfl (hb hby at_33)
      obtain ⟨cq19, kq19, q19a, q19b, q19c⟩ := isOf hZ e18 (hS.2.2.1.ext O0.2)
      obtain ⟨_, _, ⟨T19, L19, k19, n19⟩, -, X19, ⟨Lc19, hQ19, l19, y19, z19⟩, st19⟩ := X18.virtualBack hx (y := (⟨"com/example/rows_by_rule/rowsbyrule/query/Junction", "bindsLooserThan", "(Lcom/example/rows_by_rule/rowsbyrule/query/Junction;)Z"⟩ : MethodName)) (z := (⟨"com/example/rows_by_rule/rowsbyrule/query/Junction", "bindsLooserThan", "(Lcom/example/rows_by_rule/rowsbyrule/query/Junction;)Z"⟩ : MethodName)) hown (mvT hZ (hw _ (List.mem_of_getElem? (i := 5) rfl))) (mvT hZ (hw _ (List.mem_of_getElem? (i := 6) rfl))) (notFace_of_selects (args := #[]) (mvT hZ (hw _ (List.mem_of_getElem? (i := 8) rfl)))) (mvT hZ (hw _ (List.mem_of_getElem? (i := 8) rfl))) (mvT hZ (hw _ (List.mem_of_getElem? (i := 7) rfl))) (by decide) (backOf (W := 0) (rm1 l Z a0 hw [] a_AND a_AND (2 : Int32) (2 : Int32) (0 : Int32) h0 n0 (hS.2.2.2.2.2.1.ext O0.2) (hS.2.2.2.2.2.1.ext O0.2) (by decide)) hZ (hw _ (List.mem_of_getElem? (i := 9) rfl)) (hw _ (List.mem_of_getElem? (i := 1) rfl)) (by decide) (by decide)) q19a q19c (g := (mkF m 55 #[.val (.int p0), .val (.int p1), .val (.ref a_AND), .val (.ref a_AND), .val (.int (0 : Int32))] [(.ref a_AND), (.ref a_AND)])) rfl (by rw [hml]; rfl) (Steps.refl _) (argsL := [(.ref a_AND)]) (rest := []) (lenOf pd_0 rfl) rfl (by show 2 * 0 + _ ≤ _; exact Nat.le_of_eq rfl) (hb hby at_55) (fun _ _ => ⟨rfl, e18, (by decide : 0 + 0 ≤ _), (by decide : 0 + 0 ≤ _)⟩)
      dsimp only [Pt.U, Pt.locs, Pt.cells, Pt.slots] at X19 l19 y19 z19 st19 hQ19
      subst l19 y19 z19
      obtain ⟨rfl, N19q, e19⟩ := hQ19
      have N19 := Fr.app N0 N19q
      obtain ⟨fs, hr, hrun, hended, hW, hsame⟩ := X19.leave (v := (some (.int (1 : Int32)))) (fun h => by rw [Bd.returns] at h; cases h)
      refine ⟨_, _, gp13 _ ?_, hrun, hended, _, _, rfl, ?_, ⟨_, rfl⟩, hW, hsame.mono (by decide) (by decide)⟩
      · refine XS.ifYes X12.here hx rfl (pc0 := 19) (pc' := 28) rfl (hb hby at_19) rfl ((if0 _ _).trans (feq hc19).2) (by decide) (by decide) ?_
        show Steps p.tables e below (T12.setTop (mkF m 28 #[.val (.int p0), .val (.int p1), .val (.ref a_AND), .unset, .unset] [])) _
        refine st17 _ ?_
        show Steps p.tables e below (T17.setTop (mkF m 31 #[.val (.int p0), .val (.int p1), .val (.ref a_AND), .unset, .unset] [(.ref a_AND)])) _
        refine XS.astoreN X17.here hx rfl (hb hby at_31) rfl rfl (l' := #[.val (.int p0), .val (.int p1), .val (.ref a_AND), .val (.ref a_AND), .unset]) rfl ?_
        show Steps p.tables e below (T17.setTop (mkF m 32 #[.val (.int p0), .val (.int p1), .val (.ref a_AND), .val (.ref a_AND), .unset] [])) _
        refine XS.aloadN X17.here hx rfl (hb hby at_32) rfl rfl ?_
        show Steps p.tables e below (T17.setTop (mkF m 33 #[.val (.int p0), .val (.int p1), .val (.ref a_AND), .val (.ref a_AND), .unset] [(.ref a_AND)])) _
        refine st18 _ ?_
        show Steps p.tables e below (T18.setTop (mkF m 36 #[.val (.int p0), .val (.int p1), .val (.ref a_AND), .val (.ref a_AND), .unset] [(.ref a_OR), (.ref a_AND)])) _
        refine Jvm.RoadKit.acmp (g := (mkF m 36 #[.val (.int p0), .val (.int p1), .val (.ref a_AND), .val (.ref a_AND), .unset] [(.ref a_OR), (.ref a_AND)])) X18 hx rfl rfl rfl (pc0 := 36) (pc' := 50) (same := false) rfl (hb hby at_36) rfl (decide_eq_false fun q => (Fld.ne hS.2.2.2.2.2.2.2 hS.2.2.2.2.2.2.1 (fun q => absurd (Value.int.inj q) (by decide))) (Value.ref.inj q)) (by decide) (by decide) ?_
        show Steps p.tables e below (T18.setTop (mkF m 50 #[.val (.int p0), .val (.int p1), .val (.ref a_AND), .val (.ref a_AND), .unset] [])) _
        refine XS.iconst X18.here hx rfl (hb hby at_50) ?_
        show Steps p.tables e below (T18.setTop (mkF m 51 #[.val (.int p0), .val (.int p1), .val (.ref a_AND), .val (.ref a_AND), .unset] [(.int (0 : Int32))])) _
        refine XS.istore X18.here hx rfl (hb hby at_51) rfl (l' := #[.val (.int p0), .val (.int p1), .val (.ref a_AND), .val (.ref a_AND), .val (.int (0 : Int32))]) rfl ?_
        show Steps p.tables e below (T18.setTop (mkF m 53 #[.val (.int p0), .val (.int p1), .val (.ref a_AND), .val (.ref a_AND), .val (.int (0 : Int32))] [])) _
        refine XS.aloadN X18.here hx rfl (hb hby at_53) rfl rfl ?_
        show Steps p.tables e below (T18.setTop (mkF m 54 #[.val (.int p0), .val (.int p1), .val (.ref a_AND), .val (.ref a_AND), .val (.int (0 : Int32))] [(.ref a_AND)])) _
        refine XS.aloadN X18.here hx rfl (hb hby at_54) rfl rfl ?_
        show Steps p.tables e below (T18.setTop (mkF m 55 #[.val (.int p0), .val (.int p1), .val (.ref a_AND), .val (.ref a_AND), .val (.int (0 : Int32))] [(.ref a_AND), (.ref a_AND)])) _
        refine st19.trans ?_
        show Steps p.tables e below (T19.setTop (mkF m 58 #[.val (.int p0), .val (.int p1), .val (.ref a_AND), .val (.ref a_AND), .val (.int (0 : Int32))] [(.int (0 : Int32))])) _
        refine XS.iload X19.here hx rfl (hb hby at_58) rfl ?_
        show Steps p.tables e below (T19.setTop (mkF m 60 #[.val (.int p0), .val (.int p1), .val (.ref a_AND), .val (.ref a_AND), .val (.int (0 : Int32))] [(.int (0 : Int32)), (.int (0 : Int32))])) _
        refine XS.icmpNo X19.here hx rfl (hb hby at_60) rfl (teq (by decide : (0 : Int32) = (0 : Int32))).2 ?_
        show Steps p.tables e below (T19.setTop (mkF m 63 #[.val (.int p0), .val (.int p1), .val (.ref a_AND), .val (.ref a_AND), .val (.int (0 : Int32))] [])) _
        refine XS.iconst X19.here hx rfl (hb hby at_63) ?_
        show Steps p.tables e below (T19.setTop (mkF m 64 #[.val (.int p0), .val (.int p1), .val (.ref a_AND), .val (.ref a_AND), .val (.int (0 : Int32))] [(.int (1 : Int32))])) _
        refine XS.goto X19.here hx rfl (pc0 := 64) (pc' := 68) rfl (hb hby at_64) (by decide) (by decide) ?_
        show Steps p.tables e below (T19.setTop (mkF m 68 #[.val (.int p0), .val (.int p1), .val (.ref a_AND), .val (.ref a_AND), .val (.int (0 : Int32))] [(.int (1 : Int32))])) _
        exact retN X19 hx (t := .boolean) Bd.returns (by simp) (hb hby at_68) hr
      · show Q0 n0 _ T19.heap _
        rw [e19]
        exact ⟨rfl, N19⟩
set_option maxRecDepth 65536 in
set_option maxHeartbeats 40000000 in
theorem comes_1 {Post : Tables → Env → Array Value → State → Outcome → State → Prop} (hpost : ∀ tb e args s v u, (limb_1_1.after args s (.returned v) u = true ∧ limb_1_2.after args s (.returned v) u = true ∧ True) → FrameEnd s (.returned v) u (Jvm.fieldLocs frame_1_writes args s ++ Jvm.arrayLocs frame_1_arrays args s ++ Jvm.staticLocs frame_1_statics s) 0 0 → Post tb e args s (.returned v) u) :
    ArmFor flags0 classFile x code maxLocals ret World_1 tables_1 room_1 Calls_1 rest_1 Pre_1 Post := by
  intro l hfl _ _ p e ha hc hk s m args below hf hA hF happ hP
  obtain ⟨hcalls, hrest, hpre⟩ := hP
  obtain ⟨-, -, -, hnamed, -, -, -, hat⟩ := (Spec.applies_iff hf).mp happ
  obtain ⟨hg, hn⟩ := and_e (Cond.before_iff.mp (show (Jvm.Cond.and given_1 narrow_1).before args s = true from hpre))
  obtain ⟨g0, r0⟩ := and_e hg
  obtain ⟨g1, r1⟩ := and_e r0
  obtain ⟨w0, w1, rfl⟩ : ∃ w0 w1 : Value, args = #[w0, w1] := by
    have hs : args.size = 2 := by simpa [Cond.value, given_1] using g0
    obtain ⟨L⟩ := args
    match L, hs with
    | [w0, w1], _ => exact ⟨w0, w1, rfl⟩
  have hw := fun d (hd : d ∈ tables_1) => atoms_spec (ws := Jvm.Cond.code x code maxLocals ret :: tables_1) hat d (List.mem_cons_of_mem _ hd)
  have hfit : Fit s := fun {y c} hc i hi => by
    obtain ⟨ha, rfl⟩ := Array.getElem?_eq_some_iff.mp hc
    have q := List.all_eq_true.mp ((Array.all_eq_true_iff_forall_mem.mp hF) _ (Array.getElem_mem ha)) i (List.mem_range.mpr hi)
    simpa [Array.getElem?_eq_getElem hi] using q
  obtain ⟨i0, ei0⟩ := is_v g1
  obtain rfl : w0 = (.int i0) := Option.some.inj ei0
  obtain ⟨i1, ei1⟩ := is_v r1
  obtain rfl : w1 = (.int i1) := Option.some.inj ei1
  obtain ⟨n0, m0⟩ := and_e hn
  obtain ⟨n1, m1⟩ := and_e m0
  obtain ⟨n2, m2⟩ := and_e m1
  obtain ⟨n3, m3⟩ := and_e m2
  obtain ⟨n4, m4⟩ := and_e m3
  obtain ⟨a_OR, ev_a_OR⟩ := exa_v n0
  have E_a_OR : Exa s s.heap a_OR "com/example/rows_by_rule/rowsbyrule/query/Junction" := Exa.start ev_a_OR n0
  have S_a_OR : Sta s s.heap "com/example/rows_by_rule/rowsbyrule/query/Junction" "OR" "Lcom/example/rows_by_rule/rowsbyrule/query/Junction;" (.ref a_OR) := Sta.start ev_a_OR (Or.inr ⟨(hw _ (List.mem_of_getElem? (i := 1) rfl)), (hw _ (List.mem_of_getElem? (i := 2) rfl))⟩)
  obtain ⟨a_AND, ev_a_AND⟩ := exa_v n1
  have E_a_AND : Exa s s.heap a_AND "com/example/rows_by_rule/rowsbyrule/query/Junction" := Exa.start ev_a_AND n1
  have S_a_AND : Sta s s.heap "com/example/rows_by_rule/rowsbyrule/query/Junction" "AND" "Lcom/example/rows_by_rule/rowsbyrule/query/Junction;" (.ref a_AND) := Sta.start ev_a_AND (Or.inr ⟨(hw _ (List.mem_of_getElem? (i := 1) rfl)), (hw _ (List.mem_of_getElem? (i := 4) rfl))⟩)
  have F_precedence_a_OR : Fld s s.heap a_OR "com/example/rows_by_rule/rowsbyrule/query/Junction" "precedence" "I" (.int (1 : Int32)) := Fld.start ((fld_at ev_a_OR).symm.trans (Cond.eq_int (Cond.before_iff.mpr n2) rfl))
  have F_precedence_a_AND : Fld s s.heap a_AND "com/example/rows_by_rule/rowsbyrule/query/Junction" "precedence" "I" (.int (2 : Int32)) := Fld.start ((fld_at ev_a_AND).symm.trans (Cond.eq_int (Cond.before_iff.mpr n3) rfl))
  have F_ordinal_a_OR : Fld s s.heap a_OR "java/lang/Enum" "ordinal" "I" (.int (0 : Int32)) := Fld.start ((fld_at ev_a_OR).symm.trans (Cond.eq_int (Cond.before_iff.mpr n4) rfl))
  have F_ordinal_a_AND : Fld s s.heap a_AND "java/lang/Enum" "ordinal" "I" (.int (1 : Int32)) := Fld.start ((fld_at ev_a_AND).symm.trans (Cond.eq_int (Cond.before_iff.mpr m4) rfl))
  obtain ⟨n, o, h1, h2, h3, _, L, rfl, ⟨rfl, N⟩, hq⟩ := rm0 l s _ hw tables_1 a_OR a_AND ⟨E_a_OR, S_a_OR, E_a_AND, S_a_AND, F_precedence_a_OR, F_precedence_a_AND, F_ordinal_a_OR, F_ordinal_a_AND⟩ i0 i1 s.heap s.heap.size (Old.start s) p e ha hc hk s m _ below hf ((Spec.applies_iff_loose hf).mp happ).1 ⟨rfl, State.Warmed39.refl s, rfl⟩ trivial
  refine ⟨n, _, h1, h2, h3, hpost _ _ _ _ _ _ ⟨Cond.after_iff.mpr rfl, Cond.after_iff.mpr (eq_i res_at (Term.int_eval (1)) rfl), trivial⟩ ⟨hq.1, hq.2.1, (hq.2.2.sift fun y hy => Or.inr (N y hy)).mono (by decide) (by decide)⟩⟩
theorem main_1_1 : Claimed_1_1 := comes_1 fun _ _ _ _ _ _ h hF => ⟨h.1, hF⟩
theorem main_1_2 : Claimed_1_2 := comes_1 fun _ _ _ _ _ _ h hF => ⟨h.2.1, hF⟩
end Jvm.Pilot.@@N@@
-- the witness, by the kit's program
namespace Jvm.Pilot.@@N@@
open Jvm Jvm.ClassFile Sem Op Lib Jvm.Free Jvm.Stand Jvm.Pilot.@@N@@.Jvm.D
/-! MADE BY PROGRAM (witnessworld.py) out of the Statement's table words and the real class files: 12 classes; the members and pool entries that the words name. The judged class is class 1, her method 1. -/
namespace start1
open Jvm.ClassFile
def u (s : String) : CpInfo := .utf8 (stringToUtf16 s)
/-- a pool by its gaps: so many unusable entries, then the entry; so many at the end -/
def gap : Nat → List CpInfo → List CpInfo
  | 0, r => r
  | n + 1, r => .unusable :: gap n r
def poolList (es : List (Nat × CpInfo)) (last : Nat) : List CpInfo := es.foldr (fun e r => gap e.1 (e.2 :: r)) (gap last [])
def pool (es : List (Nat × CpInfo)) (last : Nat) : Array CpInfo := ⟨poolList es last⟩
def fileOf (pool : Array CpInfo) (this : Nat) (attrs : Array Attribute := #[]) (ms : Array MethodInfo := #[]) (fl : Nat := 33) (sup : Nat := 0) (ifs : Array Nat := #[]) (fds : Array FieldInfo := #[]) : ClassFile where
  minorVersion := 0
  majorVersion := 65
  constantPool := pool
  accessFlags := fl
  thisClass := this
  superClass := sup
  interfaces := ifs
  fields := fds
  methods := ms
  attributes := attrs
def plain (name : String) (sup : Option ClassId) : Class where
  name := name
  kind := .ordinary
  loader := none
  accessFlags := 33
  super := sup
  interfaces := #[]
  cf := none
  fields := #[]
  methods := #[]
  instanceTypes := #[]
  staticTypes := #[]
  resolved := #[]
  callSites := []
  init := .initialized
  statics := none
  mirror := none

def pool0 : Array CpInfo := pool [(5, u "<init>"), (0, u "()V"), (1, .class_ 10), (1, u "java/lang/Object")] 113

def k0m0 : Method := { name := "<init>", desc := "()V", sig := { parameters := [], returnType := none }, accessFlags := 1, code := none }
/-- java/lang/Object -/
def k0 : Class := { plain "java/lang/Object" none with
  accessFlags := 33
  interfaces := #[]
  cf := some (fileOf pool0 8 #[] #[{ accessFlags := 1, nameIndex := 5, descriptorIndex := 6, attributes := #[] }] 33 0 #[] #[])
  fields := #[]
  methods := #[k0m0]
  instanceTypes := #[]
  staticTypes := #[]
  resolved := Array.replicate 124 none
  statics := none }

def pool1 : Array CpInfo := pool [(2, .class_ 4), (1, u "java/lang/Object"), (0, u "<init>"), (0, u "()V"), (0, .fieldref 8 9), (0, .class_ 10), (0, .nameAndType 11 12), (0, u "com/example/rows_by_rule/rowsbyrule/query/Junction"), (0, u "OR"), (0, u "Lcom/example/rows_by_rule/rowsbyrule/query/Junction;"), (0, .fieldref 8 14), (0, .nameAndType 15 12), (0, u "AND"), (0, .methodref 8 17), (0, .nameAndType 18 19), (0, u "bindsLooserThan"), (0, u "(Lcom/example/rows_by_rule/rowsbyrule/query/Junction;)Z"), (0, .class_ 21), (0, u "com/example/rows_by_rule/rowsbyrule/query/JunctionBindsLooserThanPinLaw"), (2, u "law"), (0, u "(II)Z")] 3

def k1m0 : Method := { name := "<init>", desc := "()V", sig := { parameters := [], returnType := none }, accessFlags := 1, code := none }
def k1c1 : Code := { maxStack := 2, maxLocals := 5, code := code, exceptionTable := #[], attributes := #[] }
def k1m1 : Method := { name := "law", desc := "(II)Z", sig := { parameters := [.int, .int], returnType := some .boolean }, accessFlags := 9, code := some k1c1 }
/-- com/example/rows_by_rule/rowsbyrule/query/JunctionBindsLooserThanPinLaw -/
def k1 : Class := { plain "com/example/rows_by_rule/rowsbyrule/query/JunctionBindsLooserThanPinLaw" (some 0) with
  accessFlags := 49
  interfaces := #[]
  cf := some (fileOf pool1 20 #[] #[{ accessFlags := 1, nameIndex := 5, descriptorIndex := 6, attributes := #[] }, { accessFlags := 9, nameIndex := 24, descriptorIndex := 25, attributes := #[] }] 49 2 #[] #[])
  fields := #[]
  methods := #[k1m0, k1m1]
  instanceTypes := #[]
  staticTypes := #[]
  resolved := Array.replicate 29 none
  statics := none }

def pool2 : Array CpInfo := pool [(1, .class_ 2), (0, u "java/lang/constant/Constable"), (0, .class_ 4), (0, u "java/lang/Object")] 6

/-- java/lang/constant/Constable -/
def k2 : Class := { plain "java/lang/constant/Constable" (some 0) with
  accessFlags := 1537
  interfaces := #[]
  cf := some (fileOf pool2 1 #[] #[] 1537 3 #[] #[])
  fields := #[]
  methods := #[]
  instanceTypes := #[]
  staticTypes := #[]
  resolved := Array.replicate 11 none
  statics := none }

def pool3 : Array CpInfo := pool [(1, .class_ 2), (0, u "java/lang/Comparable"), (0, .class_ 4), (0, u "java/lang/Object")] 7

/-- java/lang/Comparable -/
def k3 : Class := { plain "java/lang/Comparable" (some 0) with
  accessFlags := 1537
  interfaces := #[]
  cf := some (fileOf pool3 1 #[] #[] 1537 3 #[] #[])
  fields := #[]
  methods := #[]
  instanceTypes := #[]
  staticTypes := #[]
  resolved := Array.replicate 12 none
  statics := none }

def pool4 : Array CpInfo := pool [(1, .class_ 2), (0, u "java/io/Serializable"), (0, .class_ 4), (0, u "java/lang/Object")] 2

/-- java/io/Serializable -/
def k4 : Class := { plain "java/io/Serializable" (some 0) with
  accessFlags := 1537
  interfaces := #[]
  cf := some (fileOf pool4 1 #[] #[] 1537 3 #[] #[])
  fields := #[]
  methods := #[]
  instanceTypes := #[]
  staticTypes := #[]
  resolved := Array.replicate 7 none
  statics := none }

def pool5 : Array CpInfo := pool [(2, .class_ 4), (1, u "java/lang/Enum"), (0, u "name"), (0, u "Ljava/lang/String;"), (2, u "ordinal"), (0, u "I"), (1, .class_ 14), (1, u "java/lang/Object"), (4, u "hash"), (86, .class_ 108), (1, u "java/lang/Enum$EnumDesc"), (2, .class_ 112), (0, u "java/lang/constant/Constable"), (0, .class_ 114), (0, u "java/lang/Comparable"), (0, .class_ 116), (0, u "java/io/Serializable")] 87

/-- java/lang/Enum -/
def k5 : Class := { plain "java/lang/Enum" (some 0) with
  accessFlags := 1057
  interfaces := #[2, 3, 4]
  cf := some (fileOf pool5 2 #[.nestMembers #[106]] #[] 1057 12 #[111, 113, 115] #[{ accessFlags := 18, nameIndex := 5, descriptorIndex := 6, attributes := #[] }, { accessFlags := 18, nameIndex := 9, descriptorIndex := 10, attributes := #[] }, { accessFlags := 2, nameIndex := 19, descriptorIndex := 10, attributes := #[] }])
  fields := #[{ name := "name", type := (.object "java/lang/String"), accessFlags := 18, slot := 0, constantValue := 0 }, { name := "ordinal", type := .int, accessFlags := 18, slot := 1, constantValue := 0 }, { name := "hash", type := .int, accessFlags := 2, slot := 2, constantValue := 0 }]
  methods := #[]
  instanceTypes := #[(.object "java/lang/String"), .int, .int]
  staticTypes := #[]
  resolved := Array.replicate 204 none
  statics := none }

def pool6 : Array CpInfo := pool [(1, .class_ 2), (0, u "com/example/rows_by_rule/rowsbyrule/query/Junction"), (2, u "OR"), (0, u "Lcom/example/rows_by_rule/rowsbyrule/query/Junction;"), (2, u "AND"), (2, u "$VALUES"), (0, u "[Lcom/example/rows_by_rule/rowsbyrule/query/Junction;"), (6, .class_ 22), (1, u "java/lang/Enum"), (8, u "suffix"), (0, u "Ljava/lang/String;"), (2, u "separator"), (0, .fieldref 1 37), (0, .nameAndType 38 39), (0, u "precedence"), (0, u "I"), (2, u "empty"), (43, u "bindsLooserThan"), (0, u "(Lcom/example/rows_by_rule/rowsbyrule/query/Junction;)Z")] 5

def k6c0 : Code := { maxStack := 2, maxLocals := 2, code := prog_29_method_7_code, exceptionTable := #[], attributes := #[] }
def k6m0 : Method := { name := "bindsLooserThan", desc := "(Lcom/example/rows_by_rule/rowsbyrule/query/Junction;)Z", sig := { parameters := [(.object "com/example/rows_by_rule/rowsbyrule/query/Junction")], returnType := some .boolean }, accessFlags := 0, code := some k6c0 }
/-- com/example/rows_by_rule/rowsbyrule/query/Junction -/
def k6 : Class := { plain "com/example/rows_by_rule/rowsbyrule/query/Junction" (some 5) with
  accessFlags := 16432
  interfaces := #[]
  cf := some (fileOf pool6 1 #[] #[{ accessFlags := 0, nameIndex := 86, descriptorIndex := 87, attributes := #[] }] 16432 20 #[] #[{ accessFlags := 16409, nameIndex := 5, descriptorIndex := 6, attributes := #[] }, { accessFlags := 16409, nameIndex := 9, descriptorIndex := 6, attributes := #[] }, { accessFlags := 18, nameIndex := 31, descriptorIndex := 32, attributes := #[] }, { accessFlags := 18, nameIndex := 35, descriptorIndex := 32, attributes := #[] }, { accessFlags := 18, nameIndex := 38, descriptorIndex := 39, attributes := #[] }, { accessFlags := 18, nameIndex := 42, descriptorIndex := 32, attributes := #[] }, { accessFlags := 4122, nameIndex := 12, descriptorIndex := 13, attributes := #[] }])
  fields := #[{ name := "OR", type := (.object "com/example/rows_by_rule/rowsbyrule/query/Junction"), accessFlags := 16409, slot := 0, constantValue := 0 }, { name := "AND", type := (.object "com/example/rows_by_rule/rowsbyrule/query/Junction"), accessFlags := 16409, slot := 1, constantValue := 0 }, { name := "suffix", type := (.object "java/lang/String"), accessFlags := 18, slot := 3, constantValue := 0 }, { name := "separator", type := (.object "java/lang/String"), accessFlags := 18, slot := 4, constantValue := 0 }, { name := "precedence", type := .int, accessFlags := 18, slot := 5, constantValue := 0 }, { name := "empty", type := (.object "java/lang/String"), accessFlags := 18, slot := 6, constantValue := 0 }, { name := "$VALUES", type := (.array (.object "com/example/rows_by_rule/rowsbyrule/query/Junction")), accessFlags := 4122, slot := 2, constantValue := 0 }]
  methods := #[k6m0]
  instanceTypes := #[(.object "java/lang/String"), .int, .int, (.object "java/lang/String"), (.object "java/lang/String"), .int, (.object "java/lang/String")]
  staticTypes := #[(.object "com/example/rows_by_rule/rowsbyrule/query/Junction"), (.object "com/example/rows_by_rule/rowsbyrule/query/Junction"), (.array (.object "com/example/rows_by_rule/rowsbyrule/query/Junction"))]
  resolved := Array.replicate 93 none
  statics := some 0 }

def pool7 : Array CpInfo := pool [(1, u "java/lang/Cloneable"), (0, .class_ 1), (0, u "java/lang/Object"), (0, .class_ 3)] 3

/-- java/lang/Cloneable -/
def k7 : Class := { plain "java/lang/Cloneable" (some 0) with
  accessFlags := 1537
  interfaces := #[]
  cf := some (fileOf pool7 2 #[] #[] 1537 4 #[] #[])
  fields := #[]
  methods := #[]
  instanceTypes := #[]
  staticTypes := #[]
  resolved := Array.replicate 8 none
  statics := none }

/-- the primitive byte -/
def k8 : Class := { plain "byte" none with kind := .primitive 'B', accessFlags := 0x411 }
/-- [B -/
def k9 : Class := { plain "[B" (some 0) with kind := .array 8 .byte, interfaces := #[7, 4], accessFlags := 1041 }

/-- the primitive int -/
def k10 : Class := { plain "int" none with kind := .primitive 'I', accessFlags := 0x411 }
/-- [I -/
def k11 : Class := { plain "[I" (some 0) with kind := .array 10 .int, interfaces := #[7, 4], accessFlags := 1041 }

def heap : Heap := #[{ cls := 6, slots := #[.ref 1, .ref 2, .null], vm := .statics 6 },
  { cls := 6, slots := #[.null, .int 0, .int 0, .null, .null, .int 1, .null], vm := .none },
  { cls := 6, slots := #[.null, .int 1, .int 0, .null, .null, .int 2, .null], vm := .none }]
def classes : Array Class := #[k0, k1, k2, k3, k4, k5, k6, k7, k8, k9, k10, k11]
def interned : List (Array UInt16 × Addr) := []
def slotsUsed : Nat := 17
def theMethod : MethodId := ⟨1, 1⟩
def args0 : Array Value := #[.int 5, .int 5]
def aboutOver (below : List Frame) : State where
  vm := { classes := classes, interned := interned.toArray }
  heap := heap
  slotsUsed := slotsUsed
  threads := #[{ frames := .invoking theMethod args0 :: below }]
def below0 : List Frame := [.native { method := ⟨0, 0⟩, args := #[] }]
def about1 : State := aboutOver below0
def p0 : Program := .bare "" "" ""
def e0 : Env := launch0.env 0 0 0
theorem w_frames : about1.frames = Frame.invoking theMethod args0 :: below0 := rfl
set_option maxRecDepth 65536 in
theorem w_args : argsFit about1.vm theMethod args0 = true := by decide +kernel
set_option maxRecDepth 65536 in
theorem w_heap : heapFits about1 = true := by decide +kernel
set_option maxRecDepth 65536 in
theorem w_runnable : about1.curStatus? = some .runnable := by decide +kernel
set_option maxRecDepth 65536 in
theorem w_alone : about1.alone = true := by decide +kernel
set_option maxRecDepth 65536 in
theorem w_named : about1.methodNamed? x = some theMethod := by decide +kernel
set_option maxRecDepth 65536 in
theorem w_hears : about1.hears theMethod below0 = true := by decide +kernel
set_option maxRecDepth 65536 in
theorem w_ripe : about1.ripe theMethod args0 below0 = true := by decide +kernel
theorem w_running : about1.status = .running := rfl
set_option maxRecDepth 65536 in
theorem w_room : about1.hasRoom e0.platform room_1 = true :=
  launch0.hasRoom_least _ room_1 (by decide +kernel) (by decide +kernel) (by decide +kernel) (by decide +kernel) (by decide +kernel) (by decide +kernel)
theorem allAtoms_all (ts : List Jvm.Cond) (a : Array Jvm.Value) (st : Jvm.State) : (allAtoms ts).before a st = ts.all (fun c => c.before a st) := by
  induction ts with
  | nil => rfl
  | cons c t ih =>
    show (Jvm.Cond.and c (allAtoms t)).before a st = _
    rw [Jvm.Cond.before_and, ih, List.all_cons]
def words1 : List Jvm.Cond := Jvm.Cond.code x code maxLocals ret :: tables_1
/-- a 'code' word, met by the world's own term for the bytes: nothing is compared byte by byte -/
theorem code_word {y : MethodName} {bytes : ByteArray} {mx : Nat} {rt : Option FieldType} {a : Array Value} {s : State} {m : MethodId} {meth : Method} {c : Code} (h1 : s.methodNamed? y = some m) (h2 : s.vm.method? m = some meth) (h3 : meth.code = some c) (h4 : c.code = bytes)
    (h5 : (c.maxLocals == mx && c.exceptionTable.isEmpty && decide (c.maxStack ≤ mostOperands) && decide (meth.sig.returnType = rt) && !meth.locks && decide (parseMethodDescriptor y.desc = some meth.sig)) = true) : (Jvm.Cond.code y bytes mx rt).before a s = true := by
  simp only [Bool.and_eq_true, beq_iff_eq, Bool.not_eq_true', decide_eq_true_eq] at h5
  obtain ⟨⟨⟨⟨⟨g1, g2⟩, g3⟩, g4⟩, g5⟩, g6⟩ := h5
  simp [Cond.before, Cond.holds, Cond.value, h1, h2, h3, h4, g1, g2, g3, g4, g5, g6]
def isCode : Jvm.Cond → Bool
  | .code _ _ _ _ => true
  | _ => false
theorem all_split {L : List Jvm.Cond} {P : Jvm.Cond → Bool} (h1 : L.all (fun c => isCode c || P c) = true) (h2 : ∀ c ∈ L.filter isCode, P c = true) : L.all P = true := by
  refine List.all_eq_true.mpr fun c hc => ?_
  have h := List.all_eq_true.mp h1 c hc
  rcases Bool.eq_false_or_eq_true (isCode c) with hi | hi
  · exact h2 c (List.mem_filter.mpr ⟨hc, hi⟩)
  · simpa [hi] using h
set_option maxRecDepth 65536 in
theorem w_c0 : (Jvm.Cond.code x code maxLocals ret).before args0 about1 = true := code_word (m := ⟨1, 1⟩) (meth := k1m1) (c := k1c1) (by decide +kernel) rfl rfl rfl (by decide +kernel)
set_option maxRecDepth 65536 in
theorem w_c1 : (Jvm.Cond.code ({ cls := "com/example/rows_by_rule/rowsbyrule/query/Junction", name := "bindsLooserThan", desc := "(Lcom/example/rows_by_rule/rowsbyrule/query/Junction;)Z" } : Jvm.MethodName) prog_29_method_7_code (2 : Nat) (Option.some Jvm.ClassFile.FieldType.boolean)).before args0 about1 = true := code_word (m := ⟨6, 0⟩) (meth := k6m0) (c := k6c0) (by decide +kernel) rfl rfl rfl (by decide +kernel)
def codes1 : List Jvm.Cond := [Jvm.Cond.code x code maxLocals ret, Jvm.Cond.code ({ cls := "com/example/rows_by_rule/rowsbyrule/query/Junction", name := "bindsLooserThan", desc := "(Lcom/example/rows_by_rule/rowsbyrule/query/Junction;)Z" } : Jvm.MethodName) prog_29_method_7_code (2 : Nat) (Option.some Jvm.ClassFile.FieldType.boolean)]
set_option maxRecDepth 65536 in
theorem codes_eq : words1.filter isCode = codes1 := rfl
theorem w_codes : ∀ c ∈ words1.filter isCode, c.before args0 about1 = true := by
  rw [codes_eq]
  intro c hc
  simp only [codes1, List.mem_cons, List.not_mem_nil, or_false] at hc
  rcases hc with rfl | rfl
  · exact w_c0
  · exact w_c1
set_option maxRecDepth 65536 in
theorem w_t1 : words1.all (fun c => isCode c || c.before args0 about1) = true := by decide +kernel
theorem w_tables : (allAtoms (Jvm.Cond.code x code maxLocals ret :: tables_1)).before args0 about1 = true := by
  rw [allAtoms_all]
  show words1.all (fun c => c.before args0 about1) = true
  refine all_split ?_ w_codes
  rw [w_t1]
set_option maxRecDepth 65536 in
theorem w_case : (Jvm.Cond.and given_1 narrow_1).before args0 about1 = true := by decide +kernel
theorem w_applies : (headSpec (Jvm.Cond.code x code maxLocals ret :: tables_1) room_1).applies x e0.platform about1 = true :=
  (Spec.applies_iff w_frames).mpr ⟨w_running, w_runnable, w_alone, w_named, w_hears, w_ripe, w_room, w_tables⟩
theorem atStart : AtStart classFile x code maxLocals ret World_1 tables_1 room_1 Calls_1 rest_1 Pre_1 launch0 p0 e0 about1 theMethod args0 below0 :=
  ⟨lists_1, trivial, launch0.admits_env _ _ _, launch0.least_env, fairChoices_fair.cas, fairChoices_fair.clock, w_frames, w_args, w_heap, w_applies, trivial, trivial, w_case⟩
end start1
theorem witness_1 : WitnessClaimed_1 := ⟨start1.p0, start1.e0, start1.about1, start1.theMethod, start1.args0, start1.below0, start1.atStart⟩
end Jvm.Pilot.@@N@@
