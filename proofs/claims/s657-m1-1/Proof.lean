import JvmDerived
import JvmDerived.Pilot.@@N@@Statement
import JvmDerived.Pilot.@@N@@Code
set_option linter.unusedVariables false
set_option linter.unusedSimpArgs false
namespace Jvm.RoadKit
open Sem ClassFile Op Lib Jvm.Stand Jvm.Free Jvm.LawKit
section New
variable {p : Program} {l : Launch} {e : Env} {R : Room} {s : State} {m : MethodId} {args : Array Value} {below : List Frame} {meth : Method} {c : Code} {T : State} {locs : List Loc} {cells slots : Nat}
theorem retI (X : Stand p l e R s m args below meth c T locs cells slots) (hx : p.tables.exec = Jvm.exec) {pc : Nat} {Ls : Array Slot} {z : Int32} {rest : List Value} (hret : meth.sig.returnType = some .int) (hd : decode c.code pc = .ok (.ireturn, 1)) {fs : List Frame}
    (hl : ∀ (f : JFrame) (acts : List Action), f.method = m → f.locked = none → f.entered = [] → (doReturn e (T.setTop f) acts (some (.int z))).1 = T.setFrames fs) : Steps p.tables e below (T.setTop (mkF m pc Ls (.int z :: rest))) (T.setFrames fs) := by
  have hm' : T.vm.method? m = some meth := X.method'
  have hn : narrow .int (.int z) = .int z := rfl
  show Steps p.tables e below (T.setTop { method := m, pc := pc, locals := Ls, stack := _ :: rest, locked := none }) _
  jvm_step X.here [X.here.top, hx, hd, hm', hret, hn]
  first | (intro acts; rw [hl _ acts rfl rfl rfl]) | rw [hl _ _ rfl rfl rfl]
  exact Steps.refl _
end New
end Jvm.RoadKit
namespace Jvm.Pilot.@@N@@
open Jvm Jvm.ClassFile Sem Op Lib Jvm.Free Jvm.Stand Jvm.LawKit Jvm.RoadKit Bundle Jvm.Pilot.@@N@@.Jvm.D
theorem ef_rm1 (m : MethodId) (x0 : Addr) : entryFrame m #[(.ref x0)] 2 = mkF m 0 #[.val (.ref x0), .unset] [] := by first | (simp [entryFrame, mkF, argsToLocals, Value.category]; done) | rfl
theorem d_prog_14_method_6_0 : decode prog_14_method_6_code 0 = .ok (.aload_n 0, 1) := by decide +kernel
theorem d_prog_14_method_6_1 : decode prog_14_method_6_code 1 = .ok (.getstatic 3, 3) := by decide +kernel
theorem d_prog_14_method_6_4 : decode prog_14_method_6_code 4 = .ok (.if_acmp .ne 10, 3) := by decide +kernel
theorem d_prog_14_method_6_7 : decode prog_14_method_6_code 7 = .ok (.getstatic 16, 3) := by decide +kernel
theorem d_prog_14_method_6_10 : decode prog_14_method_6_code 10 = .ok (.astore_n 1, 1) := by decide +kernel
theorem d_prog_14_method_6_11 : decode prog_14_method_6_code 11 = .ok (.goto 19, 3) := by decide +kernel
theorem d_prog_14_method_6_30 : decode prog_14_method_6_code 30 = .ok (.aload_n 1, 1) := by decide +kernel
theorem d_prog_14_method_6_31 : decode prog_14_method_6_code 31 = .ok (.areturn, 1) := by decide +kernel
theorem d_prog_14_method_6_14 : decode prog_14_method_6_code 14 = .ok (.aload_n 0, 1) := by decide +kernel
theorem d_prog_14_method_6_15 : decode prog_14_method_6_code 15 = .ok (.getstatic 7, 3) := by decide +kernel
theorem d_prog_14_method_6_18 : decode prog_14_method_6_code 18 = .ok (.if_acmp .ne 10, 3) := by decide +kernel
theorem d_prog_14_method_6_21 : decode prog_14_method_6_code 21 = .ok (.getstatic 13, 3) := by decide +kernel
theorem d_prog_14_method_6_24 : decode prog_14_method_6_code 24 = .ok (.astore_n 1, 1) := by decide +kernel
theorem d_prog_14_method_6_25 : decode prog_14_method_6_code 25 = .ok (.goto 5, 3) := by decide +kernel
theorem d_prog_14_method_6_28 : decode prog_14_method_6_code 28 = .ok (.aload_n 0, 1) := by decide +kernel
theorem d_prog_14_method_6_29 : decode prog_14_method_6_code 29 = .ok (.astore_n 1, 1) := by decide +kernel
theorem pn_0 : plainName "com/example/iron_policy/ironpolicy/Decision" = true := by first | (simp [plainName, overriddenIn]; done) | decide +kernel
theorem ef_rm0 (m : MethodId) (x0 : Int32) : entryFrame m #[(.int x0)] maxLocals = mkF m 0 #[.val (.int x0), .unset, .unset, .unset, .unset, .unset, .unset] [] := by first | (simp [entryFrame, mkF, argsToLocals, Value.category, maxLocals]; done) | rfl
theorem pd_0 : parseMethodDescriptor "()Lcom/example/iron_policy/ironpolicy/Decision;" = some ⟨[], some (.object "com/example/iron_policy/ironpolicy/Decision")⟩ := by decide +kernel
theorem pn_1 : plainName "com/example/iron_policy/ironpolicy/DecisionIndeterminatePinLaw" = true := by first | (simp [plainName, overriddenIn]; done) | decide +kernel
def SB (Z : State) (a_PERMIT : Addr) (a_DENY : Addr) (a_NOT_APPLICABLE : Addr) (a_INDETERMINATE_D : Addr) (a_INDETERMINATE_P : Addr) (a_INDETERMINATE_DP : Addr) : Prop := (Exa Z Z.heap a_PERMIT "com/example/iron_policy/ironpolicy/Decision") ∧ (Sta Z Z.heap "com/example/iron_policy/ironpolicy/Decision" "PERMIT" "Lcom/example/iron_policy/ironpolicy/Decision;" (.ref a_PERMIT)) ∧ (Exa Z Z.heap a_DENY "com/example/iron_policy/ironpolicy/Decision") ∧ (Sta Z Z.heap "com/example/iron_policy/ironpolicy/Decision" "DENY" "Lcom/example/iron_policy/ironpolicy/Decision;" (.ref a_DENY)) ∧ (Exa Z Z.heap a_NOT_APPLICABLE "com/example/iron_policy/ironpolicy/Decision") ∧ (Sta Z Z.heap "com/example/iron_policy/ironpolicy/Decision" "NOT_APPLICABLE" "Lcom/example/iron_policy/ironpolicy/Decision;" (.ref a_NOT_APPLICABLE)) ∧ (Exa Z Z.heap a_INDETERMINATE_D "com/example/iron_policy/ironpolicy/Decision") ∧ (Sta Z Z.heap "com/example/iron_policy/ironpolicy/Decision" "INDETERMINATE_D" "Lcom/example/iron_policy/ironpolicy/Decision;" (.ref a_INDETERMINATE_D)) ∧ (Exa Z Z.heap a_INDETERMINATE_P "com/example/iron_policy/ironpolicy/Decision") ∧ (Sta Z Z.heap "com/example/iron_policy/ironpolicy/Decision" "INDETERMINATE_P" "Lcom/example/iron_policy/ironpolicy/Decision;" (.ref a_INDETERMINATE_P)) ∧ (Exa Z Z.heap a_INDETERMINATE_DP "com/example/iron_policy/ironpolicy/Decision") ∧ (Sta Z Z.heap "com/example/iron_policy/ironpolicy/Decision" "INDETERMINATE_DP" "Lcom/example/iron_policy/ironpolicy/Decision;" (.ref a_INDETERMINATE_DP)) ∧ (Fld Z Z.heap a_INDETERMINATE_P "java/lang/Enum" "ordinal" "I" (.int (4 : Int32))) ∧ (Fld Z Z.heap a_PERMIT "java/lang/Enum" "ordinal" "I" (.int (0 : Int32))) ∧ (Fld Z Z.heap a_DENY "java/lang/Enum" "ordinal" "I" (.int (1 : Int32))) ∧ (Fld Z Z.heap a_INDETERMINATE_D "java/lang/Enum" "ordinal" "I" (.int (3 : Int32))) ∧ (Fld Z Z.heap a_NOT_APPLICABLE "java/lang/Enum" "ordinal" "I" (.int (2 : Int32))) ∧ (Fld Z Z.heap a_INDETERMINATE_DP "java/lang/Enum" "ordinal" "I" (.int (5 : Int32)))
theorem own_mod6 (p : Int32) : ((p &&& (2147483647 : Int32)) % (6 : Int32)) = (0 : Int32) ∨ ((p &&& (2147483647 : Int32)) % (6 : Int32)) = (1 : Int32) ∨ ((p &&& (2147483647 : Int32)) % (6 : Int32)) = (2 : Int32) ∨ ((p &&& (2147483647 : Int32)) % (6 : Int32)) = (3 : Int32) ∨ ((p &&& (2147483647 : Int32)) % (6 : Int32)) = (4 : Int32) ∨ ((p &&& (2147483647 : Int32)) % (6 : Int32)) = (5 : Int32) := by
  have h1 : ((p &&& (2147483647 : Int32)).toInt) = p.toInt % (2 ^ 31 : Nat) := c_mask p 2147483647 31 (by decide) (by decide)
  have h2 := (c_irem (p &&& (2147483647 : Int32)) (6 : Int32) 6 (by decide)).1 (by rw [h1]; omega)
  generalize (p &&& (2147483647 : Int32)) % (6 : Int32) = z at *
  have h3 : 0 ≤ z.toInt ∧ z.toInt < 6 := by omega
  have key : ∀ k : Int32, z.toInt = k.toInt → z = k := fun k h => Int32.toInt_inj.mp h
  by_cases h0_ : z.toInt = 0
  · exact Or.inl (key _ h0_)
  by_cases h1_ : z.toInt = 1
  · exact Or.inr (Or.inl (key _ h1_))
  by_cases h2_ : z.toInt = 2
  · exact Or.inr (Or.inr (Or.inl (key _ h2_)))
  by_cases h3_ : z.toInt = 3
  · exact Or.inr (Or.inr (Or.inr (Or.inl (key _ h3_))))
  by_cases h4_ : z.toInt = 4
  · exact Or.inr (Or.inr (Or.inr (Or.inr (Or.inl (key _ h4_)))))
  by_cases h5_ : z.toInt = 5
  · exact Or.inr (Or.inr (Or.inr (Or.inr (Or.inr (key _ h5_)))))
  omega
def Q1 (r : Addr) (h0 : Heap) (n0 : Nat) (v : Option Value) (h : Heap) (L : List Loc) : Prop := v = some (.ref r) ∧ Fr n0 L ∧ h = h0
def Q0 (n0 : Nat) (v : Option Value) (h : Heap) (L : List Loc) : Prop := v = some (.int 1) ∧ Fr n0 L
set_option maxRecDepth 65536 in
set_option maxHeartbeats 40000000 in
theorem rm1 (l : Launch) (Z : State) (a0 : Array Value) (hw : ∀ d ∈ tables_1, d.before a0 Z = true) (ws : List Jvm.Cond) (a_PERMIT : Addr) (a_DENY : Addr) (a_NOT_APPLICABLE : Addr) (a_INDETERMINATE_D : Addr) (a_INDETERMINATE_P : Addr) (a_INDETERMINATE_DP : Addr) (hS : SB Z a_PERMIT a_DENY a_NOT_APPLICABLE a_INDETERMINATE_D a_INDETERMINATE_P a_INDETERMINATE_DP) (a1 r : Addr) (h0 : Heap) (n0 : Nat) (O0 : Old Z n0 h0) (hres : (a1 = a_PERMIT → r = a_INDETERMINATE_P) ∧ (¬ a1 = a_PERMIT → a1 = a_DENY → r = a_INDETERMINATE_D) ∧ (¬ a1 = a_PERMIT → ¬ a1 = a_DENY → r = a1)) :
    MetFree l (⟨"com/example/iron_policy/ironpolicy/Decision", "indeterminate", "()Lcom/example/iron_policy/ironpolicy/Decision;"⟩ : MethodName) (head1 (Jvm.Cond.code (⟨"com/example/iron_policy/ironpolicy/Decision", "indeterminate", "()Lcom/example/iron_policy/ironpolicy/Decision;"⟩ : MethodName) prog_14_method_6_code 2 (some (.object "com/example/iron_policy/ironpolicy/Decision")) :: ws) ({ frames := 0, cells := 0, slots := 0, locals := 0 } : Room)) (fun a U => a = #[(.ref a1)] ∧ Z.Warmed39 U.vm ∧ U.heap = h0) (fun _ _ _ _ _ => True) (fun _ U o U' => ∃ v L, o = .returned v ∧ Q1 r h0 n0 v U'.heap L ∧ FrameEnd U o U' L ({ frames := 0, cells := 0, slots := 0, locals := 0 } : Room).cells ({ frames := 0, cells := 0, slots := 0, locals := 0 } : Room).slots) := by
  refine MetFree.of_bodySF (plainFor_of_name pn_0) hisR ?_
  intro p e s m args below meth c s₁ Bd hml0 hP hK
  obtain ⟨rfl, hZ, hh⟩ := hP
  have hx := Bd.exec
  have hby := Bd.bytes
  have hml : c.maxLocals = 2 := hml0
  have hown : s.vm.findClass "com/example/iron_policy/ironpolicy/Decision" = some m.cls := findClass_of_methodNamed Bd.named
  have hnm := (name_of_methodNamed Bd.named Bd.method).1
  have X0 : Stand p l e ({ frames := 0, cells := 0, slots := 0, locals := 0 } : Room) s m #[(.ref a1)] below meth c s₁ [] 0 0 := Stand.of_body Bd
  have e0 : s₁.heap = h0 := by rw [← hh, Bd.state]; rfl
  have N0 := Fr.nil n0
  have pre0 : ∀ t, Steps p.tables e below (s₁.setTop (mkF m 0 #[.val (.ref a1), .unset] [])) t → Steps p.tables e below (s₁.setTop (entryFrame m #[(.ref a1)] 2)) t := fun t k => castTop (ef_rm1 m (a1)) k
  obtain ⟨T1, X1, e1, st1⟩ := getS2 X0 hx hZ hown (host := "") (Or.inl (hw _ (List.mem_of_getElem? (i := 22) rfl))) Via.refl e0 (hS.2.1.ext O0.2) (g := (mkF m 1 #[.val (.ref a1), .unset] [(.ref a1)])) rfl (hb hby d_prog_14_method_6_1)
  have gp2 : ∀ t, Steps p.tables e below (T1.setTop (mkF m 4 #[.val (.ref a1), .unset] [(.ref a_PERMIT), (.ref a1)])) t → Steps p.tables e below (s₁.setTop (entryFrame m #[(.ref a1)] 2)) t := fun t kt => pre0 t (by
    refine XS.aloadN X0.here hx rfl (hb hby d_prog_14_method_6_0) rfl rfl ?_
    show Steps p.tables e below (s₁.setTop (mkF m 1 #[.val (.ref a1), .unset] [(.ref a1)])) _
    refine st1 _ ?_
    show Steps p.tables e below (T1.setTop (mkF m 4 #[.val (.ref a1), .unset] [(.ref a_PERMIT), (.ref a1)])) _
    exact kt)
  by_cases hc4 : a1 = a_PERMIT
  · obtain ⟨T3, X3, e3, st3⟩ := getS2 X1 hx hZ hown (host := "") (Or.inl (hw _ (List.mem_of_getElem? (i := 23) rfl))) Via.refl e1 (hS.2.2.2.2.2.2.2.2.2.1.ext O0.2) (g := (mkF m 7 #[.val (.ref a1), .unset] [])) rfl (hb hby d_prog_14_method_6_7)
    obtain ⟨fs, hr, hrun, hended, hW, hsame⟩ := X3.leave (v := (some (.ref a_INDETERMINATE_P))) (fun h => by rw [Bd.returns] at h; cases h)
    refine ⟨_, _, gp2 _ ?_, hrun, hended, _, _, rfl, ?_, ⟨_, rfl⟩, hW, hsame.mono (by decide) (by decide)⟩
    · refine Jvm.RoadKit.acmp (g := (mkF m 4 #[.val (.ref a1), .unset] [(.ref a_PERMIT), (.ref a1)])) X1 hx rfl rfl rfl (pc0 := 4) (pc' := 7) (same := true) rfl (hb hby d_prog_14_method_6_4) rfl (decide_eq_true (congrArg Value.ref hc4)) (by decide) (by decide) ?_
      show Steps p.tables e below (T1.setTop (mkF m 7 #[.val (.ref a1), .unset] [])) _
      refine st3 _ ?_
      show Steps p.tables e below (T3.setTop (mkF m 10 #[.val (.ref a1), .unset] [(.ref a_INDETERMINATE_P)])) _
      refine XS.astoreN X3.here hx rfl (hb hby d_prog_14_method_6_10) rfl rfl (l' := #[.val (.ref a1), .val (.ref a_INDETERMINATE_P)]) rfl ?_
      show Steps p.tables e below (T3.setTop (mkF m 11 #[.val (.ref a1), .val (.ref a_INDETERMINATE_P)] [])) _
      refine XS.goto X3.here hx rfl (pc0 := 11) (pc' := 30) rfl (hb hby d_prog_14_method_6_11) (by decide) (by decide) ?_
      show Steps p.tables e below (T3.setTop (mkF m 30 #[.val (.ref a1), .val (.ref a_INDETERMINATE_P)] [])) _
      refine XS.aloadN X3.here hx rfl (hb hby d_prog_14_method_6_30) rfl rfl ?_
      show Steps p.tables e below (T3.setTop (mkF m 31 #[.val (.ref a1), .val (.ref a_INDETERMINATE_P)] [(.ref a_INDETERMINATE_P)])) _
      exact retOut X3 hx Bd.returns rfl (Or.inr (Or.inr (Or.inr (Or.inr ⟨rfl, rfl, rfl⟩)))) (hb hby d_prog_14_method_6_31) hr
    · show Q1 r h0 n0 _ T3.heap _
      rw [e3]
      exact ⟨by rw [hres.1 hc4], N0, rfl⟩
  · obtain ⟨T4, X4, e4, st4⟩ := getS2 X1 hx hZ hown (host := "") (Or.inl (hw _ (List.mem_of_getElem? (i := 24) rfl))) Via.refl e1 (hS.2.2.2.1.ext O0.2) (g := (mkF m 15 #[.val (.ref a1), .unset] [(.ref a1)])) rfl (hb hby d_prog_14_method_6_15)
    have gp5 : ∀ t, Steps p.tables e below (T4.setTop (mkF m 18 #[.val (.ref a1), .unset] [(.ref a_DENY), (.ref a1)])) t → Steps p.tables e below (s₁.setTop (entryFrame m #[(.ref a1)] 2)) t := fun t kt => gp2 t (by
      refine Jvm.RoadKit.acmp (g := (mkF m 4 #[.val (.ref a1), .unset] [(.ref a_PERMIT), (.ref a1)])) X1 hx rfl rfl rfl (pc0 := 4) (pc' := 14) (same := false) rfl (hb hby d_prog_14_method_6_4) rfl (decide_eq_false fun q => hc4 (Value.ref.inj q)) (by decide) (by decide) ?_
      show Steps p.tables e below (T1.setTop (mkF m 14 #[.val (.ref a1), .unset] [])) _
      refine XS.aloadN X1.here hx rfl (hb hby d_prog_14_method_6_14) rfl rfl ?_
      show Steps p.tables e below (T1.setTop (mkF m 15 #[.val (.ref a1), .unset] [(.ref a1)])) _
      refine st4 _ ?_
      show Steps p.tables e below (T4.setTop (mkF m 18 #[.val (.ref a1), .unset] [(.ref a_DENY), (.ref a1)])) _
      exact kt)
    by_cases hc18 : a1 = a_DENY
    · obtain ⟨T6, X6, e6, st6⟩ := getS2 X4 hx hZ hown (host := "") (Or.inl (hw _ (List.mem_of_getElem? (i := 25) rfl))) Via.refl e4 (hS.2.2.2.2.2.2.2.1.ext O0.2) (g := (mkF m 21 #[.val (.ref a1), .unset] [])) rfl (hb hby d_prog_14_method_6_21)
      obtain ⟨fs, hr, hrun, hended, hW, hsame⟩ := X6.leave (v := (some (.ref a_INDETERMINATE_D))) (fun h => by rw [Bd.returns] at h; cases h)
      refine ⟨_, _, gp5 _ ?_, hrun, hended, _, _, rfl, ?_, ⟨_, rfl⟩, hW, hsame.mono (by decide) (by decide)⟩
      · refine Jvm.RoadKit.acmp (g := (mkF m 18 #[.val (.ref a1), .unset] [(.ref a_DENY), (.ref a1)])) X4 hx rfl rfl rfl (pc0 := 18) (pc' := 21) (same := true) rfl (hb hby d_prog_14_method_6_18) rfl (decide_eq_true (congrArg Value.ref hc18)) (by decide) (by decide) ?_
        show Steps p.tables e below (T4.setTop (mkF m 21 #[.val (.ref a1), .unset] [])) _
        refine st6 _ ?_
        show Steps p.tables e below (T6.setTop (mkF m 24 #[.val (.ref a1), .unset] [(.ref a_INDETERMINATE_D)])) _
        refine XS.astoreN X6.here hx rfl (hb hby d_prog_14_method_6_24) rfl rfl (l' := #[.val (.ref a1), .val (.ref a_INDETERMINATE_D)]) rfl ?_
        show Steps p.tables e below (T6.setTop (mkF m 25 #[.val (.ref a1), .val (.ref a_INDETERMINATE_D)] [])) _
        refine XS.goto X6.here hx rfl (pc0 := 25) (pc' := 30) rfl (hb hby d_prog_14_method_6_25) (by decide) (by decide) ?_
        show Steps p.tables e below (T6.setTop (mkF m 30 #[.val (.ref a1), .val (.ref a_INDETERMINATE_D)] [])) _
        refine XS.aloadN X6.here hx rfl (hb hby d_prog_14_method_6_30) rfl rfl ?_
        show Steps p.tables e below (T6.setTop (mkF m 31 #[.val (.ref a1), .val (.ref a_INDETERMINATE_D)] [(.ref a_INDETERMINATE_D)])) _
        exact retOut X6 hx Bd.returns rfl (Or.inr (Or.inr (Or.inr (Or.inr ⟨rfl, rfl, rfl⟩)))) (hb hby d_prog_14_method_6_31) hr
      · show Q1 r h0 n0 _ T6.heap _
        rw [e6]
        exact ⟨by rw [hres.2.1 hc4 hc18], N0, rfl⟩
    · obtain ⟨fs, hr, hrun, hended, hW, hsame⟩ := X4.leave (v := (some (.ref a1))) (fun h => by rw [Bd.returns] at h; cases h)
      refine ⟨_, _, gp5 _ ?_, hrun, hended, _, _, rfl, ?_, ⟨_, rfl⟩, hW, hsame.mono (by decide) (by decide)⟩
      · refine Jvm.RoadKit.acmp (g := (mkF m 18 #[.val (.ref a1), .unset] [(.ref a_DENY), (.ref a1)])) X4 hx rfl rfl rfl (pc0 := 18) (pc' := 28) (same := false) rfl (hb hby d_prog_14_method_6_18) rfl (decide_eq_false fun q => hc18 (Value.ref.inj q)) (by decide) (by decide) ?_
        show Steps p.tables e below (T4.setTop (mkF m 28 #[.val (.ref a1), .unset] [])) _
        refine XS.aloadN X4.here hx rfl (hb hby d_prog_14_method_6_28) rfl rfl ?_
        show Steps p.tables e below (T4.setTop (mkF m 29 #[.val (.ref a1), .unset] [(.ref a1)])) _
        refine XS.astoreN X4.here hx rfl (hb hby d_prog_14_method_6_29) rfl rfl (l' := #[.val (.ref a1), .val (.ref a1)]) rfl ?_
        show Steps p.tables e below (T4.setTop (mkF m 30 #[.val (.ref a1), .val (.ref a1)] [])) _
        refine XS.aloadN X4.here hx rfl (hb hby d_prog_14_method_6_30) rfl rfl ?_
        show Steps p.tables e below (T4.setTop (mkF m 31 #[.val (.ref a1), .val (.ref a1)] [(.ref a1)])) _
        exact retOut X4 hx Bd.returns rfl (Or.inr (Or.inr (Or.inr (Or.inr ⟨rfl, rfl, rfl⟩)))) (hb hby d_prog_14_method_6_31) hr
      · show Q1 r h0 n0 _ T4.heap _
        rw [e4]
        exact ⟨by rw [hres.2.2 hc4 hc18], N0, rfl⟩
set_option maxRecDepth 65536 in
set_option maxHeartbeats 40000000 in
theorem rm0 (l : Launch) (Z : State) (a0 : Array Value) (hw : ∀ d ∈ tables_1, d.before a0 Z = true) (ws : List Jvm.Cond) (a_PERMIT : Addr) (a_DENY : Addr) (a_NOT_APPLICABLE : Addr) (a_INDETERMINATE_D : Addr) (a_INDETERMINATE_P : Addr) (a_INDETERMINATE_DP : Addr) (hS : SB Z a_PERMIT a_DENY a_NOT_APPLICABLE a_INDETERMINATE_D a_INDETERMINATE_P a_INDETERMINATE_DP) (p0 : Int32) (h0 : Heap) (n0 : Nat) (O0 : Old Z n0 h0) :
    MetFree l x (head1 (Jvm.Cond.code x code maxLocals ret :: ws) room_1) (fun a U => a = #[(.int p0)] ∧ Z.Warmed39 U.vm ∧ U.heap = h0) (fun _ _ _ _ _ => True) (fun _ U o U' => ∃ v L, o = .returned v ∧ Q0 n0 v U'.heap L ∧ FrameEnd U o U' L room_1.cells room_1.slots) := by
  refine MetFree.of_bodySF (plainFor_of_name pn_1) hisR ?_
  intro p e s m args below meth c s₁ Bd hml0 hP hK
  obtain ⟨rfl, hZ, hh⟩ := hP
  have hx := Bd.exec
  have hby := Bd.bytes
  have hml : c.maxLocals = 7 := hml0
  have hown : s.vm.findClass "com/example/iron_policy/ironpolicy/DecisionIndeterminatePinLaw" = some m.cls := findClass_of_methodNamed Bd.named
  have hnm := (name_of_methodNamed Bd.named Bd.method).1
  have X0 : Stand p l e room_1 s m #[(.int p0)] below meth c s₁ [] 0 0 := Stand.of_body Bd
  have e0 : s₁.heap = h0 := by rw [← hh, Bd.state]; rfl
  have N0 := Fr.nil n0
  have pre0 : ∀ t, Steps p.tables e below (s₁.setTop (mkF m 0 #[.val (.int p0), .unset, .unset, .unset, .unset, .unset, .unset] [])) t → Steps p.tables e below (s₁.setTop (entryFrame m #[(.int p0)] maxLocals)) t := fun t k => castTop (ef_rm0 m (p0)) k
  obtain ⟨T1, h1, k1, X1, e1, E1, A1, O1', st1⟩ := newR X0 hx hZ hown (hw _ (List.mem_of_getElem? (i := 0) rfl)) (hw _ (List.mem_of_getElem? (i := 1) rfl)) e0 (g := (mkF m 2 #[.val (.int p0), .unset, .unset, .unset, .unset, .unset, .unset] [(.int (6 : Int32))])) rfl (hb hby at_2) rfl (by decide) (cap := 6) (by decide) (by decide) (by decide) (by decide)
  obtain ⟨b1, gb1⟩ : ∃ z, z = h0.size := ⟨_, rfl⟩
  rw [← gb1] at A1 st1
  have g2 : n0 ≤ b1 := Nat.le_trans (Nat.le_of_eq O0.1.symm) (Nat.le_trans O0.2.1 (Nat.le_of_eq gb1.symm))
  have O3 : Old Z n0 h1 := Old.ext O0 E1
  have v4 : Arv Z h1 b1 k1 (.object "com/example/iron_policy/ironpolicy/Decision") (6 : Int32) [.null, .null, .null, .null, .null, .null] .null := (Arv.new A1 (by decide)).pad (pad_rep [] .null 6)
  obtain ⟨T5, X5, e5, st5⟩ := getS2 X1 hx hZ hown (host := "") (Or.inl (hw _ (List.mem_of_getElem? (i := 2) rfl))) Via.refl e1 (hS.2.1.ext O3.2) (g := (mkF m 7 #[.val (.int p0), .unset, .unset, .unset, .unset, .unset, .unset] [(.int (0 : Int32)), (.ref b1), (.ref b1)])) rfl (hb hby at_7)
  obtain ⟨c6, Ar6, q6, S6, M6, Hh6, G6⟩ := (id v4)
  have hin6 : ¬ ((0 : Int32) < 0 ∨ c6.slots.size ≤ ((0 : Int32)).toNatClampNeg) := inb_of S6 ⟨by decide, by decide⟩
  obtain ⟨T7, h7, X7, e7, W7, st7⟩ := stR X5 hx hZ e5 Ar6 (j := (0 : Int32)) hin6 rfl (Sto.ofV Ar6 q6 O1' (Ins.self (hS.1.ext O3.2))) (g := (mkF m 10 #[.val (.int p0), .unset, .unset, .unset, .unset, .unset, .unset] [(.ref a_PERMIT), (.int (0 : Int32)), (.ref b1), (.ref b1)])) rfl rfl (hb hby at_10)
  have v8 : Arv Z h7 b1 k1 (.object "com/example/iron_policy/ironpolicy/Decision") (6 : Int32) [(.ref a_PERMIT), .null, .null, .null, .null, .null] .null := Arv.set Ar6 q6 S6 M6 Hh6 G6 rfl W7 0 rfl (Nat.le_of_ble_eq_true rfl)
  have N7 := Fr.snoc X7 N0 g2
  have O9 : Old Z n0 h7 := Old.wr O3 W7 g2
  obtain ⟨T10, X10, e10, st10⟩ := getS2 X7 hx hZ hown (host := "") (Or.inl (hw _ (List.mem_of_getElem? (i := 6) rfl))) Via.refl e7 (hS.2.2.2.1.ext O9.2) (g := (mkF m 13 #[.val (.int p0), .unset, .unset, .unset, .unset, .unset, .unset] [(.int (1 : Int32)), (.ref b1), (.ref b1)])) rfl (hb hby at_13)
  obtain ⟨c11, Ar11, q11, S11, M11, Hh11, G11⟩ := (id v8)
  have hin11 : ¬ ((1 : Int32) < 0 ∨ c11.slots.size ≤ ((1 : Int32)).toNatClampNeg) := inb_of S11 ⟨by decide, by decide⟩
  obtain ⟨T12, h12, X12, e12, W12, st12⟩ := stR X10 hx hZ e10 Ar11 (j := (1 : Int32)) hin11 rfl (Sto.ofV Ar11 q11 O1' (Ins.self (hS.2.2.1.ext O9.2))) (g := (mkF m 16 #[.val (.int p0), .unset, .unset, .unset, .unset, .unset, .unset] [(.ref a_DENY), (.int (1 : Int32)), (.ref b1), (.ref b1)])) rfl rfl (hb hby at_16)
  have v13 : Arv Z h12 b1 k1 (.object "com/example/iron_policy/ironpolicy/Decision") (6 : Int32) [(.ref a_PERMIT), (.ref a_DENY), .null, .null, .null, .null] .null := Arv.set Ar11 q11 S11 M11 Hh11 G11 rfl W12 1 rfl (Nat.le_of_ble_eq_true rfl)
  have N12 := Fr.snoc X12 N7 g2
  have O14 : Old Z n0 h12 := Old.wr O9 W12 g2
  obtain ⟨T15, X15, e15, st15⟩ := getS2 X12 hx hZ hown (host := "") (Or.inl (hw _ (List.mem_of_getElem? (i := 8) rfl))) Via.refl e12 (hS.2.2.2.2.2.1.ext O14.2) (g := (mkF m 19 #[.val (.int p0), .unset, .unset, .unset, .unset, .unset, .unset] [(.int (2 : Int32)), (.ref b1), (.ref b1)])) rfl (hb hby at_19)
  obtain ⟨c16, Ar16, q16, S16, M16, Hh16, G16⟩ := (id v13)
  have hin16 : ¬ ((2 : Int32) < 0 ∨ c16.slots.size ≤ ((2 : Int32)).toNatClampNeg) := inb_of S16 ⟨by decide, by decide⟩
  obtain ⟨T17, h17, X17, e17, W17, st17⟩ := stR X15 hx hZ e15 Ar16 (j := (2 : Int32)) hin16 rfl (Sto.ofV Ar16 q16 O1' (Ins.self (hS.2.2.2.2.1.ext O14.2))) (g := (mkF m 22 #[.val (.int p0), .unset, .unset, .unset, .unset, .unset, .unset] [(.ref a_NOT_APPLICABLE), (.int (2 : Int32)), (.ref b1), (.ref b1)])) rfl rfl (hb hby at_22)
  have v18 : Arv Z h17 b1 k1 (.object "com/example/iron_policy/ironpolicy/Decision") (6 : Int32) [(.ref a_PERMIT), (.ref a_DENY), (.ref a_NOT_APPLICABLE), .null, .null, .null] .null := Arv.set Ar16 q16 S16 M16 Hh16 G16 rfl W17 2 rfl (Nat.le_of_ble_eq_true rfl)
  have N17 := Fr.snoc X17 N12 g2
  have O19 : Old Z n0 h17 := Old.wr O14 W17 g2
  obtain ⟨T20, X20, e20, st20⟩ := getS2 X17 hx hZ hown (host := "") (Or.inl (hw _ (List.mem_of_getElem? (i := 10) rfl))) Via.refl e17 (hS.2.2.2.2.2.2.2.1.ext O19.2) (g := (mkF m 25 #[.val (.int p0), .unset, .unset, .unset, .unset, .unset, .unset] [(.int (3 : Int32)), (.ref b1), (.ref b1)])) rfl (hb hby at_25)
  obtain ⟨c21, Ar21, q21, S21, M21, Hh21, G21⟩ := (id v18)
  have hin21 : ¬ ((3 : Int32) < 0 ∨ c21.slots.size ≤ ((3 : Int32)).toNatClampNeg) := inb_of S21 ⟨by decide, by decide⟩
  obtain ⟨T22, h22, X22, e22, W22, st22⟩ := stR X20 hx hZ e20 Ar21 (j := (3 : Int32)) hin21 rfl (Sto.ofV Ar21 q21 O1' (Ins.self (hS.2.2.2.2.2.2.1.ext O19.2))) (g := (mkF m 28 #[.val (.int p0), .unset, .unset, .unset, .unset, .unset, .unset] [(.ref a_INDETERMINATE_D), (.int (3 : Int32)), (.ref b1), (.ref b1)])) rfl rfl (hb hby at_28)
  have v23 : Arv Z h22 b1 k1 (.object "com/example/iron_policy/ironpolicy/Decision") (6 : Int32) [(.ref a_PERMIT), (.ref a_DENY), (.ref a_NOT_APPLICABLE), (.ref a_INDETERMINATE_D), .null, .null] .null := Arv.set Ar21 q21 S21 M21 Hh21 G21 rfl W22 3 rfl (Nat.le_of_ble_eq_true rfl)
  have N22 := Fr.snoc X22 N17 g2
  have O24 : Old Z n0 h22 := Old.wr O19 W22 g2
  obtain ⟨T25, X25, e25, st25⟩ := getS2 X22 hx hZ hown (host := "") (Or.inl (hw _ (List.mem_of_getElem? (i := 12) rfl))) Via.refl e22 (hS.2.2.2.2.2.2.2.2.2.1.ext O24.2) (g := (mkF m 31 #[.val (.int p0), .unset, .unset, .unset, .unset, .unset, .unset] [(.int (4 : Int32)), (.ref b1), (.ref b1)])) rfl (hb hby at_31)
  obtain ⟨c26, Ar26, q26, S26, M26, Hh26, G26⟩ := (id v23)
  have hin26 : ¬ ((4 : Int32) < 0 ∨ c26.slots.size ≤ ((4 : Int32)).toNatClampNeg) := inb_of S26 ⟨by decide, by decide⟩
  obtain ⟨T27, h27, X27, e27, W27, st27⟩ := stR X25 hx hZ e25 Ar26 (j := (4 : Int32)) hin26 rfl (Sto.ofV Ar26 q26 O1' (Ins.self (hS.2.2.2.2.2.2.2.2.1.ext O24.2))) (g := (mkF m 34 #[.val (.int p0), .unset, .unset, .unset, .unset, .unset, .unset] [(.ref a_INDETERMINATE_P), (.int (4 : Int32)), (.ref b1), (.ref b1)])) rfl rfl (hb hby at_34)
  have v28 : Arv Z h27 b1 k1 (.object "com/example/iron_policy/ironpolicy/Decision") (6 : Int32) [(.ref a_PERMIT), (.ref a_DENY), (.ref a_NOT_APPLICABLE), (.ref a_INDETERMINATE_D), (.ref a_INDETERMINATE_P), .null] .null := Arv.set Ar26 q26 S26 M26 Hh26 G26 rfl W27 4 rfl (Nat.le_of_ble_eq_true rfl)
  have N27 := Fr.snoc X27 N22 g2
  have O29 : Old Z n0 h27 := Old.wr O24 W27 g2
  obtain ⟨T30, X30, e30, st30⟩ := getS2 X27 hx hZ hown (host := "") (Or.inl (hw _ (List.mem_of_getElem? (i := 14) rfl))) Via.refl e27 (hS.2.2.2.2.2.2.2.2.2.2.2.1.ext O29.2) (g := (mkF m 37 #[.val (.int p0), .unset, .unset, .unset, .unset, .unset, .unset] [(.int (5 : Int32)), (.ref b1), (.ref b1)])) rfl (hb hby at_37)
  obtain ⟨c31, Ar31, q31, S31, M31, Hh31, G31⟩ := (id v28)
  have hin31 : ¬ ((5 : Int32) < 0 ∨ c31.slots.size ≤ ((5 : Int32)).toNatClampNeg) := inb_of S31 ⟨by decide, by decide⟩
  obtain ⟨T32, h32, X32, e32, W32, st32⟩ := stR X30 hx hZ e30 Ar31 (j := (5 : Int32)) hin31 rfl (Sto.ofV Ar31 q31 O1' (Ins.self (hS.2.2.2.2.2.2.2.2.2.2.1.ext O29.2))) (g := (mkF m 40 #[.val (.int p0), .unset, .unset, .unset, .unset, .unset, .unset] [(.ref a_INDETERMINATE_DP), (.int (5 : Int32)), (.ref b1), (.ref b1)])) rfl rfl (hb hby at_40)
  have v33 : Arv Z h32 b1 k1 (.object "com/example/iron_policy/ironpolicy/Decision") (6 : Int32) [(.ref a_PERMIT), (.ref a_DENY), (.ref a_NOT_APPLICABLE), (.ref a_INDETERMINATE_D), (.ref a_INDETERMINATE_P), (.ref a_INDETERMINATE_DP)] .null := Arv.set Ar31 q31 S31 M31 Hh31 G31 rfl W32 5 rfl (Nat.le_of_ble_eq_true rfl)
  have N32 := Fr.snoc X32 N27 g2
  have O34 : Old Z n0 h32 := Old.wr O29 W32 g2
  obtain ⟨T35, h35, k35, X35, e35, E35, A35, O35', st35⟩ := newR X32 hx hZ hown (hw _ (List.mem_of_getElem? (i := 0) rfl)) (hw _ (List.mem_of_getElem? (i := 1) rfl)) e32 (g := (mkF m 44 #[.val (.int p0), .val (.ref b1), .unset, .unset, .unset, .unset, .unset] [(.int (6 : Int32))])) rfl (hb hby at_44) rfl (by decide) (cap := 6) (by decide) (by decide) (by decide) (by decide)
  obtain ⟨b35, gb35⟩ : ∃ z, z = h32.size := ⟨_, rfl⟩
  rw [← gb35] at A35 st35
  have ne36 : b1 ≠ b35 := Nat.ne_of_lt (Nat.lt_of_lt_of_le v33.lt (Nat.le_of_eq gb35.symm))
  have g37 : n0 ≤ b35 := Nat.le_trans (Nat.le_of_eq O34.1.symm) (Nat.le_trans O34.2.1 (Nat.le_of_eq gb35.symm))
  have O38 : Old Z n0 h35 := Old.ext O34 E35
  have v39 : Arv Z h35 b35 k35 (.object "com/example/iron_policy/ironpolicy/Decision") (6 : Int32) [.null, .null, .null, .null, .null, .null] .null := (Arv.new A35 (by decide)).pad (pad_rep [] .null 6)
  obtain ⟨T40, X40, e40, st40⟩ := getS2 X35 hx hZ hown (host := "") (Or.inl (hw _ (List.mem_of_getElem? (i := 12) rfl))) Via.refl e35 (hS.2.2.2.2.2.2.2.2.2.1.ext O38.2) (g := (mkF m 49 #[.val (.int p0), .val (.ref b1), .unset, .unset, .unset, .unset, .unset] [(.int (0 : Int32)), (.ref b35), (.ref b35)])) rfl (hb hby at_49)
  obtain ⟨c41, Ar41, q41, S41, M41, Hh41, G41⟩ := (id v39)
  have hin41 : ¬ ((0 : Int32) < 0 ∨ c41.slots.size ≤ ((0 : Int32)).toNatClampNeg) := inb_of S41 ⟨by decide, by decide⟩
  obtain ⟨T42, h42, X42, e42, W42, st42⟩ := stR X40 hx hZ e40 Ar41 (j := (0 : Int32)) hin41 rfl (Sto.ofV Ar41 q41 O35' (Ins.self (hS.2.2.2.2.2.2.2.2.1.ext O38.2))) (g := (mkF m 52 #[.val (.int p0), .val (.ref b1), .unset, .unset, .unset, .unset, .unset] [(.ref a_INDETERMINATE_P), (.int (0 : Int32)), (.ref b35), (.ref b35)])) rfl rfl (hb hby at_52)
  have v43 : Arv Z h42 b35 k35 (.object "com/example/iron_policy/ironpolicy/Decision") (6 : Int32) [(.ref a_INDETERMINATE_P), .null, .null, .null, .null, .null] .null := Arv.set Ar41 q41 S41 M41 Hh41 G41 rfl W42 0 rfl (Nat.le_of_ble_eq_true rfl)
  have N42 := Fr.snoc X42 N32 g37
  have O44 : Old Z n0 h42 := Old.wr O38 W42 g37
  obtain ⟨T45, X45, e45, st45⟩ := getS2 X42 hx hZ hown (host := "") (Or.inl (hw _ (List.mem_of_getElem? (i := 10) rfl))) Via.refl e42 (hS.2.2.2.2.2.2.2.1.ext O44.2) (g := (mkF m 55 #[.val (.int p0), .val (.ref b1), .unset, .unset, .unset, .unset, .unset] [(.int (1 : Int32)), (.ref b35), (.ref b35)])) rfl (hb hby at_55)
  obtain ⟨c46, Ar46, q46, S46, M46, Hh46, G46⟩ := (id v43)
  have hin46 : ¬ ((1 : Int32) < 0 ∨ c46.slots.size ≤ ((1 : Int32)).toNatClampNeg) := inb_of S46 ⟨by decide, by decide⟩
  obtain ⟨T47, h47, X47, e47, W47, st47⟩ := stR X45 hx hZ e45 Ar46 (j := (1 : Int32)) hin46 rfl (Sto.ofV Ar46 q46 O35' (Ins.self (hS.2.2.2.2.2.2.1.ext O44.2))) (g := (mkF m 58 #[.val (.int p0), .val (.ref b1), .unset, .unset, .unset, .unset, .unset] [(.ref a_INDETERMINATE_D), (.int (1 : Int32)), (.ref b35), (.ref b35)])) rfl rfl (hb hby at_58)
  have v48 : Arv Z h47 b35 k35 (.object "com/example/iron_policy/ironpolicy/Decision") (6 : Int32) [(.ref a_INDETERMINATE_P), (.ref a_INDETERMINATE_D), .null, .null, .null, .null] .null := Arv.set Ar46 q46 S46 M46 Hh46 G46 rfl W47 1 rfl (Nat.le_of_ble_eq_true rfl)
  have N47 := Fr.snoc X47 N42 g37
  have O49 : Old Z n0 h47 := Old.wr O44 W47 g37
  obtain ⟨T50, X50, e50, st50⟩ := getS2 X47 hx hZ hown (host := "") (Or.inl (hw _ (List.mem_of_getElem? (i := 8) rfl))) Via.refl e47 (hS.2.2.2.2.2.1.ext O49.2) (g := (mkF m 61 #[.val (.int p0), .val (.ref b1), .unset, .unset, .unset, .unset, .unset] [(.int (2 : Int32)), (.ref b35), (.ref b35)])) rfl (hb hby at_61)
  obtain ⟨c51, Ar51, q51, S51, M51, Hh51, G51⟩ := (id v48)
  have hin51 : ¬ ((2 : Int32) < 0 ∨ c51.slots.size ≤ ((2 : Int32)).toNatClampNeg) := inb_of S51 ⟨by decide, by decide⟩
  obtain ⟨T52, h52, X52, e52, W52, st52⟩ := stR X50 hx hZ e50 Ar51 (j := (2 : Int32)) hin51 rfl (Sto.ofV Ar51 q51 O35' (Ins.self (hS.2.2.2.2.1.ext O49.2))) (g := (mkF m 64 #[.val (.int p0), .val (.ref b1), .unset, .unset, .unset, .unset, .unset] [(.ref a_NOT_APPLICABLE), (.int (2 : Int32)), (.ref b35), (.ref b35)])) rfl rfl (hb hby at_64)
  have v53 : Arv Z h52 b35 k35 (.object "com/example/iron_policy/ironpolicy/Decision") (6 : Int32) [(.ref a_INDETERMINATE_P), (.ref a_INDETERMINATE_D), (.ref a_NOT_APPLICABLE), .null, .null, .null] .null := Arv.set Ar51 q51 S51 M51 Hh51 G51 rfl W52 2 rfl (Nat.le_of_ble_eq_true rfl)
  have N52 := Fr.snoc X52 N47 g37
  have O54 : Old Z n0 h52 := Old.wr O49 W52 g37
  obtain ⟨T55, X55, e55, st55⟩ := getS2 X52 hx hZ hown (host := "") (Or.inl (hw _ (List.mem_of_getElem? (i := 10) rfl))) Via.refl e52 (hS.2.2.2.2.2.2.2.1.ext O54.2) (g := (mkF m 67 #[.val (.int p0), .val (.ref b1), .unset, .unset, .unset, .unset, .unset] [(.int (3 : Int32)), (.ref b35), (.ref b35)])) rfl (hb hby at_67)
  obtain ⟨c56, Ar56, q56, S56, M56, Hh56, G56⟩ := (id v53)
  have hin56 : ¬ ((3 : Int32) < 0 ∨ c56.slots.size ≤ ((3 : Int32)).toNatClampNeg) := inb_of S56 ⟨by decide, by decide⟩
  obtain ⟨T57, h57, X57, e57, W57, st57⟩ := stR X55 hx hZ e55 Ar56 (j := (3 : Int32)) hin56 rfl (Sto.ofV Ar56 q56 O35' (Ins.self (hS.2.2.2.2.2.2.1.ext O54.2))) (g := (mkF m 70 #[.val (.int p0), .val (.ref b1), .unset, .unset, .unset, .unset, .unset] [(.ref a_INDETERMINATE_D), (.int (3 : Int32)), (.ref b35), (.ref b35)])) rfl rfl (hb hby at_70)
  have v58 : Arv Z h57 b35 k35 (.object "com/example/iron_policy/ironpolicy/Decision") (6 : Int32) [(.ref a_INDETERMINATE_P), (.ref a_INDETERMINATE_D), (.ref a_NOT_APPLICABLE), (.ref a_INDETERMINATE_D), .null, .null] .null := Arv.set Ar56 q56 S56 M56 Hh56 G56 rfl W57 3 rfl (Nat.le_of_ble_eq_true rfl)
  have N57 := Fr.snoc X57 N52 g37
  have O59 : Old Z n0 h57 := Old.wr O54 W57 g37
  obtain ⟨T60, X60, e60, st60⟩ := getS2 X57 hx hZ hown (host := "") (Or.inl (hw _ (List.mem_of_getElem? (i := 12) rfl))) Via.refl e57 (hS.2.2.2.2.2.2.2.2.2.1.ext O59.2) (g := (mkF m 73 #[.val (.int p0), .val (.ref b1), .unset, .unset, .unset, .unset, .unset] [(.int (4 : Int32)), (.ref b35), (.ref b35)])) rfl (hb hby at_73)
  obtain ⟨c61, Ar61, q61, S61, M61, Hh61, G61⟩ := (id v58)
  have hin61 : ¬ ((4 : Int32) < 0 ∨ c61.slots.size ≤ ((4 : Int32)).toNatClampNeg) := inb_of S61 ⟨by decide, by decide⟩
  obtain ⟨T62, h62, X62, e62, W62, st62⟩ := stR X60 hx hZ e60 Ar61 (j := (4 : Int32)) hin61 rfl (Sto.ofV Ar61 q61 O35' (Ins.self (hS.2.2.2.2.2.2.2.2.1.ext O59.2))) (g := (mkF m 76 #[.val (.int p0), .val (.ref b1), .unset, .unset, .unset, .unset, .unset] [(.ref a_INDETERMINATE_P), (.int (4 : Int32)), (.ref b35), (.ref b35)])) rfl rfl (hb hby at_76)
  have v63 : Arv Z h62 b35 k35 (.object "com/example/iron_policy/ironpolicy/Decision") (6 : Int32) [(.ref a_INDETERMINATE_P), (.ref a_INDETERMINATE_D), (.ref a_NOT_APPLICABLE), (.ref a_INDETERMINATE_D), (.ref a_INDETERMINATE_P), .null] .null := Arv.set Ar61 q61 S61 M61 Hh61 G61 rfl W62 4 rfl (Nat.le_of_ble_eq_true rfl)
  have N62 := Fr.snoc X62 N57 g37
  have O64 : Old Z n0 h62 := Old.wr O59 W62 g37
  obtain ⟨T65, X65, e65, st65⟩ := getS2 X62 hx hZ hown (host := "") (Or.inl (hw _ (List.mem_of_getElem? (i := 14) rfl))) Via.refl e62 (hS.2.2.2.2.2.2.2.2.2.2.2.1.ext O64.2) (g := (mkF m 79 #[.val (.int p0), .val (.ref b1), .unset, .unset, .unset, .unset, .unset] [(.int (5 : Int32)), (.ref b35), (.ref b35)])) rfl (hb hby at_79)
  obtain ⟨c66, Ar66, q66, S66, M66, Hh66, G66⟩ := (id v63)
  have hin66 : ¬ ((5 : Int32) < 0 ∨ c66.slots.size ≤ ((5 : Int32)).toNatClampNeg) := inb_of S66 ⟨by decide, by decide⟩
  obtain ⟨T67, h67, X67, e67, W67, st67⟩ := stR X65 hx hZ e65 Ar66 (j := (5 : Int32)) hin66 rfl (Sto.ofV Ar66 q66 O35' (Ins.self (hS.2.2.2.2.2.2.2.2.2.2.1.ext O64.2))) (g := (mkF m 82 #[.val (.int p0), .val (.ref b1), .unset, .unset, .unset, .unset, .unset] [(.ref a_INDETERMINATE_DP), (.int (5 : Int32)), (.ref b35), (.ref b35)])) rfl rfl (hb hby at_82)
  have v68 : Arv Z h67 b35 k35 (.object "com/example/iron_policy/ironpolicy/Decision") (6 : Int32) [(.ref a_INDETERMINATE_P), (.ref a_INDETERMINATE_D), (.ref a_NOT_APPLICABLE), (.ref a_INDETERMINATE_D), (.ref a_INDETERMINATE_P), (.ref a_INDETERMINATE_DP)] .null := Arv.set Ar66 q66 S66 M66 Hh66 G66 rfl W67 5 rfl (Nat.le_of_ble_eq_true rfl)
  have N67 := Fr.snoc X67 N62 g37
  have O69 : Old Z n0 h67 := Old.wr O64 W67 g37
  have gp70 : ∀ t, Steps p.tables e below (T67.setTop (mkF m 91 #[.val (.int p0), .val (.ref b1), .val (.ref b35), .unset, .unset, .unset, .unset] [(.int ((p0 &&& (2147483647 : Int32)) % (6 : Int32)))])) t → Steps p.tables e below (s₁.setTop (entryFrame m #[(.int p0)] maxLocals)) t := fun t kt => pre0 t (by
    refine XS.bipush X0.here hx rfl (hb hby at_0) ?_
    show Steps p.tables e below (s₁.setTop (mkF m 2 #[.val (.int p0), .unset, .unset, .unset, .unset, .unset, .unset] [(.int (6 : Int32))])) _
    refine st1 _ ?_
    show Steps p.tables e below (T1.setTop (mkF m 5 #[.val (.int p0), .unset, .unset, .unset, .unset, .unset, .unset] [(.ref b1)])) _
    refine XS.dup X1.here hx rfl (hb hby at_5) rfl rfl ?_
    show Steps p.tables e below (T1.setTop (mkF m 6 #[.val (.int p0), .unset, .unset, .unset, .unset, .unset, .unset] [(.ref b1), (.ref b1)])) _
    refine XS.iconst X1.here hx rfl (hb hby at_6) ?_
    show Steps p.tables e below (T1.setTop (mkF m 7 #[.val (.int p0), .unset, .unset, .unset, .unset, .unset, .unset] [(.int (0 : Int32)), (.ref b1), (.ref b1)])) _
    refine st5 _ ?_
    show Steps p.tables e below (T5.setTop (mkF m 10 #[.val (.int p0), .unset, .unset, .unset, .unset, .unset, .unset] [(.ref a_PERMIT), (.int (0 : Int32)), (.ref b1), (.ref b1)])) _
    refine st7 _ ?_
    show Steps p.tables e below (T7.setTop (mkF m 11 #[.val (.int p0), .unset, .unset, .unset, .unset, .unset, .unset] [(.ref b1)])) _
    refine XS.dup X7.here hx rfl (hb hby at_11) rfl rfl ?_
    show Steps p.tables e below (T7.setTop (mkF m 12 #[.val (.int p0), .unset, .unset, .unset, .unset, .unset, .unset] [(.ref b1), (.ref b1)])) _
    refine XS.iconst X7.here hx rfl (hb hby at_12) ?_
    show Steps p.tables e below (T7.setTop (mkF m 13 #[.val (.int p0), .unset, .unset, .unset, .unset, .unset, .unset] [(.int (1 : Int32)), (.ref b1), (.ref b1)])) _
    refine st10 _ ?_
    show Steps p.tables e below (T10.setTop (mkF m 16 #[.val (.int p0), .unset, .unset, .unset, .unset, .unset, .unset] [(.ref a_DENY), (.int (1 : Int32)), (.ref b1), (.ref b1)])) _
    refine st12 _ ?_
    show Steps p.tables e below (T12.setTop (mkF m 17 #[.val (.int p0), .unset, .unset, .unset, .unset, .unset, .unset] [(.ref b1)])) _
    refine XS.dup X12.here hx rfl (hb hby at_17) rfl rfl ?_
    show Steps p.tables e below (T12.setTop (mkF m 18 #[.val (.int p0), .unset, .unset, .unset, .unset, .unset, .unset] [(.ref b1), (.ref b1)])) _
    refine XS.iconst X12.here hx rfl (hb hby at_18) ?_
    show Steps p.tables e below (T12.setTop (mkF m 19 #[.val (.int p0), .unset, .unset, .unset, .unset, .unset, .unset] [(.int (2 : Int32)), (.ref b1), (.ref b1)])) _
    refine st15 _ ?_
    show Steps p.tables e below (T15.setTop (mkF m 22 #[.val (.int p0), .unset, .unset, .unset, .unset, .unset, .unset] [(.ref a_NOT_APPLICABLE), (.int (2 : Int32)), (.ref b1), (.ref b1)])) _
    refine st17 _ ?_
    show Steps p.tables e below (T17.setTop (mkF m 23 #[.val (.int p0), .unset, .unset, .unset, .unset, .unset, .unset] [(.ref b1)])) _
    refine XS.dup X17.here hx rfl (hb hby at_23) rfl rfl ?_
    show Steps p.tables e below (T17.setTop (mkF m 24 #[.val (.int p0), .unset, .unset, .unset, .unset, .unset, .unset] [(.ref b1), (.ref b1)])) _
    refine XS.iconst X17.here hx rfl (hb hby at_24) ?_
    show Steps p.tables e below (T17.setTop (mkF m 25 #[.val (.int p0), .unset, .unset, .unset, .unset, .unset, .unset] [(.int (3 : Int32)), (.ref b1), (.ref b1)])) _
    refine st20 _ ?_
    show Steps p.tables e below (T20.setTop (mkF m 28 #[.val (.int p0), .unset, .unset, .unset, .unset, .unset, .unset] [(.ref a_INDETERMINATE_D), (.int (3 : Int32)), (.ref b1), (.ref b1)])) _
    refine st22 _ ?_
    show Steps p.tables e below (T22.setTop (mkF m 29 #[.val (.int p0), .unset, .unset, .unset, .unset, .unset, .unset] [(.ref b1)])) _
    refine XS.dup X22.here hx rfl (hb hby at_29) rfl rfl ?_
    show Steps p.tables e below (T22.setTop (mkF m 30 #[.val (.int p0), .unset, .unset, .unset, .unset, .unset, .unset] [(.ref b1), (.ref b1)])) _
    refine XS.iconst X22.here hx rfl (hb hby at_30) ?_
    show Steps p.tables e below (T22.setTop (mkF m 31 #[.val (.int p0), .unset, .unset, .unset, .unset, .unset, .unset] [(.int (4 : Int32)), (.ref b1), (.ref b1)])) _
    refine st25 _ ?_
    show Steps p.tables e below (T25.setTop (mkF m 34 #[.val (.int p0), .unset, .unset, .unset, .unset, .unset, .unset] [(.ref a_INDETERMINATE_P), (.int (4 : Int32)), (.ref b1), (.ref b1)])) _
    refine st27 _ ?_
    show Steps p.tables e below (T27.setTop (mkF m 35 #[.val (.int p0), .unset, .unset, .unset, .unset, .unset, .unset] [(.ref b1)])) _
    refine XS.dup X27.here hx rfl (hb hby at_35) rfl rfl ?_
    show Steps p.tables e below (T27.setTop (mkF m 36 #[.val (.int p0), .unset, .unset, .unset, .unset, .unset, .unset] [(.ref b1), (.ref b1)])) _
    refine XS.iconst X27.here hx rfl (hb hby at_36) ?_
    show Steps p.tables e below (T27.setTop (mkF m 37 #[.val (.int p0), .unset, .unset, .unset, .unset, .unset, .unset] [(.int (5 : Int32)), (.ref b1), (.ref b1)])) _
    refine st30 _ ?_
    show Steps p.tables e below (T30.setTop (mkF m 40 #[.val (.int p0), .unset, .unset, .unset, .unset, .unset, .unset] [(.ref a_INDETERMINATE_DP), (.int (5 : Int32)), (.ref b1), (.ref b1)])) _
    refine st32 _ ?_
    show Steps p.tables e below (T32.setTop (mkF m 41 #[.val (.int p0), .unset, .unset, .unset, .unset, .unset, .unset] [(.ref b1)])) _
    refine XS.astoreN X32.here hx rfl (hb hby at_41) rfl rfl (l' := #[.val (.int p0), .val (.ref b1), .unset, .unset, .unset, .unset, .unset]) rfl ?_
    show Steps p.tables e below (T32.setTop (mkF m 42 #[.val (.int p0), .val (.ref b1), .unset, .unset, .unset, .unset, .unset] [])) _
    refine XS.bipush X32.here hx rfl (hb hby at_42) ?_
    show Steps p.tables e below (T32.setTop (mkF m 44 #[.val (.int p0), .val (.ref b1), .unset, .unset, .unset, .unset, .unset] [(.int (6 : Int32))])) _
    refine st35 _ ?_
    show Steps p.tables e below (T35.setTop (mkF m 47 #[.val (.int p0), .val (.ref b1), .unset, .unset, .unset, .unset, .unset] [(.ref b35)])) _
    refine XS.dup X35.here hx rfl (hb hby at_47) rfl rfl ?_
    show Steps p.tables e below (T35.setTop (mkF m 48 #[.val (.int p0), .val (.ref b1), .unset, .unset, .unset, .unset, .unset] [(.ref b35), (.ref b35)])) _
    refine XS.iconst X35.here hx rfl (hb hby at_48) ?_
    show Steps p.tables e below (T35.setTop (mkF m 49 #[.val (.int p0), .val (.ref b1), .unset, .unset, .unset, .unset, .unset] [(.int (0 : Int32)), (.ref b35), (.ref b35)])) _
    refine st40 _ ?_
    show Steps p.tables e below (T40.setTop (mkF m 52 #[.val (.int p0), .val (.ref b1), .unset, .unset, .unset, .unset, .unset] [(.ref a_INDETERMINATE_P), (.int (0 : Int32)), (.ref b35), (.ref b35)])) _
    refine st42 _ ?_
    show Steps p.tables e below (T42.setTop (mkF m 53 #[.val (.int p0), .val (.ref b1), .unset, .unset, .unset, .unset, .unset] [(.ref b35)])) _
    refine XS.dup X42.here hx rfl (hb hby at_53) rfl rfl ?_
    show Steps p.tables e below (T42.setTop (mkF m 54 #[.val (.int p0), .val (.ref b1), .unset, .unset, .unset, .unset, .unset] [(.ref b35), (.ref b35)])) _
    refine XS.iconst X42.here hx rfl (hb hby at_54) ?_
    show Steps p.tables e below (T42.setTop (mkF m 55 #[.val (.int p0), .val (.ref b1), .unset, .unset, .unset, .unset, .unset] [(.int (1 : Int32)), (.ref b35), (.ref b35)])) _
    refine st45 _ ?_
    show Steps p.tables e below (T45.setTop (mkF m 58 #[.val (.int p0), .val (.ref b1), .unset, .unset, .unset, .unset, .unset] [(.ref a_INDETERMINATE_D), (.int (1 : Int32)), (.ref b35), (.ref b35)])) _
    refine st47 _ ?_
    show Steps p.tables e below (T47.setTop (mkF m 59 #[.val (.int p0), .val (.ref b1), .unset, .unset, .unset, .unset, .unset] [(.ref b35)])) _
    refine XS.dup X47.here hx rfl (hb hby at_59) rfl rfl ?_
    show Steps p.tables e below (T47.setTop (mkF m 60 #[.val (.int p0), .val (.ref b1), .unset, .unset, .unset, .unset, .unset] [(.ref b35), (.ref b35)])) _
    refine XS.iconst X47.here hx rfl (hb hby at_60) ?_
    show Steps p.tables e below (T47.setTop (mkF m 61 #[.val (.int p0), .val (.ref b1), .unset, .unset, .unset, .unset, .unset] [(.int (2 : Int32)), (.ref b35), (.ref b35)])) _
    refine st50 _ ?_
    show Steps p.tables e below (T50.setTop (mkF m 64 #[.val (.int p0), .val (.ref b1), .unset, .unset, .unset, .unset, .unset] [(.ref a_NOT_APPLICABLE), (.int (2 : Int32)), (.ref b35), (.ref b35)])) _
    refine st52 _ ?_
    show Steps p.tables e below (T52.setTop (mkF m 65 #[.val (.int p0), .val (.ref b1), .unset, .unset, .unset, .unset, .unset] [(.ref b35)])) _
    refine XS.dup X52.here hx rfl (hb hby at_65) rfl rfl ?_
    show Steps p.tables e below (T52.setTop (mkF m 66 #[.val (.int p0), .val (.ref b1), .unset, .unset, .unset, .unset, .unset] [(.ref b35), (.ref b35)])) _
    refine XS.iconst X52.here hx rfl (hb hby at_66) ?_
    show Steps p.tables e below (T52.setTop (mkF m 67 #[.val (.int p0), .val (.ref b1), .unset, .unset, .unset, .unset, .unset] [(.int (3 : Int32)), (.ref b35), (.ref b35)])) _
    refine st55 _ ?_
    show Steps p.tables e below (T55.setTop (mkF m 70 #[.val (.int p0), .val (.ref b1), .unset, .unset, .unset, .unset, .unset] [(.ref a_INDETERMINATE_D), (.int (3 : Int32)), (.ref b35), (.ref b35)])) _
    refine st57 _ ?_
    show Steps p.tables e below (T57.setTop (mkF m 71 #[.val (.int p0), .val (.ref b1), .unset, .unset, .unset, .unset, .unset] [(.ref b35)])) _
    refine XS.dup X57.here hx rfl (hb hby at_71) rfl rfl ?_
    show Steps p.tables e below (T57.setTop (mkF m 72 #[.val (.int p0), .val (.ref b1), .unset, .unset, .unset, .unset, .unset] [(.ref b35), (.ref b35)])) _
    refine XS.iconst X57.here hx rfl (hb hby at_72) ?_
    show Steps p.tables e below (T57.setTop (mkF m 73 #[.val (.int p0), .val (.ref b1), .unset, .unset, .unset, .unset, .unset] [(.int (4 : Int32)), (.ref b35), (.ref b35)])) _
    refine st60 _ ?_
    show Steps p.tables e below (T60.setTop (mkF m 76 #[.val (.int p0), .val (.ref b1), .unset, .unset, .unset, .unset, .unset] [(.ref a_INDETERMINATE_P), (.int (4 : Int32)), (.ref b35), (.ref b35)])) _
    refine st62 _ ?_
    show Steps p.tables e below (T62.setTop (mkF m 77 #[.val (.int p0), .val (.ref b1), .unset, .unset, .unset, .unset, .unset] [(.ref b35)])) _
    refine XS.dup X62.here hx rfl (hb hby at_77) rfl rfl ?_
    show Steps p.tables e below (T62.setTop (mkF m 78 #[.val (.int p0), .val (.ref b1), .unset, .unset, .unset, .unset, .unset] [(.ref b35), (.ref b35)])) _
    refine XS.iconst X62.here hx rfl (hb hby at_78) ?_
    show Steps p.tables e below (T62.setTop (mkF m 79 #[.val (.int p0), .val (.ref b1), .unset, .unset, .unset, .unset, .unset] [(.int (5 : Int32)), (.ref b35), (.ref b35)])) _
    refine st65 _ ?_
    show Steps p.tables e below (T65.setTop (mkF m 82 #[.val (.int p0), .val (.ref b1), .unset, .unset, .unset, .unset, .unset] [(.ref a_INDETERMINATE_DP), (.int (5 : Int32)), (.ref b35), (.ref b35)])) _
    refine st67 _ ?_
    show Steps p.tables e below (T67.setTop (mkF m 83 #[.val (.int p0), .val (.ref b1), .unset, .unset, .unset, .unset, .unset] [(.ref b35)])) _
    refine XS.astoreN X67.here hx rfl (hb hby at_83) rfl rfl (l' := #[.val (.int p0), .val (.ref b1), .val (.ref b35), .unset, .unset, .unset, .unset]) rfl ?_
    show Steps p.tables e below (T67.setTop (mkF m 84 #[.val (.int p0), .val (.ref b1), .val (.ref b35), .unset, .unset, .unset, .unset] [])) _
    refine XS.iloadN X67.here hx rfl (hb hby at_84) rfl ?_
    show Steps p.tables e below (T67.setTop (mkF m 85 #[.val (.int p0), .val (.ref b1), .val (.ref b35), .unset, .unset, .unset, .unset] [(.int p0)])) _
    refine X67.ldcInt hx hown (mvT hZ (hw _ (List.mem_of_getElem? (i := 16) rfl))) (g := (mkF m 85 #[.val (.int p0), .val (.ref b1), .val (.ref b35), .unset, .unset, .unset, .unset] [(.int p0)])) rfl (hb hby at_85) _ ?_
    show Steps p.tables e below (T67.setTop (mkF m 87 #[.val (.int p0), .val (.ref b1), .val (.ref b35), .unset, .unset, .unset, .unset] [(.int (2147483647 : Int32)), (.int p0)])) _
    refine XS.iand X67.here hx rfl (hb hby at_87) rfl ?_
    show Steps p.tables e below (T67.setTop (mkF m 88 #[.val (.int p0), .val (.ref b1), .val (.ref b35), .unset, .unset, .unset, .unset] [(.int (p0 &&& (2147483647 : Int32)))])) _
    refine XS.bipush X67.here hx rfl (hb hby at_88) ?_
    show Steps p.tables e below (T67.setTop (mkF m 90 #[.val (.int p0), .val (.ref b1), .val (.ref b35), .unset, .unset, .unset, .unset] [(.int (6 : Int32)), (.int (p0 &&& (2147483647 : Int32)))])) _
    refine iremM X67 hx rfl (hb hby at_90) rfl (by decide) ?_
    show Steps p.tables e below (T67.setTop (mkF m 91 #[.val (.int p0), .val (.ref b1), .val (.ref b35), .unset, .unset, .unset, .unset] [(.int ((p0 &&& (2147483647 : Int32)) % (6 : Int32)))])) _
    exact kt)
  rcases own_mod6 p0 with hk | hk | hk | hk | hk | hk
  · have gp71 := gp70
    rw [hk] at gp71
    have t72 : Arv Z h67 b1 k1 (.object "com/example/iron_policy/ironpolicy/Decision") (6 : Int32) [(.ref a_PERMIT), (.ref a_DENY), (.ref a_NOT_APPLICABLE), (.ref a_INDETERMINATE_D), (.ref a_INDETERMINATE_P), (.ref a_INDETERMINATE_DP)] .null := (((((((v33.ext E35).other W42 ne36).other W47 ne36).other W52 ne36).other W57 ne36).other W62 ne36).other W67 ne36)
    obtain ⟨c73, Ar73, q73, S73, M73, Hh73, G73⟩ := (id t72)
    have hin73 : ¬ ((0 : Int32) < 0 ∨ c73.slots.size ≤ ((0 : Int32)).toNatClampNeg) := inb_of S73 ⟨by decide, by decide⟩
    have hat73 : c73.slots[((0 : Int32)).toNatClampNeg]? = some (.ref a_PERMIT) := Hh73.at hin73 rfl
    obtain ⟨cq74, kq74, q74a, q74b, q74c⟩ := isOf hZ e67 ((hS.1.ext O69.2))
    obtain ⟨_, _, ⟨T74, L74, k74, n74⟩, -, X74, ⟨Lc74, hQ74, l74, y74, z74⟩, st74⟩ := X67.virtualBack hx (y := (⟨"com/example/iron_policy/ironpolicy/Decision", "indeterminate", "()Lcom/example/iron_policy/ironpolicy/Decision;"⟩ : MethodName)) (z := (⟨"com/example/iron_policy/ironpolicy/Decision", "indeterminate", "()Lcom/example/iron_policy/ironpolicy/Decision;"⟩ : MethodName)) hown (mvT hZ (hw _ (List.mem_of_getElem? (i := 17) rfl))) (mvT hZ (hw _ (List.mem_of_getElem? (i := 18) rfl))) (notFace_of_selects (args := #[]) (mvT hZ (hw _ (List.mem_of_getElem? (i := 20) rfl)))) (mvT hZ (hw _ (List.mem_of_getElem? (i := 20) rfl))) (mvT hZ (hw _ (List.mem_of_getElem? (i := 19) rfl))) (by decide) (backOf (W := 0) (rm1 l Z a0 hw [] a_PERMIT a_DENY a_NOT_APPLICABLE a_INDETERMINATE_D a_INDETERMINATE_P a_INDETERMINATE_DP hS a_PERMIT a_INDETERMINATE_P h67 n0 O69 ⟨fun _ => rfl, fun q => absurd rfl q, fun q => absurd rfl q⟩) hZ (hw _ (List.mem_of_getElem? (i := 21) rfl)) (hw _ (List.mem_of_getElem? (i := 3) rfl)) (by decide) (by decide)) q74a q74c (g := (mkF m 99 #[.val (.int p0), .val (.ref b1), .val (.ref b35), .val (.int (0 : Int32)), .val (.ref a_PERMIT), .unset, .unset] [(.ref a_PERMIT)])) rfl (by rw [hml]; rfl) (Steps.refl _) (argsL := []) (rest := []) (lenOf pd_0 rfl) rfl (by show 2 * 0 + _ ≤ _; exact Nat.le_of_eq rfl) (hb hby at_99) (fun _ _ => ⟨rfl, e67, (by decide : 2 + 0 ≤ _), (by decide : 12 + 0 ≤ _)⟩)
    dsimp only [Pt.U, Pt.locs, Pt.cells, Pt.slots] at X74 l74 y74 z74 st74 hQ74
    subst l74 y74 z74
    obtain ⟨rfl, N74q, e74⟩ := hQ74
    have N74 := Fr.app N67 N74q
    obtain ⟨c75, Ar75, q75, S75, M75, Hh75, G75⟩ := (id v68)
    have hin75 : ¬ ((0 : Int32) < 0 ∨ c75.slots.size ≤ ((0 : Int32)).toNatClampNeg) := inb_of S75 ⟨by decide, by decide⟩
    have hat75 : c75.slots[((0 : Int32)).toNatClampNeg]? = some (.ref a_INDETERMINATE_P) := Hh75.at hin75 rfl
    obtain ⟨cq76, kq76, q76a, q76b, q76c⟩ := isOf hZ e74 ((hS.2.2.2.2.2.2.2.2.1.ext O69.2))
    obtain ⟨_, _, ⟨T76, L76, k76, n76⟩, -, X76, ⟨Lc76, hQ76, l76, y76, z76⟩, st76⟩ := X74.virtualBack hx (y := (⟨"com/example/iron_policy/ironpolicy/Decision", "indeterminate", "()Lcom/example/iron_policy/ironpolicy/Decision;"⟩ : MethodName)) (z := (⟨"com/example/iron_policy/ironpolicy/Decision", "indeterminate", "()Lcom/example/iron_policy/ironpolicy/Decision;"⟩ : MethodName)) hown (mvT hZ (hw _ (List.mem_of_getElem? (i := 17) rfl))) (mvT hZ (hw _ (List.mem_of_getElem? (i := 18) rfl))) (notFace_of_selects (args := #[]) (mvT hZ (hw _ (List.mem_of_getElem? (i := 20) rfl)))) (mvT hZ (hw _ (List.mem_of_getElem? (i := 20) rfl))) (mvT hZ (hw _ (List.mem_of_getElem? (i := 19) rfl))) (by decide) (backOf (W := 0) (rm1 l Z a0 hw [] a_PERMIT a_DENY a_NOT_APPLICABLE a_INDETERMINATE_D a_INDETERMINATE_P a_INDETERMINATE_DP hS a_INDETERMINATE_P a_INDETERMINATE_P h67 n0 O69 ⟨fun q => absurd q (Fld.ne hS.2.2.2.2.2.2.2.2.2.2.2.2.1 hS.2.2.2.2.2.2.2.2.2.2.2.2.2.1 (fun q => absurd (Value.int.inj q) (by decide))), fun _ q => absurd q (Fld.ne hS.2.2.2.2.2.2.2.2.2.2.2.2.1 hS.2.2.2.2.2.2.2.2.2.2.2.2.2.2.1 (fun q => absurd (Value.int.inj q) (by decide))), fun _ _ => rfl⟩) hZ (hw _ (List.mem_of_getElem? (i := 21) rfl)) (hw _ (List.mem_of_getElem? (i := 3) rfl)) (by decide) (by decide)) q76a q76c (g := (mkF m 116 #[.val (.int p0), .val (.ref b1), .val (.ref b35), .val (.int (0 : Int32)), .val (.ref a_PERMIT), .val (.ref a_INDETERMINATE_P), .unset] [(.ref a_INDETERMINATE_P)])) rfl (by rw [hml]; rfl) (Steps.refl _) (argsL := []) (rest := []) (lenOf pd_0 rfl) rfl (by show 2 * 0 + _ ≤ _; exact Nat.le_of_eq rfl) (hb hby at_116) (fun _ _ => ⟨rfl, e74, (by decide : 2 + 0 ≤ _), (by decide : 12 + 0 ≤ _)⟩)
    dsimp only [Pt.U, Pt.locs, Pt.cells, Pt.slots] at X76 l76 y76 z76 st76 hQ76
    subst l76 y76 z76
    obtain ⟨rfl, N76q, e76⟩ := hQ76
    have N76 := Fr.app N74 N76q
    obtain ⟨fs, hr, hrun, hended, hW, hsame⟩ := X76.leave (v := (some (.int (1 : Int32)))) (fun h => by rw [Bd.returns] at h; cases h)
    refine ⟨_, _, gp71 _ ?_, hrun, hended, _, _, rfl, ?_, ⟨_, rfl⟩, hW, hsame.mono (by decide) (by decide)⟩
    · refine XS.istoreN X67.here hx rfl (hb hby at_91) rfl (l' := #[.val (.int p0), .val (.ref b1), .val (.ref b35), .val (.int (0 : Int32)), .unset, .unset, .unset]) rfl ?_
      show Steps p.tables e below (T67.setTop (mkF m 92 #[.val (.int p0), .val (.ref b1), .val (.ref b35), .val (.int (0 : Int32)), .unset, .unset, .unset] [])) _
      refine XS.aloadN X67.here hx rfl (hb hby at_92) rfl rfl ?_
      show Steps p.tables e below (T67.setTop (mkF m 93 #[.val (.int p0), .val (.ref b1), .val (.ref b35), .val (.int (0 : Int32)), .unset, .unset, .unset] [(.ref b1)])) _
      refine XS.iloadN X67.here hx rfl (hb hby at_93) rfl ?_
      show Steps p.tables e below (T67.setTop (mkF m 94 #[.val (.int p0), .val (.ref b1), .val (.ref b35), .val (.int (0 : Int32)), .unset, .unset, .unset] [(.int (0 : Int32)), (.ref b1)])) _
      refine X67.aaload hx (j := (0 : Int32)) (v := (.ref a_PERMIT)) (by rw [e67]; exact Ar73.1) (State.isArrayOf_alike hZ.alike Ar73.2.1) rfl Ar73.2.2 hin73 hat73 (g := (mkF m 94 #[.val (.int p0), .val (.ref b1), .val (.ref b35), .val (.int (0 : Int32)), .unset, .unset, .unset] [(.int (0 : Int32)), (.ref b1)])) rfl rfl (hb hby at_94) _ ?_
      show Steps p.tables e below (T67.setTop (mkF m 95 #[.val (.int p0), .val (.ref b1), .val (.ref b35), .val (.int (0 : Int32)), .unset, .unset, .unset] [(.ref a_PERMIT)])) _
      refine XS.astore X67.here hx rfl (hb hby at_95) rfl rfl (l' := #[.val (.int p0), .val (.ref b1), .val (.ref b35), .val (.int (0 : Int32)), .val (.ref a_PERMIT), .unset, .unset]) rfl ?_
      show Steps p.tables e below (T67.setTop (mkF m 97 #[.val (.int p0), .val (.ref b1), .val (.ref b35), .val (.int (0 : Int32)), .val (.ref a_PERMIT), .unset, .unset] [])) _
      refine XS.aload X67.here hx rfl (hb hby at_97) rfl rfl ?_
      show Steps p.tables e below (T67.setTop (mkF m 99 #[.val (.int p0), .val (.ref b1), .val (.ref b35), .val (.int (0 : Int32)), .val (.ref a_PERMIT), .unset, .unset] [(.ref a_PERMIT)])) _
      refine st74.trans ?_
      show Steps p.tables e below (T74.setTop (mkF m 102 #[.val (.int p0), .val (.ref b1), .val (.ref b35), .val (.int (0 : Int32)), .val (.ref a_PERMIT), .unset, .unset] [(.ref a_INDETERMINATE_P)])) _
      refine XS.astore X74.here hx rfl (hb hby at_102) rfl rfl (l' := #[.val (.int p0), .val (.ref b1), .val (.ref b35), .val (.int (0 : Int32)), .val (.ref a_PERMIT), .val (.ref a_INDETERMINATE_P), .unset]) rfl ?_
      show Steps p.tables e below (T74.setTop (mkF m 104 #[.val (.int p0), .val (.ref b1), .val (.ref b35), .val (.int (0 : Int32)), .val (.ref a_PERMIT), .val (.ref a_INDETERMINATE_P), .unset] [])) _
      refine XS.aload X74.here hx rfl (hb hby at_104) rfl rfl ?_
      show Steps p.tables e below (T74.setTop (mkF m 106 #[.val (.int p0), .val (.ref b1), .val (.ref b35), .val (.int (0 : Int32)), .val (.ref a_PERMIT), .val (.ref a_INDETERMINATE_P), .unset] [(.ref a_INDETERMINATE_P)])) _
      refine XS.aloadN X74.here hx rfl (hb hby at_106) rfl rfl ?_
      show Steps p.tables e below (T74.setTop (mkF m 107 #[.val (.int p0), .val (.ref b1), .val (.ref b35), .val (.int (0 : Int32)), .val (.ref a_PERMIT), .val (.ref a_INDETERMINATE_P), .unset] [(.ref b35), (.ref a_INDETERMINATE_P)])) _
      refine XS.iloadN X74.here hx rfl (hb hby at_107) rfl ?_
      show Steps p.tables e below (T74.setTop (mkF m 108 #[.val (.int p0), .val (.ref b1), .val (.ref b35), .val (.int (0 : Int32)), .val (.ref a_PERMIT), .val (.ref a_INDETERMINATE_P), .unset] [(.int (0 : Int32)), (.ref b35), (.ref a_INDETERMINATE_P)])) _
      refine X74.aaload hx (j := (0 : Int32)) (v := (.ref a_INDETERMINATE_P)) (by rw [e74]; exact Ar75.1) (State.isArrayOf_alike hZ.alike Ar75.2.1) rfl Ar75.2.2 hin75 hat75 (g := (mkF m 108 #[.val (.int p0), .val (.ref b1), .val (.ref b35), .val (.int (0 : Int32)), .val (.ref a_PERMIT), .val (.ref a_INDETERMINATE_P), .unset] [(.int (0 : Int32)), (.ref b35), (.ref a_INDETERMINATE_P)])) rfl rfl (hb hby at_108) _ ?_
      show Steps p.tables e below (T74.setTop (mkF m 109 #[.val (.int p0), .val (.ref b1), .val (.ref b35), .val (.int (0 : Int32)), .val (.ref a_PERMIT), .val (.ref a_INDETERMINATE_P), .unset] [(.ref a_INDETERMINATE_P), (.ref a_INDETERMINATE_P)])) _
      refine Jvm.RoadKit.acmp (g := (mkF m 109 #[.val (.int p0), .val (.ref b1), .val (.ref b35), .val (.int (0 : Int32)), .val (.ref a_PERMIT), .val (.ref a_INDETERMINATE_P), .unset] [(.ref a_INDETERMINATE_P), (.ref a_INDETERMINATE_P)])) X74 hx rfl rfl rfl (pc0 := 109) (pc' := 114) (same := true) rfl (hb hby at_109) rfl (decide_eq_true rfl) (by decide) (by decide) ?_
      show Steps p.tables e below (T74.setTop (mkF m 114 #[.val (.int p0), .val (.ref b1), .val (.ref b35), .val (.int (0 : Int32)), .val (.ref a_PERMIT), .val (.ref a_INDETERMINATE_P), .unset] [])) _
      refine XS.aload X74.here hx rfl (hb hby at_114) rfl rfl ?_
      show Steps p.tables e below (T74.setTop (mkF m 116 #[.val (.int p0), .val (.ref b1), .val (.ref b35), .val (.int (0 : Int32)), .val (.ref a_PERMIT), .val (.ref a_INDETERMINATE_P), .unset] [(.ref a_INDETERMINATE_P)])) _
      refine st76.trans ?_
      show Steps p.tables e below (T76.setTop (mkF m 119 #[.val (.int p0), .val (.ref b1), .val (.ref b35), .val (.int (0 : Int32)), .val (.ref a_PERMIT), .val (.ref a_INDETERMINATE_P), .unset] [(.ref a_INDETERMINATE_P)])) _
      refine XS.astore X76.here hx rfl (hb hby at_119) rfl rfl (l' := #[.val (.int p0), .val (.ref b1), .val (.ref b35), .val (.int (0 : Int32)), .val (.ref a_PERMIT), .val (.ref a_INDETERMINATE_P), .val (.ref a_INDETERMINATE_P)]) rfl ?_
      show Steps p.tables e below (T76.setTop (mkF m 121 #[.val (.int p0), .val (.ref b1), .val (.ref b35), .val (.int (0 : Int32)), .val (.ref a_PERMIT), .val (.ref a_INDETERMINATE_P), .val (.ref a_INDETERMINATE_P)] [])) _
      refine XS.aload X76.here hx rfl (hb hby at_121) rfl rfl ?_
      show Steps p.tables e below (T76.setTop (mkF m 123 #[.val (.int p0), .val (.ref b1), .val (.ref b35), .val (.int (0 : Int32)), .val (.ref a_PERMIT), .val (.ref a_INDETERMINATE_P), .val (.ref a_INDETERMINATE_P)] [(.ref a_INDETERMINATE_P)])) _
      refine XS.aload X76.here hx rfl (hb hby at_123) rfl rfl ?_
      show Steps p.tables e below (T76.setTop (mkF m 125 #[.val (.int p0), .val (.ref b1), .val (.ref b35), .val (.int (0 : Int32)), .val (.ref a_PERMIT), .val (.ref a_INDETERMINATE_P), .val (.ref a_INDETERMINATE_P)] [(.ref a_INDETERMINATE_P), (.ref a_INDETERMINATE_P)])) _
      refine Jvm.RoadKit.acmp (g := (mkF m 125 #[.val (.int p0), .val (.ref b1), .val (.ref b35), .val (.int (0 : Int32)), .val (.ref a_PERMIT), .val (.ref a_INDETERMINATE_P), .val (.ref a_INDETERMINATE_P)] [(.ref a_INDETERMINATE_P), (.ref a_INDETERMINATE_P)])) X76 hx rfl rfl rfl (pc0 := 125) (pc' := 128) (same := true) rfl (hb hby at_125) rfl (decide_eq_true rfl) (by decide) (by decide) ?_
      show Steps p.tables e below (T76.setTop (mkF m 128 #[.val (.int p0), .val (.ref b1), .val (.ref b35), .val (.int (0 : Int32)), .val (.ref a_PERMIT), .val (.ref a_INDETERMINATE_P), .val (.ref a_INDETERMINATE_P)] [])) _
      refine XS.iconst X76.here hx rfl (hb hby at_128) ?_
      show Steps p.tables e below (T76.setTop (mkF m 129 #[.val (.int p0), .val (.ref b1), .val (.ref b35), .val (.int (0 : Int32)), .val (.ref a_PERMIT), .val (.ref a_INDETERMINATE_P), .val (.ref a_INDETERMINATE_P)] [(.int (1 : Int32))])) _
      refine XS.goto X76.here hx rfl (pc0 := 129) (pc' := 133) rfl (hb hby at_129) (by decide) (by decide) ?_
      show Steps p.tables e below (T76.setTop (mkF m 133 #[.val (.int p0), .val (.ref b1), .val (.ref b35), .val (.int (0 : Int32)), .val (.ref a_PERMIT), .val (.ref a_INDETERMINATE_P), .val (.ref a_INDETERMINATE_P)] [(.int (1 : Int32))])) _
      exact retN X76 hx (t := .boolean) Bd.returns (by simp) (hb hby at_133) hr
    · show Q0 n0 _ T76.heap _
      rw [e76]
      exact ⟨rfl, N76⟩
  · have gp77 := gp70
    rw [hk] at gp77
    have t78 : Arv Z h67 b1 k1 (.object "com/example/iron_policy/ironpolicy/Decision") (6 : Int32) [(.ref a_PERMIT), (.ref a_DENY), (.ref a_NOT_APPLICABLE), (.ref a_INDETERMINATE_D), (.ref a_INDETERMINATE_P), (.ref a_INDETERMINATE_DP)] .null := (((((((v33.ext E35).other W42 ne36).other W47 ne36).other W52 ne36).other W57 ne36).other W62 ne36).other W67 ne36)
    obtain ⟨c79, Ar79, q79, S79, M79, Hh79, G79⟩ := (id t78)
    have hin79 : ¬ ((1 : Int32) < 0 ∨ c79.slots.size ≤ ((1 : Int32)).toNatClampNeg) := inb_of S79 ⟨by decide, by decide⟩
    have hat79 : c79.slots[((1 : Int32)).toNatClampNeg]? = some (.ref a_DENY) := Hh79.at hin79 rfl
    obtain ⟨cq80, kq80, q80a, q80b, q80c⟩ := isOf hZ e67 ((hS.2.2.1.ext O69.2))
    obtain ⟨_, _, ⟨T80, L80, k80, n80⟩, -, X80, ⟨Lc80, hQ80, l80, y80, z80⟩, st80⟩ := X67.virtualBack hx (y := (⟨"com/example/iron_policy/ironpolicy/Decision", "indeterminate", "()Lcom/example/iron_policy/ironpolicy/Decision;"⟩ : MethodName)) (z := (⟨"com/example/iron_policy/ironpolicy/Decision", "indeterminate", "()Lcom/example/iron_policy/ironpolicy/Decision;"⟩ : MethodName)) hown (mvT hZ (hw _ (List.mem_of_getElem? (i := 17) rfl))) (mvT hZ (hw _ (List.mem_of_getElem? (i := 18) rfl))) (notFace_of_selects (args := #[]) (mvT hZ (hw _ (List.mem_of_getElem? (i := 20) rfl)))) (mvT hZ (hw _ (List.mem_of_getElem? (i := 20) rfl))) (mvT hZ (hw _ (List.mem_of_getElem? (i := 19) rfl))) (by decide) (backOf (W := 0) (rm1 l Z a0 hw [] a_PERMIT a_DENY a_NOT_APPLICABLE a_INDETERMINATE_D a_INDETERMINATE_P a_INDETERMINATE_DP hS a_DENY a_INDETERMINATE_D h67 n0 O69 ⟨fun q => absurd q (Fld.ne hS.2.2.2.2.2.2.2.2.2.2.2.2.2.2.1 hS.2.2.2.2.2.2.2.2.2.2.2.2.2.1 (fun q => absurd (Value.int.inj q) (by decide))), fun _ _ => rfl, fun _ q => absurd rfl q⟩) hZ (hw _ (List.mem_of_getElem? (i := 21) rfl)) (hw _ (List.mem_of_getElem? (i := 3) rfl)) (by decide) (by decide)) q80a q80c (g := (mkF m 99 #[.val (.int p0), .val (.ref b1), .val (.ref b35), .val (.int (1 : Int32)), .val (.ref a_DENY), .unset, .unset] [(.ref a_DENY)])) rfl (by rw [hml]; rfl) (Steps.refl _) (argsL := []) (rest := []) (lenOf pd_0 rfl) rfl (by show 2 * 0 + _ ≤ _; exact Nat.le_of_eq rfl) (hb hby at_99) (fun _ _ => ⟨rfl, e67, (by decide : 2 + 0 ≤ _), (by decide : 12 + 0 ≤ _)⟩)
    dsimp only [Pt.U, Pt.locs, Pt.cells, Pt.slots] at X80 l80 y80 z80 st80 hQ80
    subst l80 y80 z80
    obtain ⟨rfl, N80q, e80⟩ := hQ80
    have N80 := Fr.app N67 N80q
    obtain ⟨c81, Ar81, q81, S81, M81, Hh81, G81⟩ := (id v68)
    have hin81 : ¬ ((1 : Int32) < 0 ∨ c81.slots.size ≤ ((1 : Int32)).toNatClampNeg) := inb_of S81 ⟨by decide, by decide⟩
    have hat81 : c81.slots[((1 : Int32)).toNatClampNeg]? = some (.ref a_INDETERMINATE_D) := Hh81.at hin81 rfl
    obtain ⟨cq82, kq82, q82a, q82b, q82c⟩ := isOf hZ e80 ((hS.2.2.2.2.2.2.1.ext O69.2))
    obtain ⟨_, _, ⟨T82, L82, k82, n82⟩, -, X82, ⟨Lc82, hQ82, l82, y82, z82⟩, st82⟩ := X80.virtualBack hx (y := (⟨"com/example/iron_policy/ironpolicy/Decision", "indeterminate", "()Lcom/example/iron_policy/ironpolicy/Decision;"⟩ : MethodName)) (z := (⟨"com/example/iron_policy/ironpolicy/Decision", "indeterminate", "()Lcom/example/iron_policy/ironpolicy/Decision;"⟩ : MethodName)) hown (mvT hZ (hw _ (List.mem_of_getElem? (i := 17) rfl))) (mvT hZ (hw _ (List.mem_of_getElem? (i := 18) rfl))) (notFace_of_selects (args := #[]) (mvT hZ (hw _ (List.mem_of_getElem? (i := 20) rfl)))) (mvT hZ (hw _ (List.mem_of_getElem? (i := 20) rfl))) (mvT hZ (hw _ (List.mem_of_getElem? (i := 19) rfl))) (by decide) (backOf (W := 0) (rm1 l Z a0 hw [] a_PERMIT a_DENY a_NOT_APPLICABLE a_INDETERMINATE_D a_INDETERMINATE_P a_INDETERMINATE_DP hS a_INDETERMINATE_D a_INDETERMINATE_D h67 n0 O69 ⟨fun q => absurd q (Fld.ne hS.2.2.2.2.2.2.2.2.2.2.2.2.2.2.2.1 hS.2.2.2.2.2.2.2.2.2.2.2.2.2.1 (fun q => absurd (Value.int.inj q) (by decide))), fun _ q => absurd q (Fld.ne hS.2.2.2.2.2.2.2.2.2.2.2.2.2.2.2.1 hS.2.2.2.2.2.2.2.2.2.2.2.2.2.2.1 (fun q => absurd (Value.int.inj q) (by decide))), fun _ _ => rfl⟩) hZ (hw _ (List.mem_of_getElem? (i := 21) rfl)) (hw _ (List.mem_of_getElem? (i := 3) rfl)) (by decide) (by decide)) q82a q82c (g := (mkF m 116 #[.val (.int p0), .val (.ref b1), .val (.ref b35), .val (.int (1 : Int32)), .val (.ref a_DENY), .val (.ref a_INDETERMINATE_D), .unset] [(.ref a_INDETERMINATE_D)])) rfl (by rw [hml]; rfl) (Steps.refl _) (argsL := []) (rest := []) (lenOf pd_0 rfl) rfl (by show 2 * 0 + _ ≤ _; exact Nat.le_of_eq rfl) (hb hby at_116) (fun _ _ => ⟨rfl, e80, (by decide : 2 + 0 ≤ _), (by decide : 12 + 0 ≤ _)⟩)
    dsimp only [Pt.U, Pt.locs, Pt.cells, Pt.slots] at X82 l82 y82 z82 st82 hQ82
    subst l82 y82 z82
    obtain ⟨rfl, N82q, e82⟩ := hQ82
    have N82 := Fr.app N80 N82q
    obtain ⟨fs, hr, hrun, hended, hW, hsame⟩ := X82.leave (v := (some (.int (1 : Int32)))) (fun h => by rw [Bd.returns] at h; cases h)
    refine ⟨_, _, gp77 _ ?_, hrun, hended, _, _, rfl, ?_, ⟨_, rfl⟩, hW, hsame.mono (by decide) (by decide)⟩
    · refine XS.istoreN X67.here hx rfl (hb hby at_91) rfl (l' := #[.val (.int p0), .val (.ref b1), .val (.ref b35), .val (.int (1 : Int32)), .unset, .unset, .unset]) rfl ?_
      show Steps p.tables e below (T67.setTop (mkF m 92 #[.val (.int p0), .val (.ref b1), .val (.ref b35), .val (.int (1 : Int32)), .unset, .unset, .unset] [])) _
      refine XS.aloadN X67.here hx rfl (hb hby at_92) rfl rfl ?_
      show Steps p.tables e below (T67.setTop (mkF m 93 #[.val (.int p0), .val (.ref b1), .val (.ref b35), .val (.int (1 : Int32)), .unset, .unset, .unset] [(.ref b1)])) _
      refine XS.iloadN X67.here hx rfl (hb hby at_93) rfl ?_
      show Steps p.tables e below (T67.setTop (mkF m 94 #[.val (.int p0), .val (.ref b1), .val (.ref b35), .val (.int (1 : Int32)), .unset, .unset, .unset] [(.int (1 : Int32)), (.ref b1)])) _
      refine X67.aaload hx (j := (1 : Int32)) (v := (.ref a_DENY)) (by rw [e67]; exact Ar79.1) (State.isArrayOf_alike hZ.alike Ar79.2.1) rfl Ar79.2.2 hin79 hat79 (g := (mkF m 94 #[.val (.int p0), .val (.ref b1), .val (.ref b35), .val (.int (1 : Int32)), .unset, .unset, .unset] [(.int (1 : Int32)), (.ref b1)])) rfl rfl (hb hby at_94) _ ?_
      show Steps p.tables e below (T67.setTop (mkF m 95 #[.val (.int p0), .val (.ref b1), .val (.ref b35), .val (.int (1 : Int32)), .unset, .unset, .unset] [(.ref a_DENY)])) _
      refine XS.astore X67.here hx rfl (hb hby at_95) rfl rfl (l' := #[.val (.int p0), .val (.ref b1), .val (.ref b35), .val (.int (1 : Int32)), .val (.ref a_DENY), .unset, .unset]) rfl ?_
      show Steps p.tables e below (T67.setTop (mkF m 97 #[.val (.int p0), .val (.ref b1), .val (.ref b35), .val (.int (1 : Int32)), .val (.ref a_DENY), .unset, .unset] [])) _
      refine XS.aload X67.here hx rfl (hb hby at_97) rfl rfl ?_
      show Steps p.tables e below (T67.setTop (mkF m 99 #[.val (.int p0), .val (.ref b1), .val (.ref b35), .val (.int (1 : Int32)), .val (.ref a_DENY), .unset, .unset] [(.ref a_DENY)])) _
      refine st80.trans ?_
      show Steps p.tables e below (T80.setTop (mkF m 102 #[.val (.int p0), .val (.ref b1), .val (.ref b35), .val (.int (1 : Int32)), .val (.ref a_DENY), .unset, .unset] [(.ref a_INDETERMINATE_D)])) _
      refine XS.astore X80.here hx rfl (hb hby at_102) rfl rfl (l' := #[.val (.int p0), .val (.ref b1), .val (.ref b35), .val (.int (1 : Int32)), .val (.ref a_DENY), .val (.ref a_INDETERMINATE_D), .unset]) rfl ?_
      show Steps p.tables e below (T80.setTop (mkF m 104 #[.val (.int p0), .val (.ref b1), .val (.ref b35), .val (.int (1 : Int32)), .val (.ref a_DENY), .val (.ref a_INDETERMINATE_D), .unset] [])) _
      refine XS.aload X80.here hx rfl (hb hby at_104) rfl rfl ?_
      show Steps p.tables e below (T80.setTop (mkF m 106 #[.val (.int p0), .val (.ref b1), .val (.ref b35), .val (.int (1 : Int32)), .val (.ref a_DENY), .val (.ref a_INDETERMINATE_D), .unset] [(.ref a_INDETERMINATE_D)])) _
      refine XS.aloadN X80.here hx rfl (hb hby at_106) rfl rfl ?_
      show Steps p.tables e below (T80.setTop (mkF m 107 #[.val (.int p0), .val (.ref b1), .val (.ref b35), .val (.int (1 : Int32)), .val (.ref a_DENY), .val (.ref a_INDETERMINATE_D), .unset] [(.ref b35), (.ref a_INDETERMINATE_D)])) _
      refine XS.iloadN X80.here hx rfl (hb hby at_107) rfl ?_
      show Steps p.tables e below (T80.setTop (mkF m 108 #[.val (.int p0), .val (.ref b1), .val (.ref b35), .val (.int (1 : Int32)), .val (.ref a_DENY), .val (.ref a_INDETERMINATE_D), .unset] [(.int (1 : Int32)), (.ref b35), (.ref a_INDETERMINATE_D)])) _
      refine X80.aaload hx (j := (1 : Int32)) (v := (.ref a_INDETERMINATE_D)) (by rw [e80]; exact Ar81.1) (State.isArrayOf_alike hZ.alike Ar81.2.1) rfl Ar81.2.2 hin81 hat81 (g := (mkF m 108 #[.val (.int p0), .val (.ref b1), .val (.ref b35), .val (.int (1 : Int32)), .val (.ref a_DENY), .val (.ref a_INDETERMINATE_D), .unset] [(.int (1 : Int32)), (.ref b35), (.ref a_INDETERMINATE_D)])) rfl rfl (hb hby at_108) _ ?_
      show Steps p.tables e below (T80.setTop (mkF m 109 #[.val (.int p0), .val (.ref b1), .val (.ref b35), .val (.int (1 : Int32)), .val (.ref a_DENY), .val (.ref a_INDETERMINATE_D), .unset] [(.ref a_INDETERMINATE_D), (.ref a_INDETERMINATE_D)])) _
      refine Jvm.RoadKit.acmp (g := (mkF m 109 #[.val (.int p0), .val (.ref b1), .val (.ref b35), .val (.int (1 : Int32)), .val (.ref a_DENY), .val (.ref a_INDETERMINATE_D), .unset] [(.ref a_INDETERMINATE_D), (.ref a_INDETERMINATE_D)])) X80 hx rfl rfl rfl (pc0 := 109) (pc' := 114) (same := true) rfl (hb hby at_109) rfl (decide_eq_true rfl) (by decide) (by decide) ?_
      show Steps p.tables e below (T80.setTop (mkF m 114 #[.val (.int p0), .val (.ref b1), .val (.ref b35), .val (.int (1 : Int32)), .val (.ref a_DENY), .val (.ref a_INDETERMINATE_D), .unset] [])) _
      refine XS.aload X80.here hx rfl (hb hby at_114) rfl rfl ?_
      show Steps p.tables e below (T80.setTop (mkF m 116 #[.val (.int p0), .val (.ref b1), .val (.ref b35), .val (.int (1 : Int32)), .val (.ref a_DENY), .val (.ref a_INDETERMINATE_D), .unset] [(.ref a_INDETERMINATE_D)])) _
      refine st82.trans ?_
      show Steps p.tables e below (T82.setTop (mkF m 119 #[.val (.int p0), .val (.ref b1), .val (.ref b35), .val (.int (1 : Int32)), .val (.ref a_DENY), .val (.ref a_INDETERMINATE_D), .unset] [(.ref a_INDETERMINATE_D)])) _
      refine XS.astore X82.here hx rfl (hb hby at_119) rfl rfl (l' := #[.val (.int p0), .val (.ref b1), .val (.ref b35), .val (.int (1 : Int32)), .val (.ref a_DENY), .val (.ref a_INDETERMINATE_D), .val (.ref a_INDETERMINATE_D)]) rfl ?_
      show Steps p.tables e below (T82.setTop (mkF m 121 #[.val (.int p0), .val (.ref b1), .val (.ref b35), .val (.int (1 : Int32)), .val (.ref a_DENY), .val (.ref a_INDETERMINATE_D), .val (.ref a_INDETERMINATE_D)] [])) _
      refine XS.aload X82.here hx rfl (hb hby at_121) rfl rfl ?_
      show Steps p.tables e below (T82.setTop (mkF m 123 #[.val (.int p0), .val (.ref b1), .val (.ref b35), .val (.int (1 : Int32)), .val (.ref a_DENY), .val (.ref a_INDETERMINATE_D), .val (.ref a_INDETERMINATE_D)] [(.ref a_INDETERMINATE_D)])) _
      refine XS.aload X82.here hx rfl (hb hby at_123) rfl rfl ?_
      show Steps p.tables e below (T82.setTop (mkF m 125 #[.val (.int p0), .val (.ref b1), .val (.ref b35), .val (.int (1 : Int32)), .val (.ref a_DENY), .val (.ref a_INDETERMINATE_D), .val (.ref a_INDETERMINATE_D)] [(.ref a_INDETERMINATE_D), (.ref a_INDETERMINATE_D)])) _
      refine Jvm.RoadKit.acmp (g := (mkF m 125 #[.val (.int p0), .val (.ref b1), .val (.ref b35), .val (.int (1 : Int32)), .val (.ref a_DENY), .val (.ref a_INDETERMINATE_D), .val (.ref a_INDETERMINATE_D)] [(.ref a_INDETERMINATE_D), (.ref a_INDETERMINATE_D)])) X82 hx rfl rfl rfl (pc0 := 125) (pc' := 128) (same := true) rfl (hb hby at_125) rfl (decide_eq_true rfl) (by decide) (by decide) ?_
      show Steps p.tables e below (T82.setTop (mkF m 128 #[.val (.int p0), .val (.ref b1), .val (.ref b35), .val (.int (1 : Int32)), .val (.ref a_DENY), .val (.ref a_INDETERMINATE_D), .val (.ref a_INDETERMINATE_D)] [])) _
      refine XS.iconst X82.here hx rfl (hb hby at_128) ?_
      show Steps p.tables e below (T82.setTop (mkF m 129 #[.val (.int p0), .val (.ref b1), .val (.ref b35), .val (.int (1 : Int32)), .val (.ref a_DENY), .val (.ref a_INDETERMINATE_D), .val (.ref a_INDETERMINATE_D)] [(.int (1 : Int32))])) _
      refine XS.goto X82.here hx rfl (pc0 := 129) (pc' := 133) rfl (hb hby at_129) (by decide) (by decide) ?_
      show Steps p.tables e below (T82.setTop (mkF m 133 #[.val (.int p0), .val (.ref b1), .val (.ref b35), .val (.int (1 : Int32)), .val (.ref a_DENY), .val (.ref a_INDETERMINATE_D), .val (.ref a_INDETERMINATE_D)] [(.int (1 : Int32))])) _
      exact retN X82 hx (t := .boolean) Bd.returns (by simp) (hb hby at_133) hr
    · show Q0 n0 _ T82.heap _
      rw [e82]
      exact ⟨rfl, N82⟩
  · have gp83 := gp70
    rw [hk] at gp83
    have t84 : Arv Z h67 b1 k1 (.object "com/example/iron_policy/ironpolicy/Decision") (6 : Int32) [(.ref a_PERMIT), (.ref a_DENY), (.ref a_NOT_APPLICABLE), (.ref a_INDETERMINATE_D), (.ref a_INDETERMINATE_P), (.ref a_INDETERMINATE_DP)] .null := (((((((v33.ext E35).other W42 ne36).other W47 ne36).other W52 ne36).other W57 ne36).other W62 ne36).other W67 ne36)
    obtain ⟨c85, Ar85, q85, S85, M85, Hh85, G85⟩ := (id t84)
    have hin85 : ¬ ((2 : Int32) < 0 ∨ c85.slots.size ≤ ((2 : Int32)).toNatClampNeg) := inb_of S85 ⟨by decide, by decide⟩
    have hat85 : c85.slots[((2 : Int32)).toNatClampNeg]? = some (.ref a_NOT_APPLICABLE) := Hh85.at hin85 rfl
    obtain ⟨cq86, kq86, q86a, q86b, q86c⟩ := isOf hZ e67 ((hS.2.2.2.2.1.ext O69.2))
    obtain ⟨_, _, ⟨T86, L86, k86, n86⟩, -, X86, ⟨Lc86, hQ86, l86, y86, z86⟩, st86⟩ := X67.virtualBack hx (y := (⟨"com/example/iron_policy/ironpolicy/Decision", "indeterminate", "()Lcom/example/iron_policy/ironpolicy/Decision;"⟩ : MethodName)) (z := (⟨"com/example/iron_policy/ironpolicy/Decision", "indeterminate", "()Lcom/example/iron_policy/ironpolicy/Decision;"⟩ : MethodName)) hown (mvT hZ (hw _ (List.mem_of_getElem? (i := 17) rfl))) (mvT hZ (hw _ (List.mem_of_getElem? (i := 18) rfl))) (notFace_of_selects (args := #[]) (mvT hZ (hw _ (List.mem_of_getElem? (i := 20) rfl)))) (mvT hZ (hw _ (List.mem_of_getElem? (i := 20) rfl))) (mvT hZ (hw _ (List.mem_of_getElem? (i := 19) rfl))) (by decide) (backOf (W := 0) (rm1 l Z a0 hw [] a_PERMIT a_DENY a_NOT_APPLICABLE a_INDETERMINATE_D a_INDETERMINATE_P a_INDETERMINATE_DP hS a_NOT_APPLICABLE a_NOT_APPLICABLE h67 n0 O69 ⟨fun q => absurd q (Fld.ne hS.2.2.2.2.2.2.2.2.2.2.2.2.2.2.2.2.1 hS.2.2.2.2.2.2.2.2.2.2.2.2.2.1 (fun q => absurd (Value.int.inj q) (by decide))), fun _ q => absurd q (Fld.ne hS.2.2.2.2.2.2.2.2.2.2.2.2.2.2.2.2.1 hS.2.2.2.2.2.2.2.2.2.2.2.2.2.2.1 (fun q => absurd (Value.int.inj q) (by decide))), fun _ _ => rfl⟩) hZ (hw _ (List.mem_of_getElem? (i := 21) rfl)) (hw _ (List.mem_of_getElem? (i := 3) rfl)) (by decide) (by decide)) q86a q86c (g := (mkF m 99 #[.val (.int p0), .val (.ref b1), .val (.ref b35), .val (.int (2 : Int32)), .val (.ref a_NOT_APPLICABLE), .unset, .unset] [(.ref a_NOT_APPLICABLE)])) rfl (by rw [hml]; rfl) (Steps.refl _) (argsL := []) (rest := []) (lenOf pd_0 rfl) rfl (by show 2 * 0 + _ ≤ _; exact Nat.le_of_eq rfl) (hb hby at_99) (fun _ _ => ⟨rfl, e67, (by decide : 2 + 0 ≤ _), (by decide : 12 + 0 ≤ _)⟩)
    dsimp only [Pt.U, Pt.locs, Pt.cells, Pt.slots] at X86 l86 y86 z86 st86 hQ86
    subst l86 y86 z86
    obtain ⟨rfl, N86q, e86⟩ := hQ86
    have N86 := Fr.app N67 N86q
    obtain ⟨c87, Ar87, q87, S87, M87, Hh87, G87⟩ := (id v68)
    have hin87 : ¬ ((2 : Int32) < 0 ∨ c87.slots.size ≤ ((2 : Int32)).toNatClampNeg) := inb_of S87 ⟨by decide, by decide⟩
    have hat87 : c87.slots[((2 : Int32)).toNatClampNeg]? = some (.ref a_NOT_APPLICABLE) := Hh87.at hin87 rfl
    obtain ⟨cq88, kq88, q88a, q88b, q88c⟩ := isOf hZ e86 ((hS.2.2.2.2.1.ext O69.2))
    obtain ⟨_, _, ⟨T88, L88, k88, n88⟩, -, X88, ⟨Lc88, hQ88, l88, y88, z88⟩, st88⟩ := X86.virtualBack hx (y := (⟨"com/example/iron_policy/ironpolicy/Decision", "indeterminate", "()Lcom/example/iron_policy/ironpolicy/Decision;"⟩ : MethodName)) (z := (⟨"com/example/iron_policy/ironpolicy/Decision", "indeterminate", "()Lcom/example/iron_policy/ironpolicy/Decision;"⟩ : MethodName)) hown (mvT hZ (hw _ (List.mem_of_getElem? (i := 17) rfl))) (mvT hZ (hw _ (List.mem_of_getElem? (i := 18) rfl))) (notFace_of_selects (args := #[]) (mvT hZ (hw _ (List.mem_of_getElem? (i := 20) rfl)))) (mvT hZ (hw _ (List.mem_of_getElem? (i := 20) rfl))) (mvT hZ (hw _ (List.mem_of_getElem? (i := 19) rfl))) (by decide) (backOf (W := 0) (rm1 l Z a0 hw [] a_PERMIT a_DENY a_NOT_APPLICABLE a_INDETERMINATE_D a_INDETERMINATE_P a_INDETERMINATE_DP hS a_NOT_APPLICABLE a_NOT_APPLICABLE h67 n0 O69 ⟨fun q => absurd q (Fld.ne hS.2.2.2.2.2.2.2.2.2.2.2.2.2.2.2.2.1 hS.2.2.2.2.2.2.2.2.2.2.2.2.2.1 (fun q => absurd (Value.int.inj q) (by decide))), fun _ q => absurd q (Fld.ne hS.2.2.2.2.2.2.2.2.2.2.2.2.2.2.2.2.1 hS.2.2.2.2.2.2.2.2.2.2.2.2.2.2.1 (fun q => absurd (Value.int.inj q) (by decide))), fun _ _ => rfl⟩) hZ (hw _ (List.mem_of_getElem? (i := 21) rfl)) (hw _ (List.mem_of_getElem? (i := 3) rfl)) (by decide) (by decide)) q88a q88c (g := (mkF m 116 #[.val (.int p0), .val (.ref b1), .val (.ref b35), .val (.int (2 : Int32)), .val (.ref a_NOT_APPLICABLE), .val (.ref a_NOT_APPLICABLE), .unset] [(.ref a_NOT_APPLICABLE)])) rfl (by rw [hml]; rfl) (Steps.refl _) (argsL := []) (rest := []) (lenOf pd_0 rfl) rfl (by show 2 * 0 + _ ≤ _; exact Nat.le_of_eq rfl) (hb hby at_116) (fun _ _ => ⟨rfl, e86, (by decide : 2 + 0 ≤ _), (by decide : 12 + 0 ≤ _)⟩)
    dsimp only [Pt.U, Pt.locs, Pt.cells, Pt.slots] at X88 l88 y88 z88 st88 hQ88
    subst l88 y88 z88
    obtain ⟨rfl, N88q, e88⟩ := hQ88
    have N88 := Fr.app N86 N88q
    obtain ⟨fs, hr, hrun, hended, hW, hsame⟩ := X88.leave (v := (some (.int (1 : Int32)))) (fun h => by rw [Bd.returns] at h; cases h)
    refine ⟨_, _, gp83 _ ?_, hrun, hended, _, _, rfl, ?_, ⟨_, rfl⟩, hW, hsame.mono (by decide) (by decide)⟩
    · refine XS.istoreN X67.here hx rfl (hb hby at_91) rfl (l' := #[.val (.int p0), .val (.ref b1), .val (.ref b35), .val (.int (2 : Int32)), .unset, .unset, .unset]) rfl ?_
      show Steps p.tables e below (T67.setTop (mkF m 92 #[.val (.int p0), .val (.ref b1), .val (.ref b35), .val (.int (2 : Int32)), .unset, .unset, .unset] [])) _
      refine XS.aloadN X67.here hx rfl (hb hby at_92) rfl rfl ?_
      show Steps p.tables e below (T67.setTop (mkF m 93 #[.val (.int p0), .val (.ref b1), .val (.ref b35), .val (.int (2 : Int32)), .unset, .unset, .unset] [(.ref b1)])) _
      refine XS.iloadN X67.here hx rfl (hb hby at_93) rfl ?_
      show Steps p.tables e below (T67.setTop (mkF m 94 #[.val (.int p0), .val (.ref b1), .val (.ref b35), .val (.int (2 : Int32)), .unset, .unset, .unset] [(.int (2 : Int32)), (.ref b1)])) _
      refine X67.aaload hx (j := (2 : Int32)) (v := (.ref a_NOT_APPLICABLE)) (by rw [e67]; exact Ar85.1) (State.isArrayOf_alike hZ.alike Ar85.2.1) rfl Ar85.2.2 hin85 hat85 (g := (mkF m 94 #[.val (.int p0), .val (.ref b1), .val (.ref b35), .val (.int (2 : Int32)), .unset, .unset, .unset] [(.int (2 : Int32)), (.ref b1)])) rfl rfl (hb hby at_94) _ ?_
      show Steps p.tables e below (T67.setTop (mkF m 95 #[.val (.int p0), .val (.ref b1), .val (.ref b35), .val (.int (2 : Int32)), .unset, .unset, .unset] [(.ref a_NOT_APPLICABLE)])) _
      refine XS.astore X67.here hx rfl (hb hby at_95) rfl rfl (l' := #[.val (.int p0), .val (.ref b1), .val (.ref b35), .val (.int (2 : Int32)), .val (.ref a_NOT_APPLICABLE), .unset, .unset]) rfl ?_
      show Steps p.tables e below (T67.setTop (mkF m 97 #[.val (.int p0), .val (.ref b1), .val (.ref b35), .val (.int (2 : Int32)), .val (.ref a_NOT_APPLICABLE), .unset, .unset] [])) _
      refine XS.aload X67.here hx rfl (hb hby at_97) rfl rfl ?_
      show Steps p.tables e below (T67.setTop (mkF m 99 #[.val (.int p0), .val (.ref b1), .val (.ref b35), .val (.int (2 : Int32)), .val (.ref a_NOT_APPLICABLE), .unset, .unset] [(.ref a_NOT_APPLICABLE)])) _
      refine st86.trans ?_
      show Steps p.tables e below (T86.setTop (mkF m 102 #[.val (.int p0), .val (.ref b1), .val (.ref b35), .val (.int (2 : Int32)), .val (.ref a_NOT_APPLICABLE), .unset, .unset] [(.ref a_NOT_APPLICABLE)])) _
      refine XS.astore X86.here hx rfl (hb hby at_102) rfl rfl (l' := #[.val (.int p0), .val (.ref b1), .val (.ref b35), .val (.int (2 : Int32)), .val (.ref a_NOT_APPLICABLE), .val (.ref a_NOT_APPLICABLE), .unset]) rfl ?_
      show Steps p.tables e below (T86.setTop (mkF m 104 #[.val (.int p0), .val (.ref b1), .val (.ref b35), .val (.int (2 : Int32)), .val (.ref a_NOT_APPLICABLE), .val (.ref a_NOT_APPLICABLE), .unset] [])) _
      refine XS.aload X86.here hx rfl (hb hby at_104) rfl rfl ?_
      show Steps p.tables e below (T86.setTop (mkF m 106 #[.val (.int p0), .val (.ref b1), .val (.ref b35), .val (.int (2 : Int32)), .val (.ref a_NOT_APPLICABLE), .val (.ref a_NOT_APPLICABLE), .unset] [(.ref a_NOT_APPLICABLE)])) _
      refine XS.aloadN X86.here hx rfl (hb hby at_106) rfl rfl ?_
      show Steps p.tables e below (T86.setTop (mkF m 107 #[.val (.int p0), .val (.ref b1), .val (.ref b35), .val (.int (2 : Int32)), .val (.ref a_NOT_APPLICABLE), .val (.ref a_NOT_APPLICABLE), .unset] [(.ref b35), (.ref a_NOT_APPLICABLE)])) _
      refine XS.iloadN X86.here hx rfl (hb hby at_107) rfl ?_
      show Steps p.tables e below (T86.setTop (mkF m 108 #[.val (.int p0), .val (.ref b1), .val (.ref b35), .val (.int (2 : Int32)), .val (.ref a_NOT_APPLICABLE), .val (.ref a_NOT_APPLICABLE), .unset] [(.int (2 : Int32)), (.ref b35), (.ref a_NOT_APPLICABLE)])) _
      refine X86.aaload hx (j := (2 : Int32)) (v := (.ref a_NOT_APPLICABLE)) (by rw [e86]; exact Ar87.1) (State.isArrayOf_alike hZ.alike Ar87.2.1) rfl Ar87.2.2 hin87 hat87 (g := (mkF m 108 #[.val (.int p0), .val (.ref b1), .val (.ref b35), .val (.int (2 : Int32)), .val (.ref a_NOT_APPLICABLE), .val (.ref a_NOT_APPLICABLE), .unset] [(.int (2 : Int32)), (.ref b35), (.ref a_NOT_APPLICABLE)])) rfl rfl (hb hby at_108) _ ?_
      show Steps p.tables e below (T86.setTop (mkF m 109 #[.val (.int p0), .val (.ref b1), .val (.ref b35), .val (.int (2 : Int32)), .val (.ref a_NOT_APPLICABLE), .val (.ref a_NOT_APPLICABLE), .unset] [(.ref a_NOT_APPLICABLE), (.ref a_NOT_APPLICABLE)])) _
      refine Jvm.RoadKit.acmp (g := (mkF m 109 #[.val (.int p0), .val (.ref b1), .val (.ref b35), .val (.int (2 : Int32)), .val (.ref a_NOT_APPLICABLE), .val (.ref a_NOT_APPLICABLE), .unset] [(.ref a_NOT_APPLICABLE), (.ref a_NOT_APPLICABLE)])) X86 hx rfl rfl rfl (pc0 := 109) (pc' := 114) (same := true) rfl (hb hby at_109) rfl (decide_eq_true rfl) (by decide) (by decide) ?_
      show Steps p.tables e below (T86.setTop (mkF m 114 #[.val (.int p0), .val (.ref b1), .val (.ref b35), .val (.int (2 : Int32)), .val (.ref a_NOT_APPLICABLE), .val (.ref a_NOT_APPLICABLE), .unset] [])) _
      refine XS.aload X86.here hx rfl (hb hby at_114) rfl rfl ?_
      show Steps p.tables e below (T86.setTop (mkF m 116 #[.val (.int p0), .val (.ref b1), .val (.ref b35), .val (.int (2 : Int32)), .val (.ref a_NOT_APPLICABLE), .val (.ref a_NOT_APPLICABLE), .unset] [(.ref a_NOT_APPLICABLE)])) _
      refine st88.trans ?_
      show Steps p.tables e below (T88.setTop (mkF m 119 #[.val (.int p0), .val (.ref b1), .val (.ref b35), .val (.int (2 : Int32)), .val (.ref a_NOT_APPLICABLE), .val (.ref a_NOT_APPLICABLE), .unset] [(.ref a_NOT_APPLICABLE)])) _
      refine XS.astore X88.here hx rfl (hb hby at_119) rfl rfl (l' := #[.val (.int p0), .val (.ref b1), .val (.ref b35), .val (.int (2 : Int32)), .val (.ref a_NOT_APPLICABLE), .val (.ref a_NOT_APPLICABLE), .val (.ref a_NOT_APPLICABLE)]) rfl ?_
      show Steps p.tables e below (T88.setTop (mkF m 121 #[.val (.int p0), .val (.ref b1), .val (.ref b35), .val (.int (2 : Int32)), .val (.ref a_NOT_APPLICABLE), .val (.ref a_NOT_APPLICABLE), .val (.ref a_NOT_APPLICABLE)] [])) _
      refine XS.aload X88.here hx rfl (hb hby at_121) rfl rfl ?_
      show Steps p.tables e below (T88.setTop (mkF m 123 #[.val (.int p0), .val (.ref b1), .val (.ref b35), .val (.int (2 : Int32)), .val (.ref a_NOT_APPLICABLE), .val (.ref a_NOT_APPLICABLE), .val (.ref a_NOT_APPLICABLE)] [(.ref a_NOT_APPLICABLE)])) _
      refine XS.aload X88.here hx rfl (hb hby at_123) rfl rfl ?_
      show Steps p.tables e below (T88.setTop (mkF m 125 #[.val (.int p0), .val (.ref b1), .val (.ref b35), .val (.int (2 : Int32)), .val (.ref a_NOT_APPLICABLE), .val (.ref a_NOT_APPLICABLE), .val (.ref a_NOT_APPLICABLE)] [(.ref a_NOT_APPLICABLE), (.ref a_NOT_APPLICABLE)])) _
      refine Jvm.RoadKit.acmp (g := (mkF m 125 #[.val (.int p0), .val (.ref b1), .val (.ref b35), .val (.int (2 : Int32)), .val (.ref a_NOT_APPLICABLE), .val (.ref a_NOT_APPLICABLE), .val (.ref a_NOT_APPLICABLE)] [(.ref a_NOT_APPLICABLE), (.ref a_NOT_APPLICABLE)])) X88 hx rfl rfl rfl (pc0 := 125) (pc' := 128) (same := true) rfl (hb hby at_125) rfl (decide_eq_true rfl) (by decide) (by decide) ?_
      show Steps p.tables e below (T88.setTop (mkF m 128 #[.val (.int p0), .val (.ref b1), .val (.ref b35), .val (.int (2 : Int32)), .val (.ref a_NOT_APPLICABLE), .val (.ref a_NOT_APPLICABLE), .val (.ref a_NOT_APPLICABLE)] [])) _
      refine XS.iconst X88.here hx rfl (hb hby at_128) ?_
      show Steps p.tables e below (T88.setTop (mkF m 129 #[.val (.int p0), .val (.ref b1), .val (.ref b35), .val (.int (2 : Int32)), .val (.ref a_NOT_APPLICABLE), .val (.ref a_NOT_APPLICABLE), .val (.ref a_NOT_APPLICABLE)] [(.int (1 : Int32))])) _
      refine XS.goto X88.here hx rfl (pc0 := 129) (pc' := 133) rfl (hb hby at_129) (by decide) (by decide) ?_
      show Steps p.tables e below (T88.setTop (mkF m 133 #[.val (.int p0), .val (.ref b1), .val (.ref b35), .val (.int (2 : Int32)), .val (.ref a_NOT_APPLICABLE), .val (.ref a_NOT_APPLICABLE), .val (.ref a_NOT_APPLICABLE)] [(.int (1 : Int32))])) _
      exact retN X88 hx (t := .boolean) Bd.returns (by simp) (hb hby at_133) hr
    · show Q0 n0 _ T88.heap _
      rw [e88]
      exact ⟨rfl, N88⟩
  · have gp89 := gp70
    rw [hk] at gp89
    have t90 : Arv Z h67 b1 k1 (.object "com/example/iron_policy/ironpolicy/Decision") (6 : Int32) [(.ref a_PERMIT), (.ref a_DENY), (.ref a_NOT_APPLICABLE), (.ref a_INDETERMINATE_D), (.ref a_INDETERMINATE_P), (.ref a_INDETERMINATE_DP)] .null := (((((((v33.ext E35).other W42 ne36).other W47 ne36).other W52 ne36).other W57 ne36).other W62 ne36).other W67 ne36)
    obtain ⟨c91, Ar91, q91, S91, M91, Hh91, G91⟩ := (id t90)
    have hin91 : ¬ ((3 : Int32) < 0 ∨ c91.slots.size ≤ ((3 : Int32)).toNatClampNeg) := inb_of S91 ⟨by decide, by decide⟩
    have hat91 : c91.slots[((3 : Int32)).toNatClampNeg]? = some (.ref a_INDETERMINATE_D) := Hh91.at hin91 rfl
    obtain ⟨cq92, kq92, q92a, q92b, q92c⟩ := isOf hZ e67 ((hS.2.2.2.2.2.2.1.ext O69.2))
    obtain ⟨_, _, ⟨T92, L92, k92, n92⟩, -, X92, ⟨Lc92, hQ92, l92, y92, z92⟩, st92⟩ := X67.virtualBack hx (y := (⟨"com/example/iron_policy/ironpolicy/Decision", "indeterminate", "()Lcom/example/iron_policy/ironpolicy/Decision;"⟩ : MethodName)) (z := (⟨"com/example/iron_policy/ironpolicy/Decision", "indeterminate", "()Lcom/example/iron_policy/ironpolicy/Decision;"⟩ : MethodName)) hown (mvT hZ (hw _ (List.mem_of_getElem? (i := 17) rfl))) (mvT hZ (hw _ (List.mem_of_getElem? (i := 18) rfl))) (notFace_of_selects (args := #[]) (mvT hZ (hw _ (List.mem_of_getElem? (i := 20) rfl)))) (mvT hZ (hw _ (List.mem_of_getElem? (i := 20) rfl))) (mvT hZ (hw _ (List.mem_of_getElem? (i := 19) rfl))) (by decide) (backOf (W := 0) (rm1 l Z a0 hw [] a_PERMIT a_DENY a_NOT_APPLICABLE a_INDETERMINATE_D a_INDETERMINATE_P a_INDETERMINATE_DP hS a_INDETERMINATE_D a_INDETERMINATE_D h67 n0 O69 ⟨fun q => absurd q (Fld.ne hS.2.2.2.2.2.2.2.2.2.2.2.2.2.2.2.1 hS.2.2.2.2.2.2.2.2.2.2.2.2.2.1 (fun q => absurd (Value.int.inj q) (by decide))), fun _ q => absurd q (Fld.ne hS.2.2.2.2.2.2.2.2.2.2.2.2.2.2.2.1 hS.2.2.2.2.2.2.2.2.2.2.2.2.2.2.1 (fun q => absurd (Value.int.inj q) (by decide))), fun _ _ => rfl⟩) hZ (hw _ (List.mem_of_getElem? (i := 21) rfl)) (hw _ (List.mem_of_getElem? (i := 3) rfl)) (by decide) (by decide)) q92a q92c (g := (mkF m 99 #[.val (.int p0), .val (.ref b1), .val (.ref b35), .val (.int (3 : Int32)), .val (.ref a_INDETERMINATE_D), .unset, .unset] [(.ref a_INDETERMINATE_D)])) rfl (by rw [hml]; rfl) (Steps.refl _) (argsL := []) (rest := []) (lenOf pd_0 rfl) rfl (by show 2 * 0 + _ ≤ _; exact Nat.le_of_eq rfl) (hb hby at_99) (fun _ _ => ⟨rfl, e67, (by decide : 2 + 0 ≤ _), (by decide : 12 + 0 ≤ _)⟩)
    dsimp only [Pt.U, Pt.locs, Pt.cells, Pt.slots] at X92 l92 y92 z92 st92 hQ92
    subst l92 y92 z92
    obtain ⟨rfl, N92q, e92⟩ := hQ92
    have N92 := Fr.app N67 N92q
    obtain ⟨c93, Ar93, q93, S93, M93, Hh93, G93⟩ := (id v68)
    have hin93 : ¬ ((3 : Int32) < 0 ∨ c93.slots.size ≤ ((3 : Int32)).toNatClampNeg) := inb_of S93 ⟨by decide, by decide⟩
    have hat93 : c93.slots[((3 : Int32)).toNatClampNeg]? = some (.ref a_INDETERMINATE_D) := Hh93.at hin93 rfl
    obtain ⟨cq94, kq94, q94a, q94b, q94c⟩ := isOf hZ e92 ((hS.2.2.2.2.2.2.1.ext O69.2))
    obtain ⟨_, _, ⟨T94, L94, k94, n94⟩, -, X94, ⟨Lc94, hQ94, l94, y94, z94⟩, st94⟩ := X92.virtualBack hx (y := (⟨"com/example/iron_policy/ironpolicy/Decision", "indeterminate", "()Lcom/example/iron_policy/ironpolicy/Decision;"⟩ : MethodName)) (z := (⟨"com/example/iron_policy/ironpolicy/Decision", "indeterminate", "()Lcom/example/iron_policy/ironpolicy/Decision;"⟩ : MethodName)) hown (mvT hZ (hw _ (List.mem_of_getElem? (i := 17) rfl))) (mvT hZ (hw _ (List.mem_of_getElem? (i := 18) rfl))) (notFace_of_selects (args := #[]) (mvT hZ (hw _ (List.mem_of_getElem? (i := 20) rfl)))) (mvT hZ (hw _ (List.mem_of_getElem? (i := 20) rfl))) (mvT hZ (hw _ (List.mem_of_getElem? (i := 19) rfl))) (by decide) (backOf (W := 0) (rm1 l Z a0 hw [] a_PERMIT a_DENY a_NOT_APPLICABLE a_INDETERMINATE_D a_INDETERMINATE_P a_INDETERMINATE_DP hS a_INDETERMINATE_D a_INDETERMINATE_D h67 n0 O69 ⟨fun q => absurd q (Fld.ne hS.2.2.2.2.2.2.2.2.2.2.2.2.2.2.2.1 hS.2.2.2.2.2.2.2.2.2.2.2.2.2.1 (fun q => absurd (Value.int.inj q) (by decide))), fun _ q => absurd q (Fld.ne hS.2.2.2.2.2.2.2.2.2.2.2.2.2.2.2.1 hS.2.2.2.2.2.2.2.2.2.2.2.2.2.2.1 (fun q => absurd (Value.int.inj q) (by decide))), fun _ _ => rfl⟩) hZ (hw _ (List.mem_of_getElem? (i := 21) rfl)) (hw _ (List.mem_of_getElem? (i := 3) rfl)) (by decide) (by decide)) q94a q94c (g := (mkF m 116 #[.val (.int p0), .val (.ref b1), .val (.ref b35), .val (.int (3 : Int32)), .val (.ref a_INDETERMINATE_D), .val (.ref a_INDETERMINATE_D), .unset] [(.ref a_INDETERMINATE_D)])) rfl (by rw [hml]; rfl) (Steps.refl _) (argsL := []) (rest := []) (lenOf pd_0 rfl) rfl (by show 2 * 0 + _ ≤ _; exact Nat.le_of_eq rfl) (hb hby at_116) (fun _ _ => ⟨rfl, e92, (by decide : 2 + 0 ≤ _), (by decide : 12 + 0 ≤ _)⟩)
    dsimp only [Pt.U, Pt.locs, Pt.cells, Pt.slots] at X94 l94 y94 z94 st94 hQ94
    subst l94 y94 z94
    obtain ⟨rfl, N94q, e94⟩ := hQ94
    have N94 := Fr.app N92 N94q
    obtain ⟨fs, hr, hrun, hended, hW, hsame⟩ := X94.leave (v := (some (.int (1 : Int32)))) (fun h => by rw [Bd.returns] at h; cases h)
    refine ⟨_, _, gp89 _ ?_, hrun, hended, _, _, rfl, ?_, ⟨_, rfl⟩, hW, hsame.mono (by decide) (by decide)⟩
    · refine XS.istoreN X67.here hx rfl (hb hby at_91) rfl (l' := #[.val (.int p0), .val (.ref b1), .val (.ref b35), .val (.int (3 : Int32)), .unset, .unset, .unset]) rfl ?_
      show Steps p.tables e below (T67.setTop (mkF m 92 #[.val (.int p0), .val (.ref b1), .val (.ref b35), .val (.int (3 : Int32)), .unset, .unset, .unset] [])) _
      refine XS.aloadN X67.here hx rfl (hb hby at_92) rfl rfl ?_
      show Steps p.tables e below (T67.setTop (mkF m 93 #[.val (.int p0), .val (.ref b1), .val (.ref b35), .val (.int (3 : Int32)), .unset, .unset, .unset] [(.ref b1)])) _
      refine XS.iloadN X67.here hx rfl (hb hby at_93) rfl ?_
      show Steps p.tables e below (T67.setTop (mkF m 94 #[.val (.int p0), .val (.ref b1), .val (.ref b35), .val (.int (3 : Int32)), .unset, .unset, .unset] [(.int (3 : Int32)), (.ref b1)])) _
      refine X67.aaload hx (j := (3 : Int32)) (v := (.ref a_INDETERMINATE_D)) (by rw [e67]; exact Ar91.1) (State.isArrayOf_alike hZ.alike Ar91.2.1) rfl Ar91.2.2 hin91 hat91 (g := (mkF m 94 #[.val (.int p0), .val (.ref b1), .val (.ref b35), .val (.int (3 : Int32)), .unset, .unset, .unset] [(.int (3 : Int32)), (.ref b1)])) rfl rfl (hb hby at_94) _ ?_
      show Steps p.tables e below (T67.setTop (mkF m 95 #[.val (.int p0), .val (.ref b1), .val (.ref b35), .val (.int (3 : Int32)), .unset, .unset, .unset] [(.ref a_INDETERMINATE_D)])) _
      refine XS.astore X67.here hx rfl (hb hby at_95) rfl rfl (l' := #[.val (.int p0), .val (.ref b1), .val (.ref b35), .val (.int (3 : Int32)), .val (.ref a_INDETERMINATE_D), .unset, .unset]) rfl ?_
      show Steps p.tables e below (T67.setTop (mkF m 97 #[.val (.int p0), .val (.ref b1), .val (.ref b35), .val (.int (3 : Int32)), .val (.ref a_INDETERMINATE_D), .unset, .unset] [])) _
      refine XS.aload X67.here hx rfl (hb hby at_97) rfl rfl ?_
      show Steps p.tables e below (T67.setTop (mkF m 99 #[.val (.int p0), .val (.ref b1), .val (.ref b35), .val (.int (3 : Int32)), .val (.ref a_INDETERMINATE_D), .unset, .unset] [(.ref a_INDETERMINATE_D)])) _
      refine st92.trans ?_
      show Steps p.tables e below (T92.setTop (mkF m 102 #[.val (.int p0), .val (.ref b1), .val (.ref b35), .val (.int (3 : Int32)), .val (.ref a_INDETERMINATE_D), .unset, .unset] [(.ref a_INDETERMINATE_D)])) _
      refine XS.astore X92.here hx rfl (hb hby at_102) rfl rfl (l' := #[.val (.int p0), .val (.ref b1), .val (.ref b35), .val (.int (3 : Int32)), .val (.ref a_INDETERMINATE_D), .val (.ref a_INDETERMINATE_D), .unset]) rfl ?_
      show Steps p.tables e below (T92.setTop (mkF m 104 #[.val (.int p0), .val (.ref b1), .val (.ref b35), .val (.int (3 : Int32)), .val (.ref a_INDETERMINATE_D), .val (.ref a_INDETERMINATE_D), .unset] [])) _
      refine XS.aload X92.here hx rfl (hb hby at_104) rfl rfl ?_
      show Steps p.tables e below (T92.setTop (mkF m 106 #[.val (.int p0), .val (.ref b1), .val (.ref b35), .val (.int (3 : Int32)), .val (.ref a_INDETERMINATE_D), .val (.ref a_INDETERMINATE_D), .unset] [(.ref a_INDETERMINATE_D)])) _
      refine XS.aloadN X92.here hx rfl (hb hby at_106) rfl rfl ?_
      show Steps p.tables e below (T92.setTop (mkF m 107 #[.val (.int p0), .val (.ref b1), .val (.ref b35), .val (.int (3 : Int32)), .val (.ref a_INDETERMINATE_D), .val (.ref a_INDETERMINATE_D), .unset] [(.ref b35), (.ref a_INDETERMINATE_D)])) _
      refine XS.iloadN X92.here hx rfl (hb hby at_107) rfl ?_
      show Steps p.tables e below (T92.setTop (mkF m 108 #[.val (.int p0), .val (.ref b1), .val (.ref b35), .val (.int (3 : Int32)), .val (.ref a_INDETERMINATE_D), .val (.ref a_INDETERMINATE_D), .unset] [(.int (3 : Int32)), (.ref b35), (.ref a_INDETERMINATE_D)])) _
      refine X92.aaload hx (j := (3 : Int32)) (v := (.ref a_INDETERMINATE_D)) (by rw [e92]; exact Ar93.1) (State.isArrayOf_alike hZ.alike Ar93.2.1) rfl Ar93.2.2 hin93 hat93 (g := (mkF m 108 #[.val (.int p0), .val (.ref b1), .val (.ref b35), .val (.int (3 : Int32)), .val (.ref a_INDETERMINATE_D), .val (.ref a_INDETERMINATE_D), .unset] [(.int (3 : Int32)), (.ref b35), (.ref a_INDETERMINATE_D)])) rfl rfl (hb hby at_108) _ ?_
      show Steps p.tables e below (T92.setTop (mkF m 109 #[.val (.int p0), .val (.ref b1), .val (.ref b35), .val (.int (3 : Int32)), .val (.ref a_INDETERMINATE_D), .val (.ref a_INDETERMINATE_D), .unset] [(.ref a_INDETERMINATE_D), (.ref a_INDETERMINATE_D)])) _
      refine Jvm.RoadKit.acmp (g := (mkF m 109 #[.val (.int p0), .val (.ref b1), .val (.ref b35), .val (.int (3 : Int32)), .val (.ref a_INDETERMINATE_D), .val (.ref a_INDETERMINATE_D), .unset] [(.ref a_INDETERMINATE_D), (.ref a_INDETERMINATE_D)])) X92 hx rfl rfl rfl (pc0 := 109) (pc' := 114) (same := true) rfl (hb hby at_109) rfl (decide_eq_true rfl) (by decide) (by decide) ?_
      show Steps p.tables e below (T92.setTop (mkF m 114 #[.val (.int p0), .val (.ref b1), .val (.ref b35), .val (.int (3 : Int32)), .val (.ref a_INDETERMINATE_D), .val (.ref a_INDETERMINATE_D), .unset] [])) _
      refine XS.aload X92.here hx rfl (hb hby at_114) rfl rfl ?_
      show Steps p.tables e below (T92.setTop (mkF m 116 #[.val (.int p0), .val (.ref b1), .val (.ref b35), .val (.int (3 : Int32)), .val (.ref a_INDETERMINATE_D), .val (.ref a_INDETERMINATE_D), .unset] [(.ref a_INDETERMINATE_D)])) _
      refine st94.trans ?_
      show Steps p.tables e below (T94.setTop (mkF m 119 #[.val (.int p0), .val (.ref b1), .val (.ref b35), .val (.int (3 : Int32)), .val (.ref a_INDETERMINATE_D), .val (.ref a_INDETERMINATE_D), .unset] [(.ref a_INDETERMINATE_D)])) _
      refine XS.astore X94.here hx rfl (hb hby at_119) rfl rfl (l' := #[.val (.int p0), .val (.ref b1), .val (.ref b35), .val (.int (3 : Int32)), .val (.ref a_INDETERMINATE_D), .val (.ref a_INDETERMINATE_D), .val (.ref a_INDETERMINATE_D)]) rfl ?_
      show Steps p.tables e below (T94.setTop (mkF m 121 #[.val (.int p0), .val (.ref b1), .val (.ref b35), .val (.int (3 : Int32)), .val (.ref a_INDETERMINATE_D), .val (.ref a_INDETERMINATE_D), .val (.ref a_INDETERMINATE_D)] [])) _
      refine XS.aload X94.here hx rfl (hb hby at_121) rfl rfl ?_
      show Steps p.tables e below (T94.setTop (mkF m 123 #[.val (.int p0), .val (.ref b1), .val (.ref b35), .val (.int (3 : Int32)), .val (.ref a_INDETERMINATE_D), .val (.ref a_INDETERMINATE_D), .val (.ref a_INDETERMINATE_D)] [(.ref a_INDETERMINATE_D)])) _
      refine XS.aload X94.here hx rfl (hb hby at_123) rfl rfl ?_
      show Steps p.tables e below (T94.setTop (mkF m 125 #[.val (.int p0), .val (.ref b1), .val (.ref b35), .val (.int (3 : Int32)), .val (.ref a_INDETERMINATE_D), .val (.ref a_INDETERMINATE_D), .val (.ref a_INDETERMINATE_D)] [(.ref a_INDETERMINATE_D), (.ref a_INDETERMINATE_D)])) _
      refine Jvm.RoadKit.acmp (g := (mkF m 125 #[.val (.int p0), .val (.ref b1), .val (.ref b35), .val (.int (3 : Int32)), .val (.ref a_INDETERMINATE_D), .val (.ref a_INDETERMINATE_D), .val (.ref a_INDETERMINATE_D)] [(.ref a_INDETERMINATE_D), (.ref a_INDETERMINATE_D)])) X94 hx rfl rfl rfl (pc0 := 125) (pc' := 128) (same := true) rfl (hb hby at_125) rfl (decide_eq_true rfl) (by decide) (by decide) ?_
      show Steps p.tables e below (T94.setTop (mkF m 128 #[.val (.int p0), .val (.ref b1), .val (.ref b35), .val (.int (3 : Int32)), .val (.ref a_INDETERMINATE_D), .val (.ref a_INDETERMINATE_D), .val (.ref a_INDETERMINATE_D)] [])) _
      refine XS.iconst X94.here hx rfl (hb hby at_128) ?_
      show Steps p.tables e below (T94.setTop (mkF m 129 #[.val (.int p0), .val (.ref b1), .val (.ref b35), .val (.int (3 : Int32)), .val (.ref a_INDETERMINATE_D), .val (.ref a_INDETERMINATE_D), .val (.ref a_INDETERMINATE_D)] [(.int (1 : Int32))])) _
      refine XS.goto X94.here hx rfl (pc0 := 129) (pc' := 133) rfl (hb hby at_129) (by decide) (by decide) ?_
      show Steps p.tables e below (T94.setTop (mkF m 133 #[.val (.int p0), .val (.ref b1), .val (.ref b35), .val (.int (3 : Int32)), .val (.ref a_INDETERMINATE_D), .val (.ref a_INDETERMINATE_D), .val (.ref a_INDETERMINATE_D)] [(.int (1 : Int32))])) _
      exact retN X94 hx (t := .boolean) Bd.returns (by simp) (hb hby at_133) hr
    · show Q0 n0 _ T94.heap _
      rw [e94]
      exact ⟨rfl, N94⟩
  · have gp95 := gp70
    rw [hk] at gp95
    have t96 : Arv Z h67 b1 k1 (.object "com/example/iron_policy/ironpolicy/Decision") (6 : Int32) [(.ref a_PERMIT), (.ref a_DENY), (.ref a_NOT_APPLICABLE), (.ref a_INDETERMINATE_D), (.ref a_INDETERMINATE_P), (.ref a_INDETERMINATE_DP)] .null := (((((((v33.ext E35).other W42 ne36).other W47 ne36).other W52 ne36).other W57 ne36).other W62 ne36).other W67 ne36)
    obtain ⟨c97, Ar97, q97, S97, M97, Hh97, G97⟩ := (id t96)
    have hin97 : ¬ ((4 : Int32) < 0 ∨ c97.slots.size ≤ ((4 : Int32)).toNatClampNeg) := inb_of S97 ⟨by decide, by decide⟩
    have hat97 : c97.slots[((4 : Int32)).toNatClampNeg]? = some (.ref a_INDETERMINATE_P) := Hh97.at hin97 rfl
    obtain ⟨cq98, kq98, q98a, q98b, q98c⟩ := isOf hZ e67 ((hS.2.2.2.2.2.2.2.2.1.ext O69.2))
    obtain ⟨_, _, ⟨T98, L98, k98, n98⟩, -, X98, ⟨Lc98, hQ98, l98, y98, z98⟩, st98⟩ := X67.virtualBack hx (y := (⟨"com/example/iron_policy/ironpolicy/Decision", "indeterminate", "()Lcom/example/iron_policy/ironpolicy/Decision;"⟩ : MethodName)) (z := (⟨"com/example/iron_policy/ironpolicy/Decision", "indeterminate", "()Lcom/example/iron_policy/ironpolicy/Decision;"⟩ : MethodName)) hown (mvT hZ (hw _ (List.mem_of_getElem? (i := 17) rfl))) (mvT hZ (hw _ (List.mem_of_getElem? (i := 18) rfl))) (notFace_of_selects (args := #[]) (mvT hZ (hw _ (List.mem_of_getElem? (i := 20) rfl)))) (mvT hZ (hw _ (List.mem_of_getElem? (i := 20) rfl))) (mvT hZ (hw _ (List.mem_of_getElem? (i := 19) rfl))) (by decide) (backOf (W := 0) (rm1 l Z a0 hw [] a_PERMIT a_DENY a_NOT_APPLICABLE a_INDETERMINATE_D a_INDETERMINATE_P a_INDETERMINATE_DP hS a_INDETERMINATE_P a_INDETERMINATE_P h67 n0 O69 ⟨fun q => absurd q (Fld.ne hS.2.2.2.2.2.2.2.2.2.2.2.2.1 hS.2.2.2.2.2.2.2.2.2.2.2.2.2.1 (fun q => absurd (Value.int.inj q) (by decide))), fun _ q => absurd q (Fld.ne hS.2.2.2.2.2.2.2.2.2.2.2.2.1 hS.2.2.2.2.2.2.2.2.2.2.2.2.2.2.1 (fun q => absurd (Value.int.inj q) (by decide))), fun _ _ => rfl⟩) hZ (hw _ (List.mem_of_getElem? (i := 21) rfl)) (hw _ (List.mem_of_getElem? (i := 3) rfl)) (by decide) (by decide)) q98a q98c (g := (mkF m 99 #[.val (.int p0), .val (.ref b1), .val (.ref b35), .val (.int (4 : Int32)), .val (.ref a_INDETERMINATE_P), .unset, .unset] [(.ref a_INDETERMINATE_P)])) rfl (by rw [hml]; rfl) (Steps.refl _) (argsL := []) (rest := []) (lenOf pd_0 rfl) rfl (by show 2 * 0 + _ ≤ _; exact Nat.le_of_eq rfl) (hb hby at_99) (fun _ _ => ⟨rfl, e67, (by decide : 2 + 0 ≤ _), (by decide : 12 + 0 ≤ _)⟩)
    dsimp only [Pt.U, Pt.locs, Pt.cells, Pt.slots] at X98 l98 y98 z98 st98 hQ98
    subst l98 y98 z98
    obtain ⟨rfl, N98q, e98⟩ := hQ98
    have N98 := Fr.app N67 N98q
    obtain ⟨c99, Ar99, q99, S99, M99, Hh99, G99⟩ := (id v68)
    have hin99 : ¬ ((4 : Int32) < 0 ∨ c99.slots.size ≤ ((4 : Int32)).toNatClampNeg) := inb_of S99 ⟨by decide, by decide⟩
    have hat99 : c99.slots[((4 : Int32)).toNatClampNeg]? = some (.ref a_INDETERMINATE_P) := Hh99.at hin99 rfl
    obtain ⟨cq100, kq100, q100a, q100b, q100c⟩ := isOf hZ e98 ((hS.2.2.2.2.2.2.2.2.1.ext O69.2))
    obtain ⟨_, _, ⟨T100, L100, k100, n100⟩, -, X100, ⟨Lc100, hQ100, l100, y100, z100⟩, st100⟩ := X98.virtualBack hx (y := (⟨"com/example/iron_policy/ironpolicy/Decision", "indeterminate", "()Lcom/example/iron_policy/ironpolicy/Decision;"⟩ : MethodName)) (z := (⟨"com/example/iron_policy/ironpolicy/Decision", "indeterminate", "()Lcom/example/iron_policy/ironpolicy/Decision;"⟩ : MethodName)) hown (mvT hZ (hw _ (List.mem_of_getElem? (i := 17) rfl))) (mvT hZ (hw _ (List.mem_of_getElem? (i := 18) rfl))) (notFace_of_selects (args := #[]) (mvT hZ (hw _ (List.mem_of_getElem? (i := 20) rfl)))) (mvT hZ (hw _ (List.mem_of_getElem? (i := 20) rfl))) (mvT hZ (hw _ (List.mem_of_getElem? (i := 19) rfl))) (by decide) (backOf (W := 0) (rm1 l Z a0 hw [] a_PERMIT a_DENY a_NOT_APPLICABLE a_INDETERMINATE_D a_INDETERMINATE_P a_INDETERMINATE_DP hS a_INDETERMINATE_P a_INDETERMINATE_P h67 n0 O69 ⟨fun q => absurd q (Fld.ne hS.2.2.2.2.2.2.2.2.2.2.2.2.1 hS.2.2.2.2.2.2.2.2.2.2.2.2.2.1 (fun q => absurd (Value.int.inj q) (by decide))), fun _ q => absurd q (Fld.ne hS.2.2.2.2.2.2.2.2.2.2.2.2.1 hS.2.2.2.2.2.2.2.2.2.2.2.2.2.2.1 (fun q => absurd (Value.int.inj q) (by decide))), fun _ _ => rfl⟩) hZ (hw _ (List.mem_of_getElem? (i := 21) rfl)) (hw _ (List.mem_of_getElem? (i := 3) rfl)) (by decide) (by decide)) q100a q100c (g := (mkF m 116 #[.val (.int p0), .val (.ref b1), .val (.ref b35), .val (.int (4 : Int32)), .val (.ref a_INDETERMINATE_P), .val (.ref a_INDETERMINATE_P), .unset] [(.ref a_INDETERMINATE_P)])) rfl (by rw [hml]; rfl) (Steps.refl _) (argsL := []) (rest := []) (lenOf pd_0 rfl) rfl (by show 2 * 0 + _ ≤ _; exact Nat.le_of_eq rfl) (hb hby at_116) (fun _ _ => ⟨rfl, e98, (by decide : 2 + 0 ≤ _), (by decide : 12 + 0 ≤ _)⟩)
    dsimp only [Pt.U, Pt.locs, Pt.cells, Pt.slots] at X100 l100 y100 z100 st100 hQ100
    subst l100 y100 z100
    obtain ⟨rfl, N100q, e100⟩ := hQ100
    have N100 := Fr.app N98 N100q
    obtain ⟨fs, hr, hrun, hended, hW, hsame⟩ := X100.leave (v := (some (.int (1 : Int32)))) (fun h => by rw [Bd.returns] at h; cases h)
    refine ⟨_, _, gp95 _ ?_, hrun, hended, _, _, rfl, ?_, ⟨_, rfl⟩, hW, hsame.mono (by decide) (by decide)⟩
    · refine XS.istoreN X67.here hx rfl (hb hby at_91) rfl (l' := #[.val (.int p0), .val (.ref b1), .val (.ref b35), .val (.int (4 : Int32)), .unset, .unset, .unset]) rfl ?_
      show Steps p.tables e below (T67.setTop (mkF m 92 #[.val (.int p0), .val (.ref b1), .val (.ref b35), .val (.int (4 : Int32)), .unset, .unset, .unset] [])) _
      refine XS.aloadN X67.here hx rfl (hb hby at_92) rfl rfl ?_
      show Steps p.tables e below (T67.setTop (mkF m 93 #[.val (.int p0), .val (.ref b1), .val (.ref b35), .val (.int (4 : Int32)), .unset, .unset, .unset] [(.ref b1)])) _
      refine XS.iloadN X67.here hx rfl (hb hby at_93) rfl ?_
      show Steps p.tables e below (T67.setTop (mkF m 94 #[.val (.int p0), .val (.ref b1), .val (.ref b35), .val (.int (4 : Int32)), .unset, .unset, .unset] [(.int (4 : Int32)), (.ref b1)])) _
      refine X67.aaload hx (j := (4 : Int32)) (v := (.ref a_INDETERMINATE_P)) (by rw [e67]; exact Ar97.1) (State.isArrayOf_alike hZ.alike Ar97.2.1) rfl Ar97.2.2 hin97 hat97 (g := (mkF m 94 #[.val (.int p0), .val (.ref b1), .val (.ref b35), .val (.int (4 : Int32)), .unset, .unset, .unset] [(.int (4 : Int32)), (.ref b1)])) rfl rfl (hb hby at_94) _ ?_
      show Steps p.tables e below (T67.setTop (mkF m 95 #[.val (.int p0), .val (.ref b1), .val (.ref b35), .val (.int (4 : Int32)), .unset, .unset, .unset] [(.ref a_INDETERMINATE_P)])) _
      refine XS.astore X67.here hx rfl (hb hby at_95) rfl rfl (l' := #[.val (.int p0), .val (.ref b1), .val (.ref b35), .val (.int (4 : Int32)), .val (.ref a_INDETERMINATE_P), .unset, .unset]) rfl ?_
      show Steps p.tables e below (T67.setTop (mkF m 97 #[.val (.int p0), .val (.ref b1), .val (.ref b35), .val (.int (4 : Int32)), .val (.ref a_INDETERMINATE_P), .unset, .unset] [])) _
      refine XS.aload X67.here hx rfl (hb hby at_97) rfl rfl ?_
      show Steps p.tables e below (T67.setTop (mkF m 99 #[.val (.int p0), .val (.ref b1), .val (.ref b35), .val (.int (4 : Int32)), .val (.ref a_INDETERMINATE_P), .unset, .unset] [(.ref a_INDETERMINATE_P)])) _
      refine st98.trans ?_
      show Steps p.tables e below (T98.setTop (mkF m 102 #[.val (.int p0), .val (.ref b1), .val (.ref b35), .val (.int (4 : Int32)), .val (.ref a_INDETERMINATE_P), .unset, .unset] [(.ref a_INDETERMINATE_P)])) _
      refine XS.astore X98.here hx rfl (hb hby at_102) rfl rfl (l' := #[.val (.int p0), .val (.ref b1), .val (.ref b35), .val (.int (4 : Int32)), .val (.ref a_INDETERMINATE_P), .val (.ref a_INDETERMINATE_P), .unset]) rfl ?_
      show Steps p.tables e below (T98.setTop (mkF m 104 #[.val (.int p0), .val (.ref b1), .val (.ref b35), .val (.int (4 : Int32)), .val (.ref a_INDETERMINATE_P), .val (.ref a_INDETERMINATE_P), .unset] [])) _
      refine XS.aload X98.here hx rfl (hb hby at_104) rfl rfl ?_
      show Steps p.tables e below (T98.setTop (mkF m 106 #[.val (.int p0), .val (.ref b1), .val (.ref b35), .val (.int (4 : Int32)), .val (.ref a_INDETERMINATE_P), .val (.ref a_INDETERMINATE_P), .unset] [(.ref a_INDETERMINATE_P)])) _
      refine XS.aloadN X98.here hx rfl (hb hby at_106) rfl rfl ?_
      show Steps p.tables e below (T98.setTop (mkF m 107 #[.val (.int p0), .val (.ref b1), .val (.ref b35), .val (.int (4 : Int32)), .val (.ref a_INDETERMINATE_P), .val (.ref a_INDETERMINATE_P), .unset] [(.ref b35), (.ref a_INDETERMINATE_P)])) _
      refine XS.iloadN X98.here hx rfl (hb hby at_107) rfl ?_
      show Steps p.tables e below (T98.setTop (mkF m 108 #[.val (.int p0), .val (.ref b1), .val (.ref b35), .val (.int (4 : Int32)), .val (.ref a_INDETERMINATE_P), .val (.ref a_INDETERMINATE_P), .unset] [(.int (4 : Int32)), (.ref b35), (.ref a_INDETERMINATE_P)])) _
      refine X98.aaload hx (j := (4 : Int32)) (v := (.ref a_INDETERMINATE_P)) (by rw [e98]; exact Ar99.1) (State.isArrayOf_alike hZ.alike Ar99.2.1) rfl Ar99.2.2 hin99 hat99 (g := (mkF m 108 #[.val (.int p0), .val (.ref b1), .val (.ref b35), .val (.int (4 : Int32)), .val (.ref a_INDETERMINATE_P), .val (.ref a_INDETERMINATE_P), .unset] [(.int (4 : Int32)), (.ref b35), (.ref a_INDETERMINATE_P)])) rfl rfl (hb hby at_108) _ ?_
      show Steps p.tables e below (T98.setTop (mkF m 109 #[.val (.int p0), .val (.ref b1), .val (.ref b35), .val (.int (4 : Int32)), .val (.ref a_INDETERMINATE_P), .val (.ref a_INDETERMINATE_P), .unset] [(.ref a_INDETERMINATE_P), (.ref a_INDETERMINATE_P)])) _
      refine Jvm.RoadKit.acmp (g := (mkF m 109 #[.val (.int p0), .val (.ref b1), .val (.ref b35), .val (.int (4 : Int32)), .val (.ref a_INDETERMINATE_P), .val (.ref a_INDETERMINATE_P), .unset] [(.ref a_INDETERMINATE_P), (.ref a_INDETERMINATE_P)])) X98 hx rfl rfl rfl (pc0 := 109) (pc' := 114) (same := true) rfl (hb hby at_109) rfl (decide_eq_true rfl) (by decide) (by decide) ?_
      show Steps p.tables e below (T98.setTop (mkF m 114 #[.val (.int p0), .val (.ref b1), .val (.ref b35), .val (.int (4 : Int32)), .val (.ref a_INDETERMINATE_P), .val (.ref a_INDETERMINATE_P), .unset] [])) _
      refine XS.aload X98.here hx rfl (hb hby at_114) rfl rfl ?_
      show Steps p.tables e below (T98.setTop (mkF m 116 #[.val (.int p0), .val (.ref b1), .val (.ref b35), .val (.int (4 : Int32)), .val (.ref a_INDETERMINATE_P), .val (.ref a_INDETERMINATE_P), .unset] [(.ref a_INDETERMINATE_P)])) _
      refine st100.trans ?_
      show Steps p.tables e below (T100.setTop (mkF m 119 #[.val (.int p0), .val (.ref b1), .val (.ref b35), .val (.int (4 : Int32)), .val (.ref a_INDETERMINATE_P), .val (.ref a_INDETERMINATE_P), .unset] [(.ref a_INDETERMINATE_P)])) _
      refine XS.astore X100.here hx rfl (hb hby at_119) rfl rfl (l' := #[.val (.int p0), .val (.ref b1), .val (.ref b35), .val (.int (4 : Int32)), .val (.ref a_INDETERMINATE_P), .val (.ref a_INDETERMINATE_P), .val (.ref a_INDETERMINATE_P)]) rfl ?_
      show Steps p.tables e below (T100.setTop (mkF m 121 #[.val (.int p0), .val (.ref b1), .val (.ref b35), .val (.int (4 : Int32)), .val (.ref a_INDETERMINATE_P), .val (.ref a_INDETERMINATE_P), .val (.ref a_INDETERMINATE_P)] [])) _
      refine XS.aload X100.here hx rfl (hb hby at_121) rfl rfl ?_
      show Steps p.tables e below (T100.setTop (mkF m 123 #[.val (.int p0), .val (.ref b1), .val (.ref b35), .val (.int (4 : Int32)), .val (.ref a_INDETERMINATE_P), .val (.ref a_INDETERMINATE_P), .val (.ref a_INDETERMINATE_P)] [(.ref a_INDETERMINATE_P)])) _
      refine XS.aload X100.here hx rfl (hb hby at_123) rfl rfl ?_
      show Steps p.tables e below (T100.setTop (mkF m 125 #[.val (.int p0), .val (.ref b1), .val (.ref b35), .val (.int (4 : Int32)), .val (.ref a_INDETERMINATE_P), .val (.ref a_INDETERMINATE_P), .val (.ref a_INDETERMINATE_P)] [(.ref a_INDETERMINATE_P), (.ref a_INDETERMINATE_P)])) _
      refine Jvm.RoadKit.acmp (g := (mkF m 125 #[.val (.int p0), .val (.ref b1), .val (.ref b35), .val (.int (4 : Int32)), .val (.ref a_INDETERMINATE_P), .val (.ref a_INDETERMINATE_P), .val (.ref a_INDETERMINATE_P)] [(.ref a_INDETERMINATE_P), (.ref a_INDETERMINATE_P)])) X100 hx rfl rfl rfl (pc0 := 125) (pc' := 128) (same := true) rfl (hb hby at_125) rfl (decide_eq_true rfl) (by decide) (by decide) ?_
      show Steps p.tables e below (T100.setTop (mkF m 128 #[.val (.int p0), .val (.ref b1), .val (.ref b35), .val (.int (4 : Int32)), .val (.ref a_INDETERMINATE_P), .val (.ref a_INDETERMINATE_P), .val (.ref a_INDETERMINATE_P)] [])) _
      refine XS.iconst X100.here hx rfl (hb hby at_128) ?_
      show Steps p.tables e below (T100.setTop (mkF m 129 #[.val (.int p0), .val (.ref b1), .val (.ref b35), .val (.int (4 : Int32)), .val (.ref a_INDETERMINATE_P), .val (.ref a_INDETERMINATE_P), .val (.ref a_INDETERMINATE_P)] [(.int (1 : Int32))])) _
      refine XS.goto X100.here hx rfl (pc0 := 129) (pc' := 133) rfl (hb hby at_129) (by decide) (by decide) ?_
      show Steps p.tables e below (T100.setTop (mkF m 133 #[.val (.int p0), .val (.ref b1), .val (.ref b35), .val (.int (4 : Int32)), .val (.ref a_INDETERMINATE_P), .val (.ref a_INDETERMINATE_P), .val (.ref a_INDETERMINATE_P)] [(.int (1 : Int32))])) _
      exact retN X100 hx (t := .boolean) Bd.returns (by simp) (hb hby at_133) hr
    · show Q0 n0 _ T100.heap _
      rw [e100]
      exact ⟨rfl, N100⟩
  · have gp101 := gp70
    rw [hk] at gp101
    have t102 : Arv Z h67 b1 k1 (.object "com/example/iron_policy/ironpolicy/Decision") (6 : Int32) [(.ref a_PERMIT), (.ref a_DENY), (.ref a_NOT_APPLICABLE), (.ref a_INDETERMINATE_D), (.ref a_INDETERMINATE_P), (.ref a_INDETERMINATE_DP)] .null := (((((((v33.ext E35).other W42 ne36).other W47 ne36).other W52 ne36).other W57 ne36).other W62 ne36).other W67 ne36)
    obtain ⟨c103, Ar103, q103, S103, M103, Hh103, G103⟩ := (id t102)
    have hin103 : ¬ ((5 : Int32) < 0 ∨ c103.slots.size ≤ ((5 : Int32)).toNatClampNeg) := inb_of S103 ⟨by decide, by decide⟩
    have hat103 : c103.slots[((5 : Int32)).toNatClampNeg]? = some (.ref a_INDETERMINATE_DP) := Hh103.at hin103 rfl
    obtain ⟨cq104, kq104, q104a, q104b, q104c⟩ := isOf hZ e67 ((hS.2.2.2.2.2.2.2.2.2.2.1.ext O69.2))
    obtain ⟨_, _, ⟨T104, L104, k104, n104⟩, -, X104, ⟨Lc104, hQ104, l104, y104, z104⟩, st104⟩ := X67.virtualBack hx (y := (⟨"com/example/iron_policy/ironpolicy/Decision", "indeterminate", "()Lcom/example/iron_policy/ironpolicy/Decision;"⟩ : MethodName)) (z := (⟨"com/example/iron_policy/ironpolicy/Decision", "indeterminate", "()Lcom/example/iron_policy/ironpolicy/Decision;"⟩ : MethodName)) hown (mvT hZ (hw _ (List.mem_of_getElem? (i := 17) rfl))) (mvT hZ (hw _ (List.mem_of_getElem? (i := 18) rfl))) (notFace_of_selects (args := #[]) (mvT hZ (hw _ (List.mem_of_getElem? (i := 20) rfl)))) (mvT hZ (hw _ (List.mem_of_getElem? (i := 20) rfl))) (mvT hZ (hw _ (List.mem_of_getElem? (i := 19) rfl))) (by decide) (backOf (W := 0) (rm1 l Z a0 hw [] a_PERMIT a_DENY a_NOT_APPLICABLE a_INDETERMINATE_D a_INDETERMINATE_P a_INDETERMINATE_DP hS a_INDETERMINATE_DP a_INDETERMINATE_DP h67 n0 O69 ⟨fun q => absurd q (Fld.ne hS.2.2.2.2.2.2.2.2.2.2.2.2.2.2.2.2.2 hS.2.2.2.2.2.2.2.2.2.2.2.2.2.1 (fun q => absurd (Value.int.inj q) (by decide))), fun _ q => absurd q (Fld.ne hS.2.2.2.2.2.2.2.2.2.2.2.2.2.2.2.2.2 hS.2.2.2.2.2.2.2.2.2.2.2.2.2.2.1 (fun q => absurd (Value.int.inj q) (by decide))), fun _ _ => rfl⟩) hZ (hw _ (List.mem_of_getElem? (i := 21) rfl)) (hw _ (List.mem_of_getElem? (i := 3) rfl)) (by decide) (by decide)) q104a q104c (g := (mkF m 99 #[.val (.int p0), .val (.ref b1), .val (.ref b35), .val (.int (5 : Int32)), .val (.ref a_INDETERMINATE_DP), .unset, .unset] [(.ref a_INDETERMINATE_DP)])) rfl (by rw [hml]; rfl) (Steps.refl _) (argsL := []) (rest := []) (lenOf pd_0 rfl) rfl (by show 2 * 0 + _ ≤ _; exact Nat.le_of_eq rfl) (hb hby at_99) (fun _ _ => ⟨rfl, e67, (by decide : 2 + 0 ≤ _), (by decide : 12 + 0 ≤ _)⟩)
    dsimp only [Pt.U, Pt.locs, Pt.cells, Pt.slots] at X104 l104 y104 z104 st104 hQ104
    subst l104 y104 z104
    obtain ⟨rfl, N104q, e104⟩ := hQ104
    have N104 := Fr.app N67 N104q
    obtain ⟨c105, Ar105, q105, S105, M105, Hh105, G105⟩ := (id v68)
    have hin105 : ¬ ((5 : Int32) < 0 ∨ c105.slots.size ≤ ((5 : Int32)).toNatClampNeg) := inb_of S105 ⟨by decide, by decide⟩
    have hat105 : c105.slots[((5 : Int32)).toNatClampNeg]? = some (.ref a_INDETERMINATE_DP) := Hh105.at hin105 rfl
    obtain ⟨cq106, kq106, q106a, q106b, q106c⟩ := isOf hZ e104 ((hS.2.2.2.2.2.2.2.2.2.2.1.ext O69.2))
    obtain ⟨_, _, ⟨T106, L106, k106, n106⟩, -, X106, ⟨Lc106, hQ106, l106, y106, z106⟩, st106⟩ := X104.virtualBack hx (y := (⟨"com/example/iron_policy/ironpolicy/Decision", "indeterminate", "()Lcom/example/iron_policy/ironpolicy/Decision;"⟩ : MethodName)) (z := (⟨"com/example/iron_policy/ironpolicy/Decision", "indeterminate", "()Lcom/example/iron_policy/ironpolicy/Decision;"⟩ : MethodName)) hown (mvT hZ (hw _ (List.mem_of_getElem? (i := 17) rfl))) (mvT hZ (hw _ (List.mem_of_getElem? (i := 18) rfl))) (notFace_of_selects (args := #[]) (mvT hZ (hw _ (List.mem_of_getElem? (i := 20) rfl)))) (mvT hZ (hw _ (List.mem_of_getElem? (i := 20) rfl))) (mvT hZ (hw _ (List.mem_of_getElem? (i := 19) rfl))) (by decide) (backOf (W := 0) (rm1 l Z a0 hw [] a_PERMIT a_DENY a_NOT_APPLICABLE a_INDETERMINATE_D a_INDETERMINATE_P a_INDETERMINATE_DP hS a_INDETERMINATE_DP a_INDETERMINATE_DP h67 n0 O69 ⟨fun q => absurd q (Fld.ne hS.2.2.2.2.2.2.2.2.2.2.2.2.2.2.2.2.2 hS.2.2.2.2.2.2.2.2.2.2.2.2.2.1 (fun q => absurd (Value.int.inj q) (by decide))), fun _ q => absurd q (Fld.ne hS.2.2.2.2.2.2.2.2.2.2.2.2.2.2.2.2.2 hS.2.2.2.2.2.2.2.2.2.2.2.2.2.2.1 (fun q => absurd (Value.int.inj q) (by decide))), fun _ _ => rfl⟩) hZ (hw _ (List.mem_of_getElem? (i := 21) rfl)) (hw _ (List.mem_of_getElem? (i := 3) rfl)) (by decide) (by decide)) q106a q106c (g := (mkF m 116 #[.val (.int p0), .val (.ref b1), .val (.ref b35), .val (.int (5 : Int32)), .val (.ref a_INDETERMINATE_DP), .val (.ref a_INDETERMINATE_DP), .unset] [(.ref a_INDETERMINATE_DP)])) rfl (by rw [hml]; rfl) (Steps.refl _) (argsL := []) (rest := []) (lenOf pd_0 rfl) rfl (by show 2 * 0 + _ ≤ _; exact Nat.le_of_eq rfl) (hb hby at_116) (fun _ _ => ⟨rfl, e104, (by decide : 2 + 0 ≤ _), (by decide : 12 + 0 ≤ _)⟩)
    dsimp only [Pt.U, Pt.locs, Pt.cells, Pt.slots] at X106 l106 y106 z106 st106 hQ106
    subst l106 y106 z106
    obtain ⟨rfl, N106q, e106⟩ := hQ106
    have N106 := Fr.app N104 N106q
    obtain ⟨fs, hr, hrun, hended, hW, hsame⟩ := X106.leave (v := (some (.int (1 : Int32)))) (fun h => by rw [Bd.returns] at h; cases h)
    refine ⟨_, _, gp101 _ ?_, hrun, hended, _, _, rfl, ?_, ⟨_, rfl⟩, hW, hsame.mono (by decide) (by decide)⟩
    · refine XS.istoreN X67.here hx rfl (hb hby at_91) rfl (l' := #[.val (.int p0), .val (.ref b1), .val (.ref b35), .val (.int (5 : Int32)), .unset, .unset, .unset]) rfl ?_
      show Steps p.tables e below (T67.setTop (mkF m 92 #[.val (.int p0), .val (.ref b1), .val (.ref b35), .val (.int (5 : Int32)), .unset, .unset, .unset] [])) _
      refine XS.aloadN X67.here hx rfl (hb hby at_92) rfl rfl ?_
      show Steps p.tables e below (T67.setTop (mkF m 93 #[.val (.int p0), .val (.ref b1), .val (.ref b35), .val (.int (5 : Int32)), .unset, .unset, .unset] [(.ref b1)])) _
      refine XS.iloadN X67.here hx rfl (hb hby at_93) rfl ?_
      show Steps p.tables e below (T67.setTop (mkF m 94 #[.val (.int p0), .val (.ref b1), .val (.ref b35), .val (.int (5 : Int32)), .unset, .unset, .unset] [(.int (5 : Int32)), (.ref b1)])) _
      refine X67.aaload hx (j := (5 : Int32)) (v := (.ref a_INDETERMINATE_DP)) (by rw [e67]; exact Ar103.1) (State.isArrayOf_alike hZ.alike Ar103.2.1) rfl Ar103.2.2 hin103 hat103 (g := (mkF m 94 #[.val (.int p0), .val (.ref b1), .val (.ref b35), .val (.int (5 : Int32)), .unset, .unset, .unset] [(.int (5 : Int32)), (.ref b1)])) rfl rfl (hb hby at_94) _ ?_
      show Steps p.tables e below (T67.setTop (mkF m 95 #[.val (.int p0), .val (.ref b1), .val (.ref b35), .val (.int (5 : Int32)), .unset, .unset, .unset] [(.ref a_INDETERMINATE_DP)])) _
      refine XS.astore X67.here hx rfl (hb hby at_95) rfl rfl (l' := #[.val (.int p0), .val (.ref b1), .val (.ref b35), .val (.int (5 : Int32)), .val (.ref a_INDETERMINATE_DP), .unset, .unset]) rfl ?_
      show Steps p.tables e below (T67.setTop (mkF m 97 #[.val (.int p0), .val (.ref b1), .val (.ref b35), .val (.int (5 : Int32)), .val (.ref a_INDETERMINATE_DP), .unset, .unset] [])) _
      refine XS.aload X67.here hx rfl (hb hby at_97) rfl rfl ?_
      show Steps p.tables e below (T67.setTop (mkF m 99 #[.val (.int p0), .val (.ref b1), .val (.ref b35), .val (.int (5 : Int32)), .val (.ref a_INDETERMINATE_DP), .unset, .unset] [(.ref a_INDETERMINATE_DP)])) _
      refine st104.trans ?_
      show Steps p.tables e below (T104.setTop (mkF m 102 #[.val (.int p0), .val (.ref b1), .val (.ref b35), .val (.int (5 : Int32)), .val (.ref a_INDETERMINATE_DP), .unset, .unset] [(.ref a_INDETERMINATE_DP)])) _
      refine XS.astore X104.here hx rfl (hb hby at_102) rfl rfl (l' := #[.val (.int p0), .val (.ref b1), .val (.ref b35), .val (.int (5 : Int32)), .val (.ref a_INDETERMINATE_DP), .val (.ref a_INDETERMINATE_DP), .unset]) rfl ?_
      show Steps p.tables e below (T104.setTop (mkF m 104 #[.val (.int p0), .val (.ref b1), .val (.ref b35), .val (.int (5 : Int32)), .val (.ref a_INDETERMINATE_DP), .val (.ref a_INDETERMINATE_DP), .unset] [])) _
      refine XS.aload X104.here hx rfl (hb hby at_104) rfl rfl ?_
      show Steps p.tables e below (T104.setTop (mkF m 106 #[.val (.int p0), .val (.ref b1), .val (.ref b35), .val (.int (5 : Int32)), .val (.ref a_INDETERMINATE_DP), .val (.ref a_INDETERMINATE_DP), .unset] [(.ref a_INDETERMINATE_DP)])) _
      refine XS.aloadN X104.here hx rfl (hb hby at_106) rfl rfl ?_
      show Steps p.tables e below (T104.setTop (mkF m 107 #[.val (.int p0), .val (.ref b1), .val (.ref b35), .val (.int (5 : Int32)), .val (.ref a_INDETERMINATE_DP), .val (.ref a_INDETERMINATE_DP), .unset] [(.ref b35), (.ref a_INDETERMINATE_DP)])) _
      refine XS.iloadN X104.here hx rfl (hb hby at_107) rfl ?_
      show Steps p.tables e below (T104.setTop (mkF m 108 #[.val (.int p0), .val (.ref b1), .val (.ref b35), .val (.int (5 : Int32)), .val (.ref a_INDETERMINATE_DP), .val (.ref a_INDETERMINATE_DP), .unset] [(.int (5 : Int32)), (.ref b35), (.ref a_INDETERMINATE_DP)])) _
      refine X104.aaload hx (j := (5 : Int32)) (v := (.ref a_INDETERMINATE_DP)) (by rw [e104]; exact Ar105.1) (State.isArrayOf_alike hZ.alike Ar105.2.1) rfl Ar105.2.2 hin105 hat105 (g := (mkF m 108 #[.val (.int p0), .val (.ref b1), .val (.ref b35), .val (.int (5 : Int32)), .val (.ref a_INDETERMINATE_DP), .val (.ref a_INDETERMINATE_DP), .unset] [(.int (5 : Int32)), (.ref b35), (.ref a_INDETERMINATE_DP)])) rfl rfl (hb hby at_108) _ ?_
      show Steps p.tables e below (T104.setTop (mkF m 109 #[.val (.int p0), .val (.ref b1), .val (.ref b35), .val (.int (5 : Int32)), .val (.ref a_INDETERMINATE_DP), .val (.ref a_INDETERMINATE_DP), .unset] [(.ref a_INDETERMINATE_DP), (.ref a_INDETERMINATE_DP)])) _
      refine Jvm.RoadKit.acmp (g := (mkF m 109 #[.val (.int p0), .val (.ref b1), .val (.ref b35), .val (.int (5 : Int32)), .val (.ref a_INDETERMINATE_DP), .val (.ref a_INDETERMINATE_DP), .unset] [(.ref a_INDETERMINATE_DP), (.ref a_INDETERMINATE_DP)])) X104 hx rfl rfl rfl (pc0 := 109) (pc' := 114) (same := true) rfl (hb hby at_109) rfl (decide_eq_true rfl) (by decide) (by decide) ?_
      show Steps p.tables e below (T104.setTop (mkF m 114 #[.val (.int p0), .val (.ref b1), .val (.ref b35), .val (.int (5 : Int32)), .val (.ref a_INDETERMINATE_DP), .val (.ref a_INDETERMINATE_DP), .unset] [])) _
      refine XS.aload X104.here hx rfl (hb hby at_114) rfl rfl ?_
      show Steps p.tables e below (T104.setTop (mkF m 116 #[.val (.int p0), .val (.ref b1), .val (.ref b35), .val (.int (5 : Int32)), .val (.ref a_INDETERMINATE_DP), .val (.ref a_INDETERMINATE_DP), .unset] [(.ref a_INDETERMINATE_DP)])) _
      refine st106.trans ?_
      show Steps p.tables e below (T106.setTop (mkF m 119 #[.val (.int p0), .val (.ref b1), .val (.ref b35), .val (.int (5 : Int32)), .val (.ref a_INDETERMINATE_DP), .val (.ref a_INDETERMINATE_DP), .unset] [(.ref a_INDETERMINATE_DP)])) _
      refine XS.astore X106.here hx rfl (hb hby at_119) rfl rfl (l' := #[.val (.int p0), .val (.ref b1), .val (.ref b35), .val (.int (5 : Int32)), .val (.ref a_INDETERMINATE_DP), .val (.ref a_INDETERMINATE_DP), .val (.ref a_INDETERMINATE_DP)]) rfl ?_
      show Steps p.tables e below (T106.setTop (mkF m 121 #[.val (.int p0), .val (.ref b1), .val (.ref b35), .val (.int (5 : Int32)), .val (.ref a_INDETERMINATE_DP), .val (.ref a_INDETERMINATE_DP), .val (.ref a_INDETERMINATE_DP)] [])) _
      refine XS.aload X106.here hx rfl (hb hby at_121) rfl rfl ?_
      show Steps p.tables e below (T106.setTop (mkF m 123 #[.val (.int p0), .val (.ref b1), .val (.ref b35), .val (.int (5 : Int32)), .val (.ref a_INDETERMINATE_DP), .val (.ref a_INDETERMINATE_DP), .val (.ref a_INDETERMINATE_DP)] [(.ref a_INDETERMINATE_DP)])) _
      refine XS.aload X106.here hx rfl (hb hby at_123) rfl rfl ?_
      show Steps p.tables e below (T106.setTop (mkF m 125 #[.val (.int p0), .val (.ref b1), .val (.ref b35), .val (.int (5 : Int32)), .val (.ref a_INDETERMINATE_DP), .val (.ref a_INDETERMINATE_DP), .val (.ref a_INDETERMINATE_DP)] [(.ref a_INDETERMINATE_DP), (.ref a_INDETERMINATE_DP)])) _
      refine Jvm.RoadKit.acmp (g := (mkF m 125 #[.val (.int p0), .val (.ref b1), .val (.ref b35), .val (.int (5 : Int32)), .val (.ref a_INDETERMINATE_DP), .val (.ref a_INDETERMINATE_DP), .val (.ref a_INDETERMINATE_DP)] [(.ref a_INDETERMINATE_DP), (.ref a_INDETERMINATE_DP)])) X106 hx rfl rfl rfl (pc0 := 125) (pc' := 128) (same := true) rfl (hb hby at_125) rfl (decide_eq_true rfl) (by decide) (by decide) ?_
      show Steps p.tables e below (T106.setTop (mkF m 128 #[.val (.int p0), .val (.ref b1), .val (.ref b35), .val (.int (5 : Int32)), .val (.ref a_INDETERMINATE_DP), .val (.ref a_INDETERMINATE_DP), .val (.ref a_INDETERMINATE_DP)] [])) _
      refine XS.iconst X106.here hx rfl (hb hby at_128) ?_
      show Steps p.tables e below (T106.setTop (mkF m 129 #[.val (.int p0), .val (.ref b1), .val (.ref b35), .val (.int (5 : Int32)), .val (.ref a_INDETERMINATE_DP), .val (.ref a_INDETERMINATE_DP), .val (.ref a_INDETERMINATE_DP)] [(.int (1 : Int32))])) _
      refine XS.goto X106.here hx rfl (pc0 := 129) (pc' := 133) rfl (hb hby at_129) (by decide) (by decide) ?_
      show Steps p.tables e below (T106.setTop (mkF m 133 #[.val (.int p0), .val (.ref b1), .val (.ref b35), .val (.int (5 : Int32)), .val (.ref a_INDETERMINATE_DP), .val (.ref a_INDETERMINATE_DP), .val (.ref a_INDETERMINATE_DP)] [(.int (1 : Int32))])) _
      exact retN X106 hx (t := .boolean) Bd.returns (by simp) (hb hby at_133) hr
    · show Q0 n0 _ T106.heap _
      rw [e106]
      exact ⟨rfl, N106⟩
set_option maxRecDepth 65536 in
set_option maxHeartbeats 40000000 in
theorem comes_1 {Post : Tables → Env → Array Value → State → Outcome → State → Prop} (hpost : ∀ tb e args s v u, (limb_1_1.after args s (.returned v) u = true ∧ limb_1_2.after args s (.returned v) u = true ∧ True) → FrameEnd s (.returned v) u (Jvm.fieldLocs frame_1_writes args s ++ Jvm.arrayLocs frame_1_arrays args s ++ Jvm.staticLocs frame_1_statics s) 16 128 → Post tb e args s (.returned v) u) :
    ArmFor flags0 classFile x code maxLocals ret World_1 tables_1 room_1 Calls_1 rest_1 Pre_1 Post := by
  intro l hfl _ _ p e ha hc hk s m args below hf hA hF happ hP
  obtain ⟨hcalls, hrest, hpre⟩ := hP
  obtain ⟨-, -, -, hnamed, -, -, -, hat⟩ := (Spec.applies_iff hf).mp happ
  obtain ⟨hg, hn⟩ := and_e (Cond.before_iff.mp (show (Jvm.Cond.and given_1 narrow_1).before args s = true from hpre))
  obtain ⟨g0, r0⟩ := and_e hg
  obtain ⟨w0, rfl⟩ : ∃ w0 : Value, args = #[w0] := by
    have hs : args.size = 1 := by simpa [Cond.value, given_1] using g0
    obtain ⟨L⟩ := args
    match L, hs with
    | [w0], _ => exact ⟨w0, rfl⟩
  have hw := fun d (hd : d ∈ tables_1) => atoms_spec (ws := Jvm.Cond.code x code maxLocals ret :: tables_1) hat d (List.mem_cons_of_mem _ hd)
  have hfit : Fit s := fun {y c} hc i hi => by
    obtain ⟨ha, rfl⟩ := Array.getElem?_eq_some_iff.mp hc
    have q := List.all_eq_true.mp ((Array.all_eq_true_iff_forall_mem.mp hF) _ (Array.getElem_mem ha)) i (List.mem_range.mpr hi)
    simpa [Array.getElem?_eq_getElem hi] using q
  obtain ⟨i0, ei0⟩ := is_v r0
  obtain rfl : w0 = (.int i0) := Option.some.inj ei0
  obtain ⟨n0, m0⟩ := and_e hn
  obtain ⟨n1, m1⟩ := and_e m0
  obtain ⟨n2, m2⟩ := and_e m1
  obtain ⟨n3, m3⟩ := and_e m2
  obtain ⟨n4, m4⟩ := and_e m3
  obtain ⟨n5, m5⟩ := and_e m4
  obtain ⟨n6, m6⟩ := and_e m5
  obtain ⟨n7, m7⟩ := and_e m6
  obtain ⟨n8, m8⟩ := and_e m7
  obtain ⟨n9, m9⟩ := and_e m8
  obtain ⟨n10, m10⟩ := and_e m9
  obtain ⟨a_PERMIT, ev_a_PERMIT⟩ := exa_v n0
  have E_a_PERMIT : Exa s s.heap a_PERMIT "com/example/iron_policy/ironpolicy/Decision" := Exa.start ev_a_PERMIT n0
  have S_a_PERMIT : Sta s s.heap "com/example/iron_policy/ironpolicy/Decision" "PERMIT" "Lcom/example/iron_policy/ironpolicy/Decision;" (.ref a_PERMIT) := Sta.start ev_a_PERMIT (Or.inr ⟨(hw _ (List.mem_of_getElem? (i := 3) rfl)), (hw _ (List.mem_of_getElem? (i := 4) rfl))⟩)
  obtain ⟨a_DENY, ev_a_DENY⟩ := exa_v n1
  have E_a_DENY : Exa s s.heap a_DENY "com/example/iron_policy/ironpolicy/Decision" := Exa.start ev_a_DENY n1
  have S_a_DENY : Sta s s.heap "com/example/iron_policy/ironpolicy/Decision" "DENY" "Lcom/example/iron_policy/ironpolicy/Decision;" (.ref a_DENY) := Sta.start ev_a_DENY (Or.inr ⟨(hw _ (List.mem_of_getElem? (i := 3) rfl)), (hw _ (List.mem_of_getElem? (i := 7) rfl))⟩)
  obtain ⟨a_NOT_APPLICABLE, ev_a_NOT_APPLICABLE⟩ := exa_v n2
  have E_a_NOT_APPLICABLE : Exa s s.heap a_NOT_APPLICABLE "com/example/iron_policy/ironpolicy/Decision" := Exa.start ev_a_NOT_APPLICABLE n2
  have S_a_NOT_APPLICABLE : Sta s s.heap "com/example/iron_policy/ironpolicy/Decision" "NOT_APPLICABLE" "Lcom/example/iron_policy/ironpolicy/Decision;" (.ref a_NOT_APPLICABLE) := Sta.start ev_a_NOT_APPLICABLE (Or.inr ⟨(hw _ (List.mem_of_getElem? (i := 3) rfl)), (hw _ (List.mem_of_getElem? (i := 9) rfl))⟩)
  obtain ⟨a_INDETERMINATE_D, ev_a_INDETERMINATE_D⟩ := exa_v n3
  have E_a_INDETERMINATE_D : Exa s s.heap a_INDETERMINATE_D "com/example/iron_policy/ironpolicy/Decision" := Exa.start ev_a_INDETERMINATE_D n3
  have S_a_INDETERMINATE_D : Sta s s.heap "com/example/iron_policy/ironpolicy/Decision" "INDETERMINATE_D" "Lcom/example/iron_policy/ironpolicy/Decision;" (.ref a_INDETERMINATE_D) := Sta.start ev_a_INDETERMINATE_D (Or.inr ⟨(hw _ (List.mem_of_getElem? (i := 3) rfl)), (hw _ (List.mem_of_getElem? (i := 11) rfl))⟩)
  obtain ⟨a_INDETERMINATE_P, ev_a_INDETERMINATE_P⟩ := exa_v n4
  have E_a_INDETERMINATE_P : Exa s s.heap a_INDETERMINATE_P "com/example/iron_policy/ironpolicy/Decision" := Exa.start ev_a_INDETERMINATE_P n4
  have S_a_INDETERMINATE_P : Sta s s.heap "com/example/iron_policy/ironpolicy/Decision" "INDETERMINATE_P" "Lcom/example/iron_policy/ironpolicy/Decision;" (.ref a_INDETERMINATE_P) := Sta.start ev_a_INDETERMINATE_P (Or.inr ⟨(hw _ (List.mem_of_getElem? (i := 3) rfl)), (hw _ (List.mem_of_getElem? (i := 13) rfl))⟩)
  obtain ⟨a_INDETERMINATE_DP, ev_a_INDETERMINATE_DP⟩ := exa_v n5
  have E_a_INDETERMINATE_DP : Exa s s.heap a_INDETERMINATE_DP "com/example/iron_policy/ironpolicy/Decision" := Exa.start ev_a_INDETERMINATE_DP n5
  have S_a_INDETERMINATE_DP : Sta s s.heap "com/example/iron_policy/ironpolicy/Decision" "INDETERMINATE_DP" "Lcom/example/iron_policy/ironpolicy/Decision;" (.ref a_INDETERMINATE_DP) := Sta.start ev_a_INDETERMINATE_DP (Or.inr ⟨(hw _ (List.mem_of_getElem? (i := 3) rfl)), (hw _ (List.mem_of_getElem? (i := 15) rfl))⟩)
  have F_ordinal_a_INDETERMINATE_P : Fld s s.heap a_INDETERMINATE_P "java/lang/Enum" "ordinal" "I" (.int (4 : Int32)) := Fld.start ((fld_at ev_a_INDETERMINATE_P).symm.trans (Cond.eq_int (Cond.before_iff.mpr n6) rfl))
  have F_ordinal_a_PERMIT : Fld s s.heap a_PERMIT "java/lang/Enum" "ordinal" "I" (.int (0 : Int32)) := Fld.start ((fld_at ev_a_PERMIT).symm.trans (Cond.eq_int (Cond.before_iff.mpr n7) rfl))
  have F_ordinal_a_DENY : Fld s s.heap a_DENY "java/lang/Enum" "ordinal" "I" (.int (1 : Int32)) := Fld.start ((fld_at ev_a_DENY).symm.trans (Cond.eq_int (Cond.before_iff.mpr n8) rfl))
  have F_ordinal_a_INDETERMINATE_D : Fld s s.heap a_INDETERMINATE_D "java/lang/Enum" "ordinal" "I" (.int (3 : Int32)) := Fld.start ((fld_at ev_a_INDETERMINATE_D).symm.trans (Cond.eq_int (Cond.before_iff.mpr n9) rfl))
  have F_ordinal_a_NOT_APPLICABLE : Fld s s.heap a_NOT_APPLICABLE "java/lang/Enum" "ordinal" "I" (.int (2 : Int32)) := Fld.start ((fld_at ev_a_NOT_APPLICABLE).symm.trans (Cond.eq_int (Cond.before_iff.mpr n10) rfl))
  have F_ordinal_a_INDETERMINATE_DP : Fld s s.heap a_INDETERMINATE_DP "java/lang/Enum" "ordinal" "I" (.int (5 : Int32)) := Fld.start ((fld_at ev_a_INDETERMINATE_DP).symm.trans (Cond.eq_int (Cond.before_iff.mpr m10) rfl))
  obtain ⟨n, o, h1, h2, h3, _, L, rfl, ⟨rfl, N⟩, hq⟩ := rm0 l s _ hw tables_1 a_PERMIT a_DENY a_NOT_APPLICABLE a_INDETERMINATE_D a_INDETERMINATE_P a_INDETERMINATE_DP ⟨E_a_PERMIT, S_a_PERMIT, E_a_DENY, S_a_DENY, E_a_NOT_APPLICABLE, S_a_NOT_APPLICABLE, E_a_INDETERMINATE_D, S_a_INDETERMINATE_D, E_a_INDETERMINATE_P, S_a_INDETERMINATE_P, E_a_INDETERMINATE_DP, S_a_INDETERMINATE_DP, F_ordinal_a_INDETERMINATE_P, F_ordinal_a_PERMIT, F_ordinal_a_DENY, F_ordinal_a_INDETERMINATE_D, F_ordinal_a_NOT_APPLICABLE, F_ordinal_a_INDETERMINATE_DP⟩ i0 s.heap s.heap.size (Old.start s) p e ha hc hk s m _ below hf ((Spec.applies_iff_loose hf).mp happ).1 ⟨rfl, State.Warmed39.refl s, rfl⟩ trivial
  refine ⟨n, _, h1, h2, h3, hpost _ _ _ _ _ _ ⟨Cond.after_iff.mpr rfl, Cond.after_iff.mpr (eq_i res_at (Term.int_eval (1)) rfl), trivial⟩ ⟨hq.1, hq.2.1, (hq.2.2.sift fun y hy => Or.inr (N y hy)).mono (by decide) (by decide)⟩⟩
theorem main_1_1 : Claimed_1_1 := comes_1 fun _ _ _ _ _ _ h hF => ⟨h.1, hF⟩
theorem main_1_2 : Claimed_1_2 := comes_1 fun _ _ _ _ _ _ h hF => ⟨h.2.1, hF⟩
end Jvm.Pilot.@@N@@
-- the witness, by the kit's program
namespace Jvm.Pilot.@@N@@
open Jvm Jvm.ClassFile Sem Op Lib Jvm.Free Jvm.Stand Jvm.Pilot.@@N@@.Jvm.D
/-! MADE BY PROGRAM (witnessworld.py) out of the Statement's table words and the real class files: 13 classes; the members and pool entries that the words name. The judged class is class 1, her method 1. -/
namespace start1
open Jvm.ClassFile
def u (s : String) : CpInfo := .utf8 (stringToUtf16 s)
/-- a pool by its gaps: so many unusable entries, then the entry; so many at the end -/
def gap : Nat → List CpInfo → List CpInfo
  | 0, r => r
  | n + 1, r => .unusable :: gap n r
def poolList (es : List (Nat × CpInfo)) (last : Nat) : List CpInfo := es.foldr (fun e r => gap e.1 (e.2 :: r)) (gap last [])
def pool (es : List (Nat × CpInfo)) (last : Nat) : Array CpInfo := ⟨poolList es last⟩
def fileOf (pool : Array CpInfo) (this : Nat) (attrs : Array Attribute := #[]) (ms : Array MethodInfo := #[]) (fl : Nat := 33) (sup : Nat := 0) (ifs : Array Nat := #[]) (fds : Array FieldInfo := #[]) : ClassFile where
  minorVersion := 0
  majorVersion := 65
  constantPool := pool
  accessFlags := fl
  thisClass := this
  superClass := sup
  interfaces := ifs
  fields := fds
  methods := ms
  attributes := attrs
def plain (name : String) (sup : Option ClassId) : Class where
  name := name
  kind := .ordinary
  loader := none
  accessFlags := 33
  super := sup
  interfaces := #[]
  cf := none
  fields := #[]
  methods := #[]
  instanceTypes := #[]
  staticTypes := #[]
  resolved := #[]
  callSites := []
  init := .initialized
  statics := none
  mirror := none

def pool0 : Array CpInfo := pool [(5, u "<init>"), (0, u "()V"), (1, .class_ 10), (1, u "java/lang/Object")] 113

def k0m0 : Method := { name := "<init>", desc := "()V", sig := { parameters := [], returnType := none }, accessFlags := 1, code := none }
/-- java/lang/Object -/
def k0 : Class := { plain "java/lang/Object" none with
  accessFlags := 33
  interfaces := #[]
  cf := some (fileOf pool0 8 #[] #[{ accessFlags := 1, nameIndex := 5, descriptorIndex := 6, attributes := #[] }] 33 0 #[] #[])
  fields := #[]
  methods := #[k0m0]
  instanceTypes := #[]
  staticTypes := #[]
  resolved := Array.replicate 124 none
  statics := none }

def pool1 : Array CpInfo := pool [(2, .class_ 4), (1, u "java/lang/Object"), (0, u "<init>"), (0, u "()V"), (0, .class_ 8), (0, u "com/example/iron_policy/ironpolicy/Decision"), (0, .fieldref 7 10), (0, .nameAndType 11 12), (0, u "PERMIT"), (0, u "Lcom/example/iron_policy/ironpolicy/Decision;"), (0, .fieldref 7 14), (0, .nameAndType 15 12), (0, u "DENY"), (0, .fieldref 7 17), (0, .nameAndType 18 12), (0, u "NOT_APPLICABLE"), (0, .fieldref 7 20), (0, .nameAndType 21 12), (0, u "INDETERMINATE_D"), (0, .fieldref 7 23), (0, .nameAndType 24 12), (0, u "INDETERMINATE_P"), (0, .fieldref 7 26), (0, .nameAndType 27 12), (0, u "INDETERMINATE_DP"), (0, .integer 2147483647), (0, .methodref 7 30), (0, .nameAndType 31 32), (0, u "indeterminate"), (0, u "()Lcom/example/iron_policy/ironpolicy/Decision;"), (0, .class_ 34), (0, u "com/example/iron_policy/ironpolicy/DecisionIndeterminatePinLaw"), (2, u "law"), (0, u "(I)Z")] 5

def k1m0 : Method := { name := "<init>", desc := "()V", sig := { parameters := [], returnType := none }, accessFlags := 1, code := none }
def k1c1 : Code := { maxStack := 4, maxLocals := 7, code := code, exceptionTable := #[], attributes := #[] }
def k1m1 : Method := { name := "law", desc := "(I)Z", sig := { parameters := [.int], returnType := some .boolean }, accessFlags := 9, code := some k1c1 }
/-- com/example/iron_policy/ironpolicy/DecisionIndeterminatePinLaw -/
def k1 : Class := { plain "com/example/iron_policy/ironpolicy/DecisionIndeterminatePinLaw" (some 0) with
  accessFlags := 49
  interfaces := #[]
  cf := some (fileOf pool1 33 #[] #[{ accessFlags := 1, nameIndex := 5, descriptorIndex := 6, attributes := #[] }, { accessFlags := 9, nameIndex := 37, descriptorIndex := 38, attributes := #[] }] 49 2 #[] #[])
  fields := #[]
  methods := #[k1m0, k1m1]
  instanceTypes := #[]
  staticTypes := #[]
  resolved := Array.replicate 44 none
  statics := none }

def pool2 : Array CpInfo := pool [(1, .class_ 2), (0, u "java/lang/constant/Constable"), (0, .class_ 4), (0, u "java/lang/Object")] 6

/-- java/lang/constant/Constable -/
def k2 : Class := { plain "java/lang/constant/Constable" (some 0) with
  accessFlags := 1537
  interfaces := #[]
  cf := some (fileOf pool2 1 #[] #[] 1537 3 #[] #[])
  fields := #[]
  methods := #[]
  instanceTypes := #[]
  staticTypes := #[]
  resolved := Array.replicate 11 none
  statics := none }

def pool3 : Array CpInfo := pool [(1, .class_ 2), (0, u "java/lang/Comparable"), (0, .class_ 4), (0, u "java/lang/Object")] 7

/-- java/lang/Comparable -/
def k3 : Class := { plain "java/lang/Comparable" (some 0) with
  accessFlags := 1537
  interfaces := #[]
  cf := some (fileOf pool3 1 #[] #[] 1537 3 #[] #[])
  fields := #[]
  methods := #[]
  instanceTypes := #[]
  staticTypes := #[]
  resolved := Array.replicate 12 none
  statics := none }

def pool4 : Array CpInfo := pool [(1, .class_ 2), (0, u "java/io/Serializable"), (0, .class_ 4), (0, u "java/lang/Object")] 2

/-- java/io/Serializable -/
def k4 : Class := { plain "java/io/Serializable" (some 0) with
  accessFlags := 1537
  interfaces := #[]
  cf := some (fileOf pool4 1 #[] #[] 1537 3 #[] #[])
  fields := #[]
  methods := #[]
  instanceTypes := #[]
  staticTypes := #[]
  resolved := Array.replicate 7 none
  statics := none }

def pool5 : Array CpInfo := pool [(2, .class_ 4), (1, u "java/lang/Enum"), (0, u "name"), (0, u "Ljava/lang/String;"), (2, u "ordinal"), (0, u "I"), (1, .class_ 14), (1, u "java/lang/Object"), (4, u "hash"), (86, .class_ 108), (1, u "java/lang/Enum$EnumDesc"), (2, .class_ 112), (0, u "java/lang/constant/Constable"), (0, .class_ 114), (0, u "java/lang/Comparable"), (0, .class_ 116), (0, u "java/io/Serializable")] 87

/-- java/lang/Enum -/
def k5 : Class := { plain "java/lang/Enum" (some 0) with
  accessFlags := 1057
  interfaces := #[2, 3, 4]
  cf := some (fileOf pool5 2 #[.nestMembers #[106]] #[] 1057 12 #[111, 113, 115] #[{ accessFlags := 18, nameIndex := 5, descriptorIndex := 6, attributes := #[] }, { accessFlags := 18, nameIndex := 9, descriptorIndex := 10, attributes := #[] }, { accessFlags := 2, nameIndex := 19, descriptorIndex := 10, attributes := #[] }])
  fields := #[{ name := "name", type := (.object "java/lang/String"), accessFlags := 18, slot := 0, constantValue := 0 }, { name := "ordinal", type := .int, accessFlags := 18, slot := 1, constantValue := 0 }, { name := "hash", type := .int, accessFlags := 2, slot := 2, constantValue := 0 }]
  methods := #[]
  instanceTypes := #[(.object "java/lang/String"), .int, .int]
  staticTypes := #[]
  resolved := Array.replicate 204 none
  statics := none }

def pool6 : Array CpInfo := pool [(1, .class_ 2), (0, u "com/example/iron_policy/ironpolicy/Decision"), (0, .fieldref 1 4), (0, .nameAndType 5 6), (0, u "PERMIT"), (0, u "Lcom/example/iron_policy/ironpolicy/Decision;"), (0, .fieldref 1 8), (0, .nameAndType 9 6), (0, u "DENY"), (2, u "NOT_APPLICABLE"), (0, .fieldref 1 14), (0, .nameAndType 15 6), (0, u "INDETERMINATE_D"), (0, .fieldref 1 17), (0, .nameAndType 18 6), (0, u "INDETERMINATE_P"), (2, u "INDETERMINATE_DP"), (2, u "$VALUES"), (0, u "[Lcom/example/iron_policy/ironpolicy/Decision;"), (6, .class_ 34), (1, u "java/lang/Enum"), (14, u "text"), (0, u "Ljava/lang/String;"), (6, u "responseText"), (34, u "indeterminate"), (0, u "()Lcom/example/iron_policy/ironpolicy/Decision;")] 5

def k6c0 : Code := { maxStack := 2, maxLocals := 2, code := prog_14_method_6_code, exceptionTable := #[], attributes := #[] }
def k6m0 : Method := { name := "indeterminate", desc := "()Lcom/example/iron_policy/ironpolicy/Decision;", sig := { parameters := [], returnType := some (.object "com/example/iron_policy/ironpolicy/Decision") }, accessFlags := 1, code := some k6c0 }
/-- com/example/iron_policy/ironpolicy/Decision -/
def k6 : Class := { plain "com/example/iron_policy/ironpolicy/Decision" (some 5) with
  accessFlags := 16433
  interfaces := #[]
  cf := some (fileOf pool6 1 #[] #[{ accessFlags := 1, nameIndex := 92, descriptorIndex := 93, attributes := #[] }] 16433 32 #[] #[{ accessFlags := 16409, nameIndex := 5, descriptorIndex := 6, attributes := #[] }, { accessFlags := 16409, nameIndex := 9, descriptorIndex := 6, attributes := #[] }, { accessFlags := 16409, nameIndex := 12, descriptorIndex := 6, attributes := #[] }, { accessFlags := 16409, nameIndex := 15, descriptorIndex := 6, attributes := #[] }, { accessFlags := 16409, nameIndex := 18, descriptorIndex := 6, attributes := #[] }, { accessFlags := 16409, nameIndex := 21, descriptorIndex := 6, attributes := #[] }, { accessFlags := 18, nameIndex := 49, descriptorIndex := 50, attributes := #[] }, { accessFlags := 18, nameIndex := 57, descriptorIndex := 50, attributes := #[] }, { accessFlags := 4122, nameIndex := 24, descriptorIndex := 25, attributes := #[] }])
  fields := #[{ name := "PERMIT", type := (.object "com/example/iron_policy/ironpolicy/Decision"), accessFlags := 16409, slot := 0, constantValue := 0 }, { name := "DENY", type := (.object "com/example/iron_policy/ironpolicy/Decision"), accessFlags := 16409, slot := 1, constantValue := 0 }, { name := "NOT_APPLICABLE", type := (.object "com/example/iron_policy/ironpolicy/Decision"), accessFlags := 16409, slot := 2, constantValue := 0 }, { name := "INDETERMINATE_D", type := (.object "com/example/iron_policy/ironpolicy/Decision"), accessFlags := 16409, slot := 3, constantValue := 0 }, { name := "INDETERMINATE_P", type := (.object "com/example/iron_policy/ironpolicy/Decision"), accessFlags := 16409, slot := 4, constantValue := 0 }, { name := "INDETERMINATE_DP", type := (.object "com/example/iron_policy/ironpolicy/Decision"), accessFlags := 16409, slot := 5, constantValue := 0 }, { name := "text", type := (.object "java/lang/String"), accessFlags := 18, slot := 3, constantValue := 0 }, { name := "responseText", type := (.object "java/lang/String"), accessFlags := 18, slot := 4, constantValue := 0 }, { name := "$VALUES", type := (.array (.object "com/example/iron_policy/ironpolicy/Decision")), accessFlags := 4122, slot := 6, constantValue := 0 }]
  methods := #[k6m0]
  instanceTypes := #[(.object "java/lang/String"), .int, .int, (.object "java/lang/String"), (.object "java/lang/String")]
  staticTypes := #[(.object "com/example/iron_policy/ironpolicy/Decision"), (.object "com/example/iron_policy/ironpolicy/Decision"), (.object "com/example/iron_policy/ironpolicy/Decision"), (.object "com/example/iron_policy/ironpolicy/Decision"), (.object "com/example/iron_policy/ironpolicy/Decision"), (.object "com/example/iron_policy/ironpolicy/Decision"), (.array (.object "com/example/iron_policy/ironpolicy/Decision"))]
  resolved := Array.replicate 99 none
  statics := some 0 }

def pool7 : Array CpInfo := pool [(1, u "java/lang/Cloneable"), (0, .class_ 1), (0, u "java/lang/Object"), (0, .class_ 3)] 3

/-- java/lang/Cloneable -/
def k7 : Class := { plain "java/lang/Cloneable" (some 0) with
  accessFlags := 1537
  interfaces := #[]
  cf := some (fileOf pool7 2 #[] #[] 1537 4 #[] #[])
  fields := #[]
  methods := #[]
  instanceTypes := #[]
  staticTypes := #[]
  resolved := Array.replicate 8 none
  statics := none }

/-- the primitive byte -/
def k8 : Class := { plain "byte" none with kind := .primitive 'B', accessFlags := 0x411 }
/-- [B -/
def k9 : Class := { plain "[B" (some 0) with kind := .array 8 .byte, interfaces := #[7, 4], accessFlags := 1041 }

/-- the primitive int -/
def k10 : Class := { plain "int" none with kind := .primitive 'I', accessFlags := 0x411 }
/-- [I -/
def k11 : Class := { plain "[I" (some 0) with kind := .array 10 .int, interfaces := #[7, 4], accessFlags := 1041 }

/-- [Lcom/example/iron_policy/ironpolicy/Decision; -/
def k12 : Class := { plain "[Lcom/example/iron_policy/ironpolicy/Decision;" (some 0) with kind := .array 6 (.object "com/example/iron_policy/ironpolicy/Decision"), interfaces := #[7, 4], accessFlags := 1041 }

def heap : Heap := #[{ cls := 6, slots := #[.ref 1, .ref 2, .ref 3, .ref 4, .ref 5, .ref 6, .null], vm := .statics 6 },
  { cls := 6, slots := #[.null, .int 0, .int 0, .null, .null], vm := .none },
  { cls := 6, slots := #[.null, .int 1, .int 0, .null, .null], vm := .none },
  { cls := 6, slots := #[.null, .int 2, .int 0, .null, .null], vm := .none },
  { cls := 6, slots := #[.null, .int 3, .int 0, .null, .null], vm := .none },
  { cls := 6, slots := #[.null, .int 4, .int 0, .null, .null], vm := .none },
  { cls := 6, slots := #[.null, .int 5, .int 0, .null, .null], vm := .none }]
def classes : Array Class := #[k0, k1, k2, k3, k4, k5, k6, k7, k8, k9, k10, k11, k12]
def interned : List (Array UInt16 × Addr) := []
def slotsUsed : Nat := 37
def theMethod : MethodId := ⟨1, 1⟩
def args0 : Array Value := #[.int 5]
def aboutOver (below : List Frame) : State where
  vm := { classes := classes, interned := interned.toArray }
  heap := heap
  slotsUsed := slotsUsed
  threads := #[{ frames := .invoking theMethod args0 :: below }]
def below0 : List Frame := [.native { method := ⟨0, 0⟩, args := #[] }]
def about1 : State := aboutOver below0
def p0 : Program := .bare "" "" ""
def e0 : Env := launch0.env 0 0 0
theorem w_frames : about1.frames = Frame.invoking theMethod args0 :: below0 := rfl
set_option maxRecDepth 65536 in
theorem w_args : argsFit about1.vm theMethod args0 = true := by decide +kernel
set_option maxRecDepth 65536 in
theorem w_heap : heapFits about1 = true := by decide +kernel
set_option maxRecDepth 65536 in
theorem w_runnable : about1.curStatus? = some .runnable := by decide +kernel
set_option maxRecDepth 65536 in
theorem w_alone : about1.alone = true := by decide +kernel
set_option maxRecDepth 65536 in
theorem w_named : about1.methodNamed? x = some theMethod := by decide +kernel
set_option maxRecDepth 65536 in
theorem w_hears : about1.hears theMethod below0 = true := by decide +kernel
set_option maxRecDepth 65536 in
theorem w_ripe : about1.ripe theMethod args0 below0 = true := by decide +kernel
theorem w_running : about1.status = .running := rfl
set_option maxRecDepth 65536 in
theorem w_room : about1.hasRoom e0.platform room_1 = true :=
  launch0.hasRoom_least _ room_1 (by decide +kernel) (by decide +kernel) (by decide +kernel) (by decide +kernel) (by decide +kernel) (by decide +kernel)
theorem allAtoms_all (ts : List Jvm.Cond) (a : Array Jvm.Value) (st : Jvm.State) : (allAtoms ts).before a st = ts.all (fun c => c.before a st) := by
  induction ts with
  | nil => rfl
  | cons c t ih =>
    show (Jvm.Cond.and c (allAtoms t)).before a st = _
    rw [Jvm.Cond.before_and, ih, List.all_cons]
def words1 : List Jvm.Cond := Jvm.Cond.code x code maxLocals ret :: tables_1
/-- a 'code' word, met by the world's own term for the bytes: nothing is compared byte by byte -/
theorem code_word {y : MethodName} {bytes : ByteArray} {mx : Nat} {rt : Option FieldType} {a : Array Value} {s : State} {m : MethodId} {meth : Method} {c : Code} (h1 : s.methodNamed? y = some m) (h2 : s.vm.method? m = some meth) (h3 : meth.code = some c) (h4 : c.code = bytes)
    (h5 : (c.maxLocals == mx && c.exceptionTable.isEmpty && decide (c.maxStack ≤ mostOperands) && decide (meth.sig.returnType = rt) && !meth.locks && decide (parseMethodDescriptor y.desc = some meth.sig)) = true) : (Jvm.Cond.code y bytes mx rt).before a s = true := by
  simp only [Bool.and_eq_true, beq_iff_eq, Bool.not_eq_true', decide_eq_true_eq] at h5
  obtain ⟨⟨⟨⟨⟨g1, g2⟩, g3⟩, g4⟩, g5⟩, g6⟩ := h5
  simp [Cond.before, Cond.holds, Cond.value, h1, h2, h3, h4, g1, g2, g3, g4, g5, g6]
def isCode : Jvm.Cond → Bool
  | .code _ _ _ _ => true
  | _ => false
theorem all_split {L : List Jvm.Cond} {P : Jvm.Cond → Bool} (h1 : L.all (fun c => isCode c || P c) = true) (h2 : ∀ c ∈ L.filter isCode, P c = true) : L.all P = true := by
  refine List.all_eq_true.mpr fun c hc => ?_
  have h := List.all_eq_true.mp h1 c hc
  rcases Bool.eq_false_or_eq_true (isCode c) with hi | hi
  · exact h2 c (List.mem_filter.mpr ⟨hc, hi⟩)
  · simpa [hi] using h
set_option maxRecDepth 65536 in
theorem w_c0 : (Jvm.Cond.code x code maxLocals ret).before args0 about1 = true := code_word (m := ⟨1, 1⟩) (meth := k1m1) (c := k1c1) (by decide +kernel) rfl rfl rfl (by decide +kernel)
set_option maxRecDepth 65536 in
theorem w_c1 : (Jvm.Cond.code ({ cls := "com/example/iron_policy/ironpolicy/Decision", name := "indeterminate", desc := "()Lcom/example/iron_policy/ironpolicy/Decision;" } : Jvm.MethodName) prog_14_method_6_code (2 : Nat) (Option.some (Jvm.ClassFile.FieldType.object "com/example/iron_policy/ironpolicy/Decision"))).before args0 about1 = true := code_word (m := ⟨6, 0⟩) (meth := k6m0) (c := k6c0) (by decide +kernel) rfl rfl rfl (by decide +kernel)
def codes1 : List Jvm.Cond := [Jvm.Cond.code x code maxLocals ret, Jvm.Cond.code ({ cls := "com/example/iron_policy/ironpolicy/Decision", name := "indeterminate", desc := "()Lcom/example/iron_policy/ironpolicy/Decision;" } : Jvm.MethodName) prog_14_method_6_code (2 : Nat) (Option.some (Jvm.ClassFile.FieldType.object "com/example/iron_policy/ironpolicy/Decision"))]
set_option maxRecDepth 65536 in
theorem codes_eq : words1.filter isCode = codes1 := rfl
theorem w_codes : ∀ c ∈ words1.filter isCode, c.before args0 about1 = true := by
  rw [codes_eq]
  intro c hc
  simp only [codes1, List.mem_cons, List.not_mem_nil, or_false] at hc
  rcases hc with rfl | rfl
  · exact w_c0
  · exact w_c1
set_option maxRecDepth 65536 in
theorem w_t1 : (words1.take 24).all (fun c => isCode c || c.before args0 about1) = true := by decide +kernel
set_option maxRecDepth 65536 in
theorem w_t2 : (words1.drop 24).all (fun c => isCode c || c.before args0 about1) = true := by decide +kernel
theorem w_tables : (allAtoms (Jvm.Cond.code x code maxLocals ret :: tables_1)).before args0 about1 = true := by
  rw [allAtoms_all]
  show words1.all (fun c => c.before args0 about1) = true
  refine all_split ?_ w_codes
  rw [← List.take_append_drop 24 words1, List.all_append, w_t1, w_t2]
  rfl
set_option maxRecDepth 65536 in
theorem w_case : (Jvm.Cond.and given_1 narrow_1).before args0 about1 = true := by decide +kernel
theorem w_applies : (headSpec (Jvm.Cond.code x code maxLocals ret :: tables_1) room_1).applies x e0.platform about1 = true :=
  (Spec.applies_iff w_frames).mpr ⟨w_running, w_runnable, w_alone, w_named, w_hears, w_ripe, w_room, w_tables⟩
theorem atStart : AtStart classFile x code maxLocals ret World_1 tables_1 room_1 Calls_1 rest_1 Pre_1 launch0 p0 e0 about1 theMethod args0 below0 :=
  ⟨lists_1, trivial, launch0.admits_env _ _ _, launch0.least_env, fairChoices_fair.cas, fairChoices_fair.clock, w_frames, w_args, w_heap, w_applies, trivial, trivial, w_case⟩
end start1
theorem witness_1 : WitnessClaimed_1 := ⟨start1.p0, start1.e0, start1.about1, start1.theMethod, start1.args0, start1.below0, start1.atStart⟩
end Jvm.Pilot.@@N@@
