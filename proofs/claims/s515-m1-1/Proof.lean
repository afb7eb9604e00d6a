import JvmDerived
import JvmDerived.Pilot.@@N@@Statement
import JvmDerived.Pilot.@@N@@Code
set_option linter.unusedVariables false
set_option linter.unusedSimpArgs false
namespace Jvm.RoadKit
open Sem ClassFile Op Lib Jvm.Stand Jvm.Free Jvm.LawKit
section New
variable {p : Program} {l : Launch} {e : Env} {R : Room} {s : State} {m : MethodId} {args : Array Value} {below : List Frame} {meth : Method} {c : Code} {T : State} {locs : List Loc} {cells slots : Nat}
theorem retI (X : Stand p l e R s m args below meth c T locs cells slots) (hx : p.tables.exec = Jvm.exec) {pc : Nat} {Ls : Array Slot} {z : Int32} {rest : List Value} (hret : meth.sig.returnType = some .int) (hd : decode c.code pc = .ok (.ireturn, 1)) {fs : List Frame}
    (hl : ∀ (f : JFrame) (acts : List Action), f.method = m → f.locked = none → f.entered = [] → (doReturn e (T.setTop f) acts (some (.int z))).1 = T.setFrames fs) : Steps p.tables e below (T.setTop (mkF m pc Ls (.int z :: rest))) (T.setFrames fs) := by
  have hm' : T.vm.method? m = some meth := X.method'
  have hn : narrow .int (.int z) = .int z := rfl
  show Steps p.tables e below (T.setTop { method := m, pc := pc, locals := Ls, stack := _ :: rest, locked := none }) _
  jvm_step X.here [X.here.top, hx, hd, hm', hret, hn]
  first | (intro acts; rw [hl _ acts rfl rfl rfl]) | rw [hl _ _ rfl rfl rfl]
  exact Steps.refl _
end New
end Jvm.RoadKit
namespace Jvm.Pilot.@@N@@
open Jvm Jvm.ClassFile Sem Op Lib Jvm.Free Jvm.Stand Jvm.LawKit Jvm.RoadKit Bundle Jvm.Pilot.@@N@@.Jvm.D
theorem ef_rm_ord (m : MethodId) (x0 : Addr) : entryFrame m #[(.ref x0)] 1 = mkF m 0 #[.val (.ref x0)] [] := by first | (simp [entryFrame, mkF, argsToLocals, Value.category]; done) | rfl
theorem d_jdk_37_method_2_0 : decode jdk_37_method_2_code 0 = .ok (.aload_n 0, 1) := by decide +kernel
theorem d_jdk_37_method_2_1 : decode jdk_37_method_2_code 1 = .ok (.getfield 7, 3) := by decide +kernel
theorem d_jdk_37_method_2_4 : decode jdk_37_method_2_code 4 = .ok (.ireturn, 1) := by decide +kernel
theorem pn_0 : plainName "java/lang/Enum" = true := by first | (simp [plainName, overriddenIn]; done) | decide +kernel
theorem ef_rm_of_REQUIRED_1 (m : MethodId) (x0 : Addr) (x1 : Int32) : entryFrame m #[(.ref x0), (.int x1)] 3 = mkF m 0 #[.val (.ref x0), .val (.int x1), .unset] [] := by first | (simp [entryFrame, mkF, argsToLocals, Value.category]; done) | rfl
theorem d_prog_19_method_4_0 : decode prog_19_method_4_code 0 = .ok (.iload_n 1, 1) := by decide +kernel
theorem d_prog_19_method_4_1 : decode prog_19_method_4_code 1 = .ok (.ifCond .eq 86, 3) := by decide +kernel
theorem d_prog_19_method_4_4 : decode prog_19_method_4_code 4 = .ok (.getstatic 35, 3) := by decide +kernel
theorem d_prog_19_method_4_7 : decode prog_19_method_4_code 7 = .ok (.aload_n 0, 1) := by decide +kernel
theorem pd_0 : parseMethodDescriptor "()I" = some ⟨[], some .int⟩ := by decide +kernel
theorem d_prog_19_method_4_8 : decode prog_19_method_4_code 8 = .ok (.invokevirtual 41, 3) := by decide +kernel
theorem d_prog_19_method_4_11 : decode prog_19_method_4_code 11 = .ok (.iaload, 1) := by decide +kernel
theorem d_prog_19_method_4_12 : decode prog_19_method_4_code 12 = .ok (.tableswitch 40 1 6 #[50, 50, 50, 56, 62, 68], 40) := by decide +kernel
theorem d_prog_19_method_4_62 : decode prog_19_method_4_code 62 = .ok (.getstatic 3, 3) := by decide +kernel
theorem d_prog_19_method_4_65 : decode prog_19_method_4_code 65 = .ok (.goto 18, 3) := by decide +kernel
theorem d_prog_19_method_4_83 : decode prog_19_method_4_code 83 = .ok (.astore_n 2, 1) := by decide +kernel
theorem d_prog_19_method_4_84 : decode prog_19_method_4_code 84 = .ok (.goto 74, 3) := by decide +kernel
theorem d_prog_19_method_4_158 : decode prog_19_method_4_code 158 = .ok (.aload_n 2, 1) := by decide +kernel
theorem d_prog_19_method_4_159 : decode prog_19_method_4_code 159 = .ok (.areturn, 1) := by decide +kernel
theorem pn_1 : plainName "com/example/demarc/demarc/Placement" = true := by first | (simp [plainName, overriddenIn]; done) | decide +kernel
theorem ef_rm_of_REQUIRED_0 (m : MethodId) (x0 : Addr) (x1 : Int32) : entryFrame m #[(.ref x0), (.int x1)] 3 = mkF m 0 #[.val (.ref x0), .val (.int x1), .unset] [] := by first | (simp [entryFrame, mkF, argsToLocals, Value.category]; done) | rfl
theorem d_prog_19_method_4_87 : decode prog_19_method_4_code 87 = .ok (.getstatic 35, 3) := by decide +kernel
theorem d_prog_19_method_4_90 : decode prog_19_method_4_code 90 = .ok (.aload_n 0, 1) := by decide +kernel
theorem d_prog_19_method_4_91 : decode prog_19_method_4_code 91 = .ok (.invokevirtual 41, 3) := by decide +kernel
theorem d_prog_19_method_4_94 : decode prog_19_method_4_code 94 = .ok (.iaload, 1) := by decide +kernel
theorem d_prog_19_method_4_95 : decode prog_19_method_4_code 95 = .ok (.tableswitch 37 1 6 #[47, 59, 53, 47, 53, 53], 37) := by decide +kernel
theorem d_prog_19_method_4_142 : decode prog_19_method_4_code 142 = .ok (.getstatic 7, 3) := by decide +kernel
theorem d_prog_19_method_4_145 : decode prog_19_method_4_code 145 = .ok (.goto 12, 3) := by decide +kernel
theorem d_prog_19_method_4_157 : decode prog_19_method_4_code 157 = .ok (.astore_n 2, 1) := by decide +kernel
theorem ef_rm_of_NEVER_1 (m : MethodId) (x0 : Addr) (x1 : Int32) : entryFrame m #[(.ref x0), (.int x1)] 3 = mkF m 0 #[.val (.ref x0), .val (.int x1), .unset] [] := by first | (simp [entryFrame, mkF, argsToLocals, Value.category]; done) | rfl
theorem d_prog_19_method_4_80 : decode prog_19_method_4_code 80 = .ok (.getstatic 13, 3) := by decide +kernel
theorem ef_rm_of_NEVER_0 (m : MethodId) (x0 : Addr) (x1 : Int32) : entryFrame m #[(.ref x0), (.int x1)] 3 = mkF m 0 #[.val (.ref x0), .val (.int x1), .unset] [] := by first | (simp [entryFrame, mkF, argsToLocals, Value.category]; done) | rfl
theorem d_prog_19_method_4_148 : decode prog_19_method_4_code 148 = .ok (.getstatic 10, 3) := by decide +kernel
theorem d_prog_19_method_4_151 : decode prog_19_method_4_code 151 = .ok (.goto 6, 3) := by decide +kernel
theorem ef_rm_of_MANDATORY_1 (m : MethodId) (x0 : Addr) (x1 : Int32) : entryFrame m #[(.ref x0), (.int x1)] 3 = mkF m 0 #[.val (.ref x0), .val (.int x1), .unset] [] := by first | (simp [entryFrame, mkF, argsToLocals, Value.category]; done) | rfl
theorem ef_rm_of_MANDATORY_0 (m : MethodId) (x0 : Addr) (x1 : Int32) : entryFrame m #[(.ref x0), (.int x1)] 3 = mkF m 0 #[.val (.ref x0), .val (.int x1), .unset] [] := by first | (simp [entryFrame, mkF, argsToLocals, Value.category]; done) | rfl
theorem d_prog_19_method_4_154 : decode prog_19_method_4_code 154 = .ok (.getstatic 13, 3) := by decide +kernel
theorem ef_rm_of_REQUIRES_NEW_1 (m : MethodId) (x0 : Addr) (x1 : Int32) : entryFrame m #[(.ref x0), (.int x1)] 3 = mkF m 0 #[.val (.ref x0), .val (.int x1), .unset] [] := by first | (simp [entryFrame, mkF, argsToLocals, Value.category]; done) | rfl
theorem d_prog_19_method_4_68 : decode prog_19_method_4_code 68 = .ok (.getstatic 7, 3) := by decide +kernel
theorem d_prog_19_method_4_71 : decode prog_19_method_4_code 71 = .ok (.goto 12, 3) := by decide +kernel
theorem ef_rm_of_REQUIRES_NEW_0 (m : MethodId) (x0 : Addr) (x1 : Int32) : entryFrame m #[(.ref x0), (.int x1)] 3 = mkF m 0 #[.val (.ref x0), .val (.int x1), .unset] [] := by first | (simp [entryFrame, mkF, argsToLocals, Value.category]; done) | rfl
theorem ef_rm_of_SUPPORTS_1 (m : MethodId) (x0 : Addr) (x1 : Int32) : entryFrame m #[(.ref x0), (.int x1)] 3 = mkF m 0 #[.val (.ref x0), .val (.int x1), .unset] [] := by first | (simp [entryFrame, mkF, argsToLocals, Value.category]; done) | rfl
theorem ef_rm_of_SUPPORTS_0 (m : MethodId) (x0 : Addr) (x1 : Int32) : entryFrame m #[(.ref x0), (.int x1)] 3 = mkF m 0 #[.val (.ref x0), .val (.int x1), .unset] [] := by first | (simp [entryFrame, mkF, argsToLocals, Value.category]; done) | rfl
theorem ef_rm_of_NOT_SUPPORTED_1 (m : MethodId) (x0 : Addr) (x1 : Int32) : entryFrame m #[(.ref x0), (.int x1)] 3 = mkF m 0 #[.val (.ref x0), .val (.int x1), .unset] [] := by first | (simp [entryFrame, mkF, argsToLocals, Value.category]; done) | rfl
theorem d_prog_19_method_4_74 : decode prog_19_method_4_code 74 = .ok (.getstatic 10, 3) := by decide +kernel
theorem d_prog_19_method_4_77 : decode prog_19_method_4_code 77 = .ok (.goto 6, 3) := by decide +kernel
theorem ef_rm_of_NOT_SUPPORTED_0 (m : MethodId) (x0 : Addr) (x1 : Int32) : entryFrame m #[(.ref x0), (.int x1)] 3 = mkF m 0 #[.val (.ref x0), .val (.int x1), .unset] [] := by first | (simp [entryFrame, mkF, argsToLocals, Value.category]; done) | rfl
theorem ef_rm0 (m : MethodId) (x0 : Int32) (x1 : Int32) : entryFrame m #[(.int x0), (.int x1)] maxLocals = mkF m 0 #[.val (.int x0), .val (.int x1), .unset, .unset, .unset, .unset, .unset, .unset] [] := by first | (simp [entryFrame, mkF, argsToLocals, Value.category, maxLocals]; done) | rfl
theorem pd_1 : parseMethodDescriptor "(Lcom/example/demarc/demarc/TransactionAttributeType;Z)Lcom/example/demarc/demarc/Placement;" = some ⟨[(.object "com/example/demarc/demarc/TransactionAttributeType"), .boolean], some (.object "com/example/demarc/demarc/Placement")⟩ := by decide +kernel
theorem pn_2 : plainName "com/example/demarc/demarc/PlacementOfPinLaw" = true := by first | (simp [plainName, overriddenIn]; done) | decide +kernel
def SB (Z : State) (a_REQUIRED : Addr) (a_NEVER : Addr) (a_JOIN : Addr) (a__SwitchMap_com_example_demarc_demarc_TransactionAttributeType : Addr) (a_MANDATORY : Addr) (a_REQUIRES_NEW : Addr) (a_REFUSED : Addr) (a_SUPPORTS : Addr) (a_NONE : Addr) (a_NEW : Addr) (a_NOT_SUPPORTED : Addr) (k_a__SwitchMap_com_example_demarc_demarc_TransactionAttributeType : ClassId) : Prop := (Exa Z Z.heap a_REQUIRED "com/example/demarc/demarc/TransactionAttributeType") ∧ (Sta Z Z.heap "com/example/demarc/demarc/TransactionAttributeType" "REQUIRED" "Lcom/example/demarc/demarc/TransactionAttributeType;" (.ref a_REQUIRED)) ∧ (Exa Z Z.heap a_NEVER "com/example/demarc/demarc/TransactionAttributeType") ∧ (Sta Z Z.heap "com/example/demarc/demarc/TransactionAttributeType" "NEVER" "Lcom/example/demarc/demarc/TransactionAttributeType;" (.ref a_NEVER)) ∧ (Fld Z Z.heap a_REQUIRED "java/lang/Enum" "ordinal" "I" (.int (0 : Int32))) ∧ (Fld Z Z.heap a_NEVER "java/lang/Enum" "ordinal" "I" (.int (5 : Int32))) ∧ (Exa Z Z.heap a_JOIN "com/example/demarc/demarc/Placement") ∧ (Sta Z Z.heap "com/example/demarc/demarc/Placement" "JOIN" "Lcom/example/demarc/demarc/Placement;" (.ref a_JOIN)) ∧ (Sta Z Z.heap "com/example/demarc/demarc/Placement$1" "$SwitchMap$com$example$demarc$demarc$TransactionAttributeType" "[I" (.ref a__SwitchMap_com_example_demarc_demarc_TransactionAttributeType)) ∧ (Exa Z Z.heap a_MANDATORY "com/example/demarc/demarc/TransactionAttributeType") ∧ (Sta Z Z.heap "com/example/demarc/demarc/TransactionAttributeType" "MANDATORY" "Lcom/example/demarc/demarc/TransactionAttributeType;" (.ref a_MANDATORY)) ∧ (Fld Z Z.heap a_MANDATORY "java/lang/Enum" "ordinal" "I" (.int (2 : Int32))) ∧ (Exa Z Z.heap a_REQUIRES_NEW "com/example/demarc/demarc/TransactionAttributeType") ∧ (Sta Z Z.heap "com/example/demarc/demarc/TransactionAttributeType" "REQUIRES_NEW" "Lcom/example/demarc/demarc/TransactionAttributeType;" (.ref a_REQUIRES_NEW)) ∧ (Fld Z Z.heap a_REQUIRES_NEW "java/lang/Enum" "ordinal" "I" (.int (1 : Int32))) ∧ (Exa Z Z.heap a_REFUSED "com/example/demarc/demarc/Placement") ∧ (Sta Z Z.heap "com/example/demarc/demarc/Placement" "REFUSED" "Lcom/example/demarc/demarc/Placement;" (.ref a_REFUSED)) ∧ (Exa Z Z.heap a_SUPPORTS "com/example/demarc/demarc/TransactionAttributeType") ∧ (Sta Z Z.heap "com/example/demarc/demarc/TransactionAttributeType" "SUPPORTS" "Lcom/example/demarc/demarc/TransactionAttributeType;" (.ref a_SUPPORTS)) ∧ (Fld Z Z.heap a_SUPPORTS "java/lang/Enum" "ordinal" "I" (.int (4 : Int32))) ∧ (Exa Z Z.heap a_NONE "com/example/demarc/demarc/Placement") ∧ (Sta Z Z.heap "com/example/demarc/demarc/Placement" "NONE" "Lcom/example/demarc/demarc/Placement;" (.ref a_NONE)) ∧ (Exa Z Z.heap a_NEW "com/example/demarc/demarc/Placement") ∧ (Sta Z Z.heap "com/example/demarc/demarc/Placement" "NEW" "Lcom/example/demarc/demarc/Placement;" (.ref a_NEW)) ∧ (Exa Z Z.heap a_NOT_SUPPORTED "com/example/demarc/demarc/TransactionAttributeType") ∧ (Sta Z Z.heap "com/example/demarc/demarc/TransactionAttributeType" "NOT_SUPPORTED" "Lcom/example/demarc/demarc/TransactionAttributeType;" (.ref a_NOT_SUPPORTED)) ∧ (Fld Z Z.heap a_NOT_SUPPORTED "java/lang/Enum" "ordinal" "I" (.int (3 : Int32))) ∧ (Arv Z Z.heap a__SwitchMap_com_example_demarc_demarc_TransactionAttributeType k_a__SwitchMap_com_example_demarc_demarc_TransactionAttributeType .int (6 : Int32) [(.int (1 : Int32)), (.int (4 : Int32)), (.int (2 : Int32)), (.int (5 : Int32)), (.int (3 : Int32)), (.int (6 : Int32))] (.int (0 : Int32)))
def QI (r : Int32) (h0 : Heap) (n0 : Nat) (v : Option Value) (h : Heap) (L : List Loc) : Prop := v = some (.int r) ∧ Fr n0 L ∧ h = h0
def QR (r : Addr) (h0 : Heap) (n0 : Nat) (v : Option Value) (h : Heap) (L : List Loc) : Prop := v = some (.ref r) ∧ Fr n0 L ∧ h = h0
def Q0 (n0 : Nat) (v : Option Value) (h : Heap) (L : List Loc) : Prop := v = some (.int 1) ∧ Fr n0 L
set_option maxRecDepth 65536 in
set_option maxHeartbeats 40000000 in
theorem rm_ord (l : Launch) (Z : State) (a0 : Array Value) (hw : ∀ d ∈ tables_1, d.before a0 Z = true) (ws : List Jvm.Cond) (a1 : Addr) (w1 : Int32) (h0 : Heap) (n0 : Nat) (F1 : Fld Z h0 a1 "java/lang/Enum" "ordinal" "I" (.int w1)) :
    MetFree l (⟨"java/lang/Enum", "ordinal", "()I"⟩ : MethodName) (head1 (Jvm.Cond.code (⟨"java/lang/Enum", "ordinal", "()I"⟩ : MethodName) jdk_37_method_2_code 1 (some .int) :: ws) ({ frames := 0, cells := 0, slots := 0, locals := 0 } : Room)) (fun a U => a = #[(.ref a1)] ∧ Z.Warmed39 U.vm ∧ U.heap = h0) (fun _ _ _ _ _ => True) (fun _ U o U' => ∃ v L, o = .returned v ∧ QI w1 h0 n0 v U'.heap L ∧ FrameEnd U o U' L ({ frames := 0, cells := 0, slots := 0, locals := 0 } : Room).cells ({ frames := 0, cells := 0, slots := 0, locals := 0 } : Room).slots) := by
  refine MetFree.of_bodySF (plainFor_of_name pn_0) hisR ?_
  intro p e s m args below meth c s₁ Bd hml0 hP hK
  obtain ⟨rfl, hZ, hh⟩ := hP
  have hx := Bd.exec
  have hby := Bd.bytes
  have hml : c.maxLocals = 1 := hml0
  have hown : s.vm.findClass "java/lang/Enum" = some m.cls := findClass_of_methodNamed Bd.named
  have hnm := (name_of_methodNamed Bd.named Bd.method).1
  have X0 : Stand p l e ({ frames := 0, cells := 0, slots := 0, locals := 0 } : Room) s m #[(.ref a1)] below meth c s₁ [] 0 0 := Stand.of_body Bd
  have e0 : s₁.heap = h0 := by rw [← hh, Bd.state]; rfl
  have N0 := Fr.nil n0
  have pre0 : ∀ t, Steps p.tables e below (s₁.setTop (mkF m 0 #[.val (.ref a1)] [])) t → Steps p.tables e below (s₁.setTop (entryFrame m #[(.ref a1)] 1)) t := fun t k => castTop (ef_rm_ord m (a1)) k
  obtain ⟨T1, X1, e1, st1⟩ := getF X0 hx hZ hown (host := "") (Or.inl (hw _ (List.mem_of_getElem? (i := 22) rfl))) Via.refl e0 F1 (g := (mkF m 1 #[.val (.ref a1)] [(.ref a1)])) rfl rfl (hb hby d_jdk_37_method_2_1)
  obtain ⟨fs, hr, hrun, hended, hW, hsame⟩ := X1.leave (v := (some (.int w1))) (fun h => by rw [Bd.returns] at h; cases h)
  refine ⟨_, _, pre0 _ ?_, hrun, hended, _, _, rfl, ?_, ⟨_, rfl⟩, hW, hsame.mono (by decide) (by decide)⟩
  · refine XS.aloadN X0.here hx rfl (hb hby d_jdk_37_method_2_0) rfl rfl ?_
    show Steps p.tables e below (s₁.setTop (mkF m 1 #[.val (.ref a1)] [(.ref a1)])) _
    refine st1 _ ?_
    show Steps p.tables e below (T1.setTop (mkF m 4 #[.val (.ref a1)] [(.int w1)])) _
    exact retI X1 hx Bd.returns (hb hby d_jdk_37_method_2_4) hr
  · show QI w1 h0 n0 _ T1.heap _
    rw [e1]
    exact ⟨rfl, N0, rfl⟩
set_option maxRecDepth 65536 in
set_option maxHeartbeats 40000000 in
theorem rm_of_REQUIRED_1 (l : Launch) (Z : State) (a0 : Array Value) (hw : ∀ d ∈ tables_1, d.before a0 Z = true) (ws : List Jvm.Cond) (a_REQUIRED : Addr) (a_NEVER : Addr) (a_JOIN : Addr) (a__SwitchMap_com_example_demarc_demarc_TransactionAttributeType : Addr) (a_MANDATORY : Addr) (a_REQUIRES_NEW : Addr) (a_REFUSED : Addr) (a_SUPPORTS : Addr) (a_NONE : Addr) (a_NEW : Addr) (a_NOT_SUPPORTED : Addr) (k_a__SwitchMap_com_example_demarc_demarc_TransactionAttributeType : ClassId) (hS : SB Z a_REQUIRED a_NEVER a_JOIN a__SwitchMap_com_example_demarc_demarc_TransactionAttributeType a_MANDATORY a_REQUIRES_NEW a_REFUSED a_SUPPORTS a_NONE a_NEW a_NOT_SUPPORTED k_a__SwitchMap_com_example_demarc_demarc_TransactionAttributeType) (h0 : Heap) (n0 : Nat) (O0 : Old Z n0 h0) :
    MetFree l (⟨"com/example/demarc/demarc/Placement", "of", "(Lcom/example/demarc/demarc/TransactionAttributeType;Z)Lcom/example/demarc/demarc/Placement;"⟩ : MethodName) (head1 (Jvm.Cond.code (⟨"com/example/demarc/demarc/Placement", "of", "(Lcom/example/demarc/demarc/TransactionAttributeType;Z)Lcom/example/demarc/demarc/Placement;"⟩ : MethodName) prog_19_method_4_code 3 (some (.object "com/example/demarc/demarc/Placement")) :: ws) ({ frames := 1, cells := 0, slots := 0, locals := 13 } : Room)) (fun a U => a = #[(.ref a_REQUIRED), (.int (1 : Int32))] ∧ Z.Warmed39 U.vm ∧ U.heap = h0) (fun _ _ _ _ _ => True) (fun _ U o U' => ∃ v L, o = .returned v ∧ QR a_JOIN h0 n0 v U'.heap L ∧ FrameEnd U o U' L ({ frames := 1, cells := 0, slots := 0, locals := 13 } : Room).cells ({ frames := 1, cells := 0, slots := 0, locals := 13 } : Room).slots) := by
  refine MetFree.of_bodySF (plainFor_of_name pn_1) hisR ?_
  intro p e s m args below meth c s₁ Bd hml0 hP hK
  obtain ⟨rfl, hZ, hh⟩ := hP
  have hx := Bd.exec
  have hby := Bd.bytes
  have hml : c.maxLocals = 3 := hml0
  have hown : s.vm.findClass "com/example/demarc/demarc/Placement" = some m.cls := findClass_of_methodNamed Bd.named
  have hnm := (name_of_methodNamed Bd.named Bd.method).1
  have X0 : Stand p l e ({ frames := 1, cells := 0, slots := 0, locals := 13 } : Room) s m #[(.ref a_REQUIRED), (.int (1 : Int32))] below meth c s₁ [] 0 0 := Stand.of_body Bd
  have e0 : s₁.heap = h0 := by rw [← hh, Bd.state]; rfl
  have N0 := Fr.nil n0
  have pre0 : ∀ t, Steps p.tables e below (s₁.setTop (mkF m 0 #[.val (.ref a_REQUIRED), .val (.int (1 : Int32)), .unset] [])) t → Steps p.tables e below (s₁.setTop (entryFrame m #[(.ref a_REQUIRED), (.int (1 : Int32))] 3)) t := fun t k => castTop (ef_rm_of_REQUIRED_1 m (a_REQUIRED) ((1 : Int32))) k
  obtain ⟨T1, X1, e1, st1⟩ := getS2 X0 hx hZ hown (host := "") (Or.inl (hw _ (List.mem_of_getElem? (i := 12) rfl))) Via.refl e0 (hS.2.2.2.2.2.2.2.2.1.ext O0.2) (g := (mkF m 4 #[.val (.ref a_REQUIRED), .val (.int (1 : Int32)), .unset] [])) rfl (hb hby d_prog_19_method_4_4)
  obtain ⟨cq2, kq2, q2a, q2b, q2c⟩ := isOf hZ e1 ((hS.1.ext O0.2))
  obtain ⟨_, _, ⟨T2, L2, k2, n2⟩, -, X2, ⟨Lc2, hQ2, l2, y2, z2⟩, st2⟩ := X1.virtualBackUp hx (x := (⟨"com/example/demarc/demarc/TransactionAttributeType", "ordinal", "()I"⟩ : MethodName)) (y := (⟨"java/lang/Enum", "ordinal", "()I"⟩ : MethodName)) (owner := "java/lang/Enum") hown (mvT hZ (hw _ (List.mem_of_getElem? (i := 15) rfl))) (mvT hZ (hw _ (List.mem_of_getElem? (i := 16) rfl))) (mvT hZ (hw _ (List.mem_of_getElem? (i := 17) rfl))) (by decide) (mvT hZ (hw _ (List.mem_of_getElem? (i := 19) rfl))) (mvT hZ (hw _ (List.mem_of_getElem? (i := 18) rfl))) (backOf (W := 1) (rm_ord l Z a0 hw [] a_REQUIRED (0 : Int32) h0 n0 (hS.2.2.2.2.1.ext O0.2)) hZ (hw _ (List.mem_of_getElem? (i := 21) rfl)) (hw _ (List.mem_of_getElem? (i := 20) rfl)) (by decide) (by decide)) q2a q2c (g := (mkF m 8 #[.val (.ref a_REQUIRED), .val (.int (1 : Int32)), .unset] [(.ref a_REQUIRED), (.ref a__SwitchMap_com_example_demarc_demarc_TransactionAttributeType)])) rfl (by rw [hml]; rfl) (Steps.refl _) (argsL := []) (rest := [(.ref a__SwitchMap_com_example_demarc_demarc_TransactionAttributeType)]) (lenOf pd_0 rfl) rfl (by show 2 * 0 + _ ≤ _; exact Nat.le_of_eq rfl) (hb hby d_prog_19_method_4_8) (fun _ _ => ⟨rfl, e1, (by decide : 0 + 0 ≤ _), (by decide : 0 + 0 ≤ _)⟩)
  dsimp only [Pt.U, Pt.locs, Pt.cells, Pt.slots] at X2 l2 y2 z2 st2 hQ2
  subst l2 y2 z2
  obtain ⟨rfl, N2q, e2⟩ := hQ2
  have N2 := Fr.app N0 N2q
  obtain ⟨c3, Ar3, q3, S3, M3, Hh3, G3⟩ := (id (hS.2.2.2.2.2.2.2.2.2.2.2.2.2.2.2.2.2.2.2.2.2.2.2.2.2.2.2.ext O0.2))
  have hin3 : ¬ ((0 : Int32) < 0 ∨ c3.slots.size ≤ ((0 : Int32)).toNatClampNeg) := inb_of S3 ⟨by decide, by decide⟩
  have hat3 : c3.slots[((0 : Int32)).toNatClampNeg]? = some (.int (1 : Int32)) := Hh3.at hin3 rfl
  obtain ⟨T4, X4, e4, st4⟩ := getS2 X2 hx hZ hown (host := "") (Or.inl (hw _ (List.mem_of_getElem? (i := 24) rfl))) Via.refl e2 (hS.2.2.2.2.2.2.2.1.ext O0.2) (g := (mkF m 62 #[.val (.ref a_REQUIRED), .val (.int (1 : Int32)), .unset] [])) rfl (hb hby d_prog_19_method_4_62)
  obtain ⟨fs, hr, hrun, hended, hW, hsame⟩ := X4.leave (v := (some (.ref a_JOIN))) (fun h => by rw [Bd.returns] at h; cases h)
  refine ⟨_, _, pre0 _ ?_, hrun, hended, _, _, rfl, ?_, ⟨_, rfl⟩, hW, hsame.mono (by decide) (by decide)⟩
  · refine XS.iloadN X0.here hx rfl (hb hby d_prog_19_method_4_0) rfl ?_
    show Steps p.tables e below (s₁.setTop (mkF m 1 #[.val (.ref a_REQUIRED), .val (.int (1 : Int32)), .unset] [(.int (1 : Int32))])) _
    refine XS.ifNo X0.here hx rfl (hb hby d_prog_19_method_4_1) rfl ((if0 _ _).trans (feq (by decide : ¬ ((1 : Int32) = (0 : Int32)))).1) ?_
    show Steps p.tables e below (s₁.setTop (mkF m 4 #[.val (.ref a_REQUIRED), .val (.int (1 : Int32)), .unset] [])) _
    refine st1 _ ?_
    show Steps p.tables e below (T1.setTop (mkF m 7 #[.val (.ref a_REQUIRED), .val (.int (1 : Int32)), .unset] [(.ref a__SwitchMap_com_example_demarc_demarc_TransactionAttributeType)])) _
    refine XS.aloadN X1.here hx rfl (hb hby d_prog_19_method_4_7) rfl rfl ?_
    show Steps p.tables e below (T1.setTop (mkF m 8 #[.val (.ref a_REQUIRED), .val (.int (1 : Int32)), .unset] [(.ref a_REQUIRED), (.ref a__SwitchMap_com_example_demarc_demarc_TransactionAttributeType)])) _
    refine st2.trans ?_
    show Steps p.tables e below (T2.setTop (mkF m 11 #[.val (.ref a_REQUIRED), .val (.int (1 : Int32)), .unset] [(.int (0 : Int32)), (.ref a__SwitchMap_com_example_demarc_demarc_TransactionAttributeType)])) _
    refine X2.iaload hx (j := (0 : Int32)) (v := (.int (1 : Int32))) (by rw [e2]; exact Ar3.1) (State.isArrayOf_alike hZ.alike Ar3.2.1) Ar3.2.2 hin3 hat3 (g := (mkF m 11 #[.val (.ref a_REQUIRED), .val (.int (1 : Int32)), .unset] [(.int (0 : Int32)), (.ref a__SwitchMap_com_example_demarc_demarc_TransactionAttributeType)])) rfl rfl (hb hby d_prog_19_method_4_11) _ ?_
    show Steps p.tables e below (T2.setTop (mkF m 12 #[.val (.ref a_REQUIRED), .val (.int (1 : Int32)), .unset] [(.int (1 : Int32))])) _
    refine XS.tswIn X2.here hx rfl (pc0 := 12) (pc' := 62) rfl (hb hby d_prog_19_method_4_12) rfl (by decide) (o := 50) rfl (by decide) (by decide) ?_
    show Steps p.tables e below (T2.setTop (mkF m 62 #[.val (.ref a_REQUIRED), .val (.int (1 : Int32)), .unset] [])) _
    refine st4 _ ?_
    show Steps p.tables e below (T4.setTop (mkF m 65 #[.val (.ref a_REQUIRED), .val (.int (1 : Int32)), .unset] [(.ref a_JOIN)])) _
    refine XS.goto X4.here hx rfl (pc0 := 65) (pc' := 83) rfl (hb hby d_prog_19_method_4_65) (by decide) (by decide) ?_
    show Steps p.tables e below (T4.setTop (mkF m 83 #[.val (.ref a_REQUIRED), .val (.int (1 : Int32)), .unset] [(.ref a_JOIN)])) _
    refine XS.astoreN X4.here hx rfl (hb hby d_prog_19_method_4_83) rfl rfl (l' := #[.val (.ref a_REQUIRED), .val (.int (1 : Int32)), .val (.ref a_JOIN)]) rfl ?_
    show Steps p.tables e below (T4.setTop (mkF m 84 #[.val (.ref a_REQUIRED), .val (.int (1 : Int32)), .val (.ref a_JOIN)] [])) _
    refine XS.goto X4.here hx rfl (pc0 := 84) (pc' := 158) rfl (hb hby d_prog_19_method_4_84) (by decide) (by decide) ?_
    show Steps p.tables e below (T4.setTop (mkF m 158 #[.val (.ref a_REQUIRED), .val (.int (1 : Int32)), .val (.ref a_JOIN)] [])) _
    refine XS.aloadN X4.here hx rfl (hb hby d_prog_19_method_4_158) rfl rfl ?_
    show Steps p.tables e below (T4.setTop (mkF m 159 #[.val (.ref a_REQUIRED), .val (.int (1 : Int32)), .val (.ref a_JOIN)] [(.ref a_JOIN)])) _
    exact retOut X4 hx Bd.returns rfl (Or.inr (Or.inr (Or.inr (Or.inr ⟨rfl, rfl, rfl⟩)))) (hb hby d_prog_19_method_4_159) hr
  · show QR a_JOIN h0 n0 _ T4.heap _
    rw [e4]
    exact ⟨rfl, N2, rfl⟩
set_option maxRecDepth 65536 in
set_option maxHeartbeats 40000000 in
theorem rm_of_REQUIRED_0 (l : Launch) (Z : State) (a0 : Array Value) (hw : ∀ d ∈ tables_1, d.before a0 Z = true) (ws : List Jvm.Cond) (a_REQUIRED : Addr) (a_NEVER : Addr) (a_JOIN : Addr) (a__SwitchMap_com_example_demarc_demarc_TransactionAttributeType : Addr) (a_MANDATORY : Addr) (a_REQUIRES_NEW : Addr) (a_REFUSED : Addr) (a_SUPPORTS : Addr) (a_NONE : Addr) (a_NEW : Addr) (a_NOT_SUPPORTED : Addr) (k_a__SwitchMap_com_example_demarc_demarc_TransactionAttributeType : ClassId) (hS : SB Z a_REQUIRED a_NEVER a_JOIN a__SwitchMap_com_example_demarc_demarc_TransactionAttributeType a_MANDATORY a_REQUIRES_NEW a_REFUSED a_SUPPORTS a_NONE a_NEW a_NOT_SUPPORTED k_a__SwitchMap_com_example_demarc_demarc_TransactionAttributeType) (h0 : Heap) (n0 : Nat) (O0 : Old Z n0 h0) :
    MetFree l (⟨"com/example/demarc/demarc/Placement", "of", "(Lcom/example/demarc/demarc/TransactionAttributeType;Z)Lcom/example/demarc/demarc/Placement;"⟩ : MethodName) (head1 (Jvm.Cond.code (⟨"com/example/demarc/demarc/Placement", "of", "(Lcom/example/demarc/demarc/TransactionAttributeType;Z)Lcom/example/demarc/demarc/Placement;"⟩ : MethodName) prog_19_method_4_code 3 (some (.object "com/example/demarc/demarc/Placement")) :: ws) ({ frames := 1, cells := 0, slots := 0, locals := 13 } : Room)) (fun a U => a = #[(.ref a_REQUIRED), (.int (0 : Int32))] ∧ Z.Warmed39 U.vm ∧ U.heap = h0) (fun _ _ _ _ _ => True) (fun _ U o U' => ∃ v L, o = .returned v ∧ QR a_NEW h0 n0 v U'.heap L ∧ FrameEnd U o U' L ({ frames := 1, cells := 0, slots := 0, locals := 13 } : Room).cells ({ frames := 1, cells := 0, slots := 0, locals := 13 } : Room).slots) := by
  refine MetFree.of_bodySF (plainFor_of_name pn_1) hisR ?_
  intro p e s m args below meth c s₁ Bd hml0 hP hK
  obtain ⟨rfl, hZ, hh⟩ := hP
  have hx := Bd.exec
  have hby := Bd.bytes
  have hml : c.maxLocals = 3 := hml0
  have hown : s.vm.findClass "com/example/demarc/demarc/Placement" = some m.cls := findClass_of_methodNamed Bd.named
  have hnm := (name_of_methodNamed Bd.named Bd.method).1
  have X0 : Stand p l e ({ frames := 1, cells := 0, slots := 0, locals := 13 } : Room) s m #[(.ref a_REQUIRED), (.int (0 : Int32))] below meth c s₁ [] 0 0 := Stand.of_body Bd
  have e0 : s₁.heap = h0 := by rw [← hh, Bd.state]; rfl
  have N0 := Fr.nil n0
  have pre0 : ∀ t, Steps p.tables e below (s₁.setTop (mkF m 0 #[.val (.ref a_REQUIRED), .val (.int (0 : Int32)), .unset] [])) t → Steps p.tables e below (s₁.setTop (entryFrame m #[(.ref a_REQUIRED), (.int (0 : Int32))] 3)) t := fun t k => castTop (ef_rm_of_REQUIRED_0 m (a_REQUIRED) ((0 : Int32))) k
  obtain ⟨T1, X1, e1, st1⟩ := getS2 X0 hx hZ hown (host := "") (Or.inl (hw _ (List.mem_of_getElem? (i := 12) rfl))) Via.refl e0 (hS.2.2.2.2.2.2.2.2.1.ext O0.2) (g := (mkF m 87 #[.val (.ref a_REQUIRED), .val (.int (0 : Int32)), .unset] [])) rfl (hb hby d_prog_19_method_4_87)
  obtain ⟨cq2, kq2, q2a, q2b, q2c⟩ := isOf hZ e1 ((hS.1.ext O0.2))
  obtain ⟨_, _, ⟨T2, L2, k2, n2⟩, -, X2, ⟨Lc2, hQ2, l2, y2, z2⟩, st2⟩ := X1.virtualBackUp hx (x := (⟨"com/example/demarc/demarc/TransactionAttributeType", "ordinal", "()I"⟩ : MethodName)) (y := (⟨"java/lang/Enum", "ordinal", "()I"⟩ : MethodName)) (owner := "java/lang/Enum") hown (mvT hZ (hw _ (List.mem_of_getElem? (i := 15) rfl))) (mvT hZ (hw _ (List.mem_of_getElem? (i := 16) rfl))) (mvT hZ (hw _ (List.mem_of_getElem? (i := 17) rfl))) (by decide) (mvT hZ (hw _ (List.mem_of_getElem? (i := 19) rfl))) (mvT hZ (hw _ (List.mem_of_getElem? (i := 18) rfl))) (backOf (W := 1) (rm_ord l Z a0 hw [] a_REQUIRED (0 : Int32) h0 n0 (hS.2.2.2.2.1.ext O0.2)) hZ (hw _ (List.mem_of_getElem? (i := 21) rfl)) (hw _ (List.mem_of_getElem? (i := 20) rfl)) (by decide) (by decide)) q2a q2c (g := (mkF m 91 #[.val (.ref a_REQUIRED), .val (.int (0 : Int32)), .unset] [(.ref a_REQUIRED), (.ref a__SwitchMap_com_example_demarc_demarc_TransactionAttributeType)])) rfl (by rw [hml]; rfl) (Steps.refl _) (argsL := []) (rest := [(.ref a__SwitchMap_com_example_demarc_demarc_TransactionAttributeType)]) (lenOf pd_0 rfl) rfl (by show 2 * 0 + _ ≤ _; exact Nat.le_of_eq rfl) (hb hby d_prog_19_method_4_91) (fun _ _ => ⟨rfl, e1, (by decide : 0 + 0 ≤ _), (by decide : 0 + 0 ≤ _)⟩)
  dsimp only [Pt.U, Pt.locs, Pt.cells, Pt.slots] at X2 l2 y2 z2 st2 hQ2
  subst l2 y2 z2
  obtain ⟨rfl, N2q, e2⟩ := hQ2
  have N2 := Fr.app N0 N2q
  obtain ⟨c3, Ar3, q3, S3, M3, Hh3, G3⟩ := (id (hS.2.2.2.2.2.2.2.2.2.2.2.2.2.2.2.2.2.2.2.2.2.2.2.2.2.2.2.ext O0.2))
  have hin3 : ¬ ((0 : Int32) < 0 ∨ c3.slots.size ≤ ((0 : Int32)).toNatClampNeg) := inb_of S3 ⟨by decide, by decide⟩
  have hat3 : c3.slots[((0 : Int32)).toNatClampNeg]? = some (.int (1 : Int32)) := Hh3.at hin3 rfl
  obtain ⟨T4, X4, e4, st4⟩ := getS2 X2 hx hZ hown (host := "") (Or.inl (hw _ (List.mem_of_getElem? (i := 39) rfl))) Via.refl e2 (hS.2.2.2.2.2.2.2.2.2.2.2.2.2.2.2.2.2.2.2.2.2.2.2.1.ext O0.2) (g := (mkF m 142 #[.val (.ref a_REQUIRED), .val (.int (0 : Int32)), .unset] [])) rfl (hb hby d_prog_19_method_4_142)
  obtain ⟨fs, hr, hrun, hended, hW, hsame⟩ := X4.leave (v := (some (.ref a_NEW))) (fun h => by rw [Bd.returns] at h; cases h)
  refine ⟨_, _, pre0 _ ?_, hrun, hended, _, _, rfl, ?_, ⟨_, rfl⟩, hW, hsame.mono (by decide) (by decide)⟩
  · refine XS.iloadN X0.here hx rfl (hb hby d_prog_19_method_4_0) rfl ?_
    show Steps p.tables e below (s₁.setTop (mkF m 1 #[.val (.ref a_REQUIRED), .val (.int (0 : Int32)), .unset] [(.int (0 : Int32))])) _
    refine XS.ifYes X0.here hx rfl (pc0 := 1) (pc' := 87) rfl (hb hby d_prog_19_method_4_1) rfl ((if0 _ _).trans (teq (by decide : (0 : Int32) = (0 : Int32))).1) (by decide) (by decide) ?_
    show Steps p.tables e below (s₁.setTop (mkF m 87 #[.val (.ref a_REQUIRED), .val (.int (0 : Int32)), .unset] [])) _
    refine st1 _ ?_
    show Steps p.tables e below (T1.setTop (mkF m 90 #[.val (.ref a_REQUIRED), .val (.int (0 : Int32)), .unset] [(.ref a__SwitchMap_com_example_demarc_demarc_TransactionAttributeType)])) _
    refine XS.aloadN X1.here hx rfl (hb hby d_prog_19_method_4_90) rfl rfl ?_
    show Steps p.tables e below (T1.setTop (mkF m 91 #[.val (.ref a_REQUIRED), .val (.int (0 : Int32)), .unset] [(.ref a_REQUIRED), (.ref a__SwitchMap_com_example_demarc_demarc_TransactionAttributeType)])) _
    refine st2.trans ?_
    show Steps p.tables e below (T2.setTop (mkF m 94 #[.val (.ref a_REQUIRED), .val (.int (0 : Int32)), .unset] [(.int (0 : Int32)), (.ref a__SwitchMap_com_example_demarc_demarc_TransactionAttributeType)])) _
    refine X2.iaload hx (j := (0 : Int32)) (v := (.int (1 : Int32))) (by rw [e2]; exact Ar3.1) (State.isArrayOf_alike hZ.alike Ar3.2.1) Ar3.2.2 hin3 hat3 (g := (mkF m 94 #[.val (.ref a_REQUIRED), .val (.int (0 : Int32)), .unset] [(.int (0 : Int32)), (.ref a__SwitchMap_com_example_demarc_demarc_TransactionAttributeType)])) rfl rfl (hb hby d_prog_19_method_4_94) _ ?_
    show Steps p.tables e below (T2.setTop (mkF m 95 #[.val (.ref a_REQUIRED), .val (.int (0 : Int32)), .unset] [(.int (1 : Int32))])) _
    refine XS.tswIn X2.here hx rfl (pc0 := 95) (pc' := 142) rfl (hb hby d_prog_19_method_4_95) rfl (by decide) (o := 47) rfl (by decide) (by decide) ?_
    show Steps p.tables e below (T2.setTop (mkF m 142 #[.val (.ref a_REQUIRED), .val (.int (0 : Int32)), .unset] [])) _
    refine st4 _ ?_
    show Steps p.tables e below (T4.setTop (mkF m 145 #[.val (.ref a_REQUIRED), .val (.int (0 : Int32)), .unset] [(.ref a_NEW)])) _
    refine XS.goto X4.here hx rfl (pc0 := 145) (pc' := 157) rfl (hb hby d_prog_19_method_4_145) (by decide) (by decide) ?_
    show Steps p.tables e below (T4.setTop (mkF m 157 #[.val (.ref a_REQUIRED), .val (.int (0 : Int32)), .unset] [(.ref a_NEW)])) _
    refine XS.astoreN X4.here hx rfl (hb hby d_prog_19_method_4_157) rfl rfl (l' := #[.val (.ref a_REQUIRED), .val (.int (0 : Int32)), .val (.ref a_NEW)]) rfl ?_
    show Steps p.tables e below (T4.setTop (mkF m 158 #[.val (.ref a_REQUIRED), .val (.int (0 : Int32)), .val (.ref a_NEW)] [])) _
    refine XS.aloadN X4.here hx rfl (hb hby d_prog_19_method_4_158) rfl rfl ?_
    show Steps p.tables e below (T4.setTop (mkF m 159 #[.val (.ref a_REQUIRED), .val (.int (0 : Int32)), .val (.ref a_NEW)] [(.ref a_NEW)])) _
    exact retOut X4 hx Bd.returns rfl (Or.inr (Or.inr (Or.inr (Or.inr ⟨rfl, rfl, rfl⟩)))) (hb hby d_prog_19_method_4_159) hr
  · show QR a_NEW h0 n0 _ T4.heap _
    rw [e4]
    exact ⟨rfl, N2, rfl⟩
set_option maxRecDepth 65536 in
set_option maxHeartbeats 40000000 in
theorem rm_of_NEVER_1 (l : Launch) (Z : State) (a0 : Array Value) (hw : ∀ d ∈ tables_1, d.before a0 Z = true) (ws : List Jvm.Cond) (a_REQUIRED : Addr) (a_NEVER : Addr) (a_JOIN : Addr) (a__SwitchMap_com_example_demarc_demarc_TransactionAttributeType : Addr) (a_MANDATORY : Addr) (a_REQUIRES_NEW : Addr) (a_REFUSED : Addr) (a_SUPPORTS : Addr) (a_NONE : Addr) (a_NEW : Addr) (a_NOT_SUPPORTED : Addr) (k_a__SwitchMap_com_example_demarc_demarc_TransactionAttributeType : ClassId) (hS : SB Z a_REQUIRED a_NEVER a_JOIN a__SwitchMap_com_example_demarc_demarc_TransactionAttributeType a_MANDATORY a_REQUIRES_NEW a_REFUSED a_SUPPORTS a_NONE a_NEW a_NOT_SUPPORTED k_a__SwitchMap_com_example_demarc_demarc_TransactionAttributeType) (h0 : Heap) (n0 : Nat) (O0 : Old Z n0 h0) :
    MetFree l (⟨"com/example/demarc/demarc/Placement", "of", "(Lcom/example/demarc/demarc/TransactionAttributeType;Z)Lcom/example/demarc/demarc/Placement;"⟩ : MethodName) (head1 (Jvm.Cond.code (⟨"com/example/demarc/demarc/Placement", "of", "(Lcom/example/demarc/demarc/TransactionAttributeType;Z)Lcom/example/demarc/demarc/Placement;"⟩ : MethodName) prog_19_method_4_code 3 (some (.object "com/example/demarc/demarc/Placement")) :: ws) ({ frames := 1, cells := 0, slots := 0, locals := 13 } : Room)) (fun a U => a = #[(.ref a_NEVER), (.int (1 : Int32))] ∧ Z.Warmed39 U.vm ∧ U.heap = h0) (fun _ _ _ _ _ => True) (fun _ U o U' => ∃ v L, o = .returned v ∧ QR a_REFUSED h0 n0 v U'.heap L ∧ FrameEnd U o U' L ({ frames := 1, cells := 0, slots := 0, locals := 13 } : Room).cells ({ frames := 1, cells := 0, slots := 0, locals := 13 } : Room).slots) := by
  refine MetFree.of_bodySF (plainFor_of_name pn_1) hisR ?_
  intro p e s m args below meth c s₁ Bd hml0 hP hK
  obtain ⟨rfl, hZ, hh⟩ := hP
  have hx := Bd.exec
  have hby := Bd.bytes
  have hml : c.maxLocals = 3 := hml0
  have hown : s.vm.findClass "com/example/demarc/demarc/Placement" = some m.cls := findClass_of_methodNamed Bd.named
  have hnm := (name_of_methodNamed Bd.named Bd.method).1
  have X0 : Stand p l e ({ frames := 1, cells := 0, slots := 0, locals := 13 } : Room) s m #[(.ref a_NEVER), (.int (1 : Int32))] below meth c s₁ [] 0 0 := Stand.of_body Bd
  have e0 : s₁.heap = h0 := by rw [← hh, Bd.state]; rfl
  have N0 := Fr.nil n0
  have pre0 : ∀ t, Steps p.tables e below (s₁.setTop (mkF m 0 #[.val (.ref a_NEVER), .val (.int (1 : Int32)), .unset] [])) t → Steps p.tables e below (s₁.setTop (entryFrame m #[(.ref a_NEVER), (.int (1 : Int32))] 3)) t := fun t k => castTop (ef_rm_of_NEVER_1 m (a_NEVER) ((1 : Int32))) k
  obtain ⟨T1, X1, e1, st1⟩ := getS2 X0 hx hZ hown (host := "") (Or.inl (hw _ (List.mem_of_getElem? (i := 12) rfl))) Via.refl e0 (hS.2.2.2.2.2.2.2.2.1.ext O0.2) (g := (mkF m 4 #[.val (.ref a_NEVER), .val (.int (1 : Int32)), .unset] [])) rfl (hb hby d_prog_19_method_4_4)
  obtain ⟨cq2, kq2, q2a, q2b, q2c⟩ := isOf hZ e1 ((hS.2.2.1.ext O0.2))
  obtain ⟨_, _, ⟨T2, L2, k2, n2⟩, -, X2, ⟨Lc2, hQ2, l2, y2, z2⟩, st2⟩ := X1.virtualBackUp hx (x := (⟨"com/example/demarc/demarc/TransactionAttributeType", "ordinal", "()I"⟩ : MethodName)) (y := (⟨"java/lang/Enum", "ordinal", "()I"⟩ : MethodName)) (owner := "java/lang/Enum") hown (mvT hZ (hw _ (List.mem_of_getElem? (i := 15) rfl))) (mvT hZ (hw _ (List.mem_of_getElem? (i := 16) rfl))) (mvT hZ (hw _ (List.mem_of_getElem? (i := 17) rfl))) (by decide) (mvT hZ (hw _ (List.mem_of_getElem? (i := 19) rfl))) (mvT hZ (hw _ (List.mem_of_getElem? (i := 18) rfl))) (backOf (W := 1) (rm_ord l Z a0 hw [] a_NEVER (5 : Int32) h0 n0 (hS.2.2.2.2.2.1.ext O0.2)) hZ (hw _ (List.mem_of_getElem? (i := 21) rfl)) (hw _ (List.mem_of_getElem? (i := 20) rfl)) (by decide) (by decide)) q2a q2c (g := (mkF m 8 #[.val (.ref a_NEVER), .val (.int (1 : Int32)), .unset] [(.ref a_NEVER), (.ref a__SwitchMap_com_example_demarc_demarc_TransactionAttributeType)])) rfl (by rw [hml]; rfl) (Steps.refl _) (argsL := []) (rest := [(.ref a__SwitchMap_com_example_demarc_demarc_TransactionAttributeType)]) (lenOf pd_0 rfl) rfl (by show 2 * 0 + _ ≤ _; exact Nat.le_of_eq rfl) (hb hby d_prog_19_method_4_8) (fun _ _ => ⟨rfl, e1, (by decide : 0 + 0 ≤ _), (by decide : 0 + 0 ≤ _)⟩)
  dsimp only [Pt.U, Pt.locs, Pt.cells, Pt.slots] at X2 l2 y2 z2 st2 hQ2
  subst l2 y2 z2
  obtain ⟨rfl, N2q, e2⟩ := hQ2
  have N2 := Fr.app N0 N2q
  obtain ⟨c3, Ar3, q3, S3, M3, Hh3, G3⟩ := (id (hS.2.2.2.2.2.2.2.2.2.2.2.2.2.2.2.2.2.2.2.2.2.2.2.2.2.2.2.ext O0.2))
  have hin3 : ¬ ((5 : Int32) < 0 ∨ c3.slots.size ≤ ((5 : Int32)).toNatClampNeg) := inb_of S3 ⟨by decide, by decide⟩
  have hat3 : c3.slots[((5 : Int32)).toNatClampNeg]? = some (.int (6 : Int32)) := Hh3.at hin3 rfl
  obtain ⟨T4, X4, e4, st4⟩ := getS2 X2 hx hZ hown (host := "") (Or.inl (hw _ (List.mem_of_getElem? (i := 31) rfl))) Via.refl e2 (hS.2.2.2.2.2.2.2.2.2.2.2.2.2.2.2.2.1.ext O0.2) (g := (mkF m 80 #[.val (.ref a_NEVER), .val (.int (1 : Int32)), .unset] [])) rfl (hb hby d_prog_19_method_4_80)
  obtain ⟨fs, hr, hrun, hended, hW, hsame⟩ := X4.leave (v := (some (.ref a_REFUSED))) (fun h => by rw [Bd.returns] at h; cases h)
  refine ⟨_, _, pre0 _ ?_, hrun, hended, _, _, rfl, ?_, ⟨_, rfl⟩, hW, hsame.mono (by decide) (by decide)⟩
  · refine XS.iloadN X0.here hx rfl (hb hby d_prog_19_method_4_0) rfl ?_
    show Steps p.tables e below (s₁.setTop (mkF m 1 #[.val (.ref a_NEVER), .val (.int (1 : Int32)), .unset] [(.int (1 : Int32))])) _
    refine XS.ifNo X0.here hx rfl (hb hby d_prog_19_method_4_1) rfl ((if0 _ _).trans (feq (by decide : ¬ ((1 : Int32) = (0 : Int32)))).1) ?_
    show Steps p.tables e below (s₁.setTop (mkF m 4 #[.val (.ref a_NEVER), .val (.int (1 : Int32)), .unset] [])) _
    refine st1 _ ?_
    show Steps p.tables e below (T1.setTop (mkF m 7 #[.val (.ref a_NEVER), .val (.int (1 : Int32)), .unset] [(.ref a__SwitchMap_com_example_demarc_demarc_TransactionAttributeType)])) _
    refine XS.aloadN X1.here hx rfl (hb hby d_prog_19_method_4_7) rfl rfl ?_
    show Steps p.tables e below (T1.setTop (mkF m 8 #[.val (.ref a_NEVER), .val (.int (1 : Int32)), .unset] [(.ref a_NEVER), (.ref a__SwitchMap_com_example_demarc_demarc_TransactionAttributeType)])) _
    refine st2.trans ?_
    show Steps p.tables e below (T2.setTop (mkF m 11 #[.val (.ref a_NEVER), .val (.int (1 : Int32)), .unset] [(.int (5 : Int32)), (.ref a__SwitchMap_com_example_demarc_demarc_TransactionAttributeType)])) _
    refine X2.iaload hx (j := (5 : Int32)) (v := (.int (6 : Int32))) (by rw [e2]; exact Ar3.1) (State.isArrayOf_alike hZ.alike Ar3.2.1) Ar3.2.2 hin3 hat3 (g := (mkF m 11 #[.val (.ref a_NEVER), .val (.int (1 : Int32)), .unset] [(.int (5 : Int32)), (.ref a__SwitchMap_com_example_demarc_demarc_TransactionAttributeType)])) rfl rfl (hb hby d_prog_19_method_4_11) _ ?_
    show Steps p.tables e below (T2.setTop (mkF m 12 #[.val (.ref a_NEVER), .val (.int (1 : Int32)), .unset] [(.int (6 : Int32))])) _
    refine XS.tswIn X2.here hx rfl (pc0 := 12) (pc' := 80) rfl (hb hby d_prog_19_method_4_12) rfl (by decide) (o := 68) rfl (by decide) (by decide) ?_
    show Steps p.tables e below (T2.setTop (mkF m 80 #[.val (.ref a_NEVER), .val (.int (1 : Int32)), .unset] [])) _
    refine st4 _ ?_
    show Steps p.tables e below (T4.setTop (mkF m 83 #[.val (.ref a_NEVER), .val (.int (1 : Int32)), .unset] [(.ref a_REFUSED)])) _
    refine XS.astoreN X4.here hx rfl (hb hby d_prog_19_method_4_83) rfl rfl (l' := #[.val (.ref a_NEVER), .val (.int (1 : Int32)), .val (.ref a_REFUSED)]) rfl ?_
    show Steps p.tables e below (T4.setTop (mkF m 84 #[.val (.ref a_NEVER), .val (.int (1 : Int32)), .val (.ref a_REFUSED)] [])) _
    refine XS.goto X4.here hx rfl (pc0 := 84) (pc' := 158) rfl (hb hby d_prog_19_method_4_84) (by decide) (by decide) ?_
    show Steps p.tables e below (T4.setTop (mkF m 158 #[.val (.ref a_NEVER), .val (.int (1 : Int32)), .val (.ref a_REFUSED)] [])) _
    refine XS.aloadN X4.here hx rfl (hb hby d_prog_19_method_4_158) rfl rfl ?_
    show Steps p.tables e below (T4.setTop (mkF m 159 #[.val (.ref a_NEVER), .val (.int (1 : Int32)), .val (.ref a_REFUSED)] [(.ref a_REFUSED)])) _
    exact retOut X4 hx Bd.returns rfl (Or.inr (Or.inr (Or.inr (Or.inr ⟨rfl, rfl, rfl⟩)))) (hb hby d_prog_19_method_4_159) hr
  · show QR a_REFUSED h0 n0 _ T4.heap _
    rw [e4]
    exact ⟨rfl, N2, rfl⟩
set_option maxRecDepth 65536 in
set_option maxHeartbeats 40000000 in
theorem rm_of_NEVER_0 (l : Launch) (Z : State) (a0 : Array Value) (hw : ∀ d ∈ tables_1, d.before a0 Z = true) (ws : List Jvm.Cond) (a_REQUIRED : Addr) (a_NEVER : Addr) (a_JOIN : Addr) (a__SwitchMap_com_example_demarc_demarc_TransactionAttributeType : Addr) (a_MANDATORY : Addr) (a_REQUIRES_NEW : Addr) (a_REFUSED : Addr) (a_SUPPORTS : Addr) (a_NONE : Addr) (a_NEW : Addr) (a_NOT_SUPPORTED : Addr) (k_a__SwitchMap_com_example_demarc_demarc_TransactionAttributeType : ClassId) (hS : SB Z a_REQUIRED a_NEVER a_JOIN a__SwitchMap_com_example_demarc_demarc_TransactionAttributeType a_MANDATORY a_REQUIRES_NEW a_REFUSED a_SUPPORTS a_NONE a_NEW a_NOT_SUPPORTED k_a__SwitchMap_com_example_demarc_demarc_TransactionAttributeType) (h0 : Heap) (n0 : Nat) (O0 : Old Z n0 h0) :
    MetFree l (⟨"com/example/demarc/demarc/Placement", "of", "(Lcom/example/demarc/demarc/TransactionAttributeType;Z)Lcom/example/demarc/demarc/Placement;"⟩ : MethodName) (head1 (Jvm.Cond.code (⟨"com/example/demarc/demarc/Placement", "of", "(Lcom/example/demarc/demarc/TransactionAttributeType;Z)Lcom/example/demarc/demarc/Placement;"⟩ : MethodName) prog_19_method_4_code 3 (some (.object "com/example/demarc/demarc/Placement")) :: ws) ({ frames := 1, cells := 0, slots := 0, locals := 13 } : Room)) (fun a U => a = #[(.ref a_NEVER), (.int (0 : Int32))] ∧ Z.Warmed39 U.vm ∧ U.heap = h0) (fun _ _ _ _ _ => True) (fun _ U o U' => ∃ v L, o = .returned v ∧ QR a_NONE h0 n0 v U'.heap L ∧ FrameEnd U o U' L ({ frames := 1, cells := 0, slots := 0, locals := 13 } : Room).cells ({ frames := 1, cells := 0, slots := 0, locals := 13 } : Room).slots) := by
  refine MetFree.of_bodySF (plainFor_of_name pn_1) hisR ?_
  intro p e s m args below meth c s₁ Bd hml0 hP hK
  obtain ⟨rfl, hZ, hh⟩ := hP
  have hx := Bd.exec
  have hby := Bd.bytes
  have hml : c.maxLocals = 3 := hml0
  have hown : s.vm.findClass "com/example/demarc/demarc/Placement" = some m.cls := findClass_of_methodNamed Bd.named
  have hnm := (name_of_methodNamed Bd.named Bd.method).1
  have X0 : Stand p l e ({ frames := 1, cells := 0, slots := 0, locals := 13 } : Room) s m #[(.ref a_NEVER), (.int (0 : Int32))] below meth c s₁ [] 0 0 := Stand.of_body Bd
  have e0 : s₁.heap = h0 := by rw [← hh, Bd.state]; rfl
  have N0 := Fr.nil n0
  have pre0 : ∀ t, Steps p.tables e below (s₁.setTop (mkF m 0 #[.val (.ref a_NEVER), .val (.int (0 : Int32)), .unset] [])) t → Steps p.tables e below (s₁.setTop (entryFrame m #[(.ref a_NEVER), (.int (0 : Int32))] 3)) t := fun t k => castTop (ef_rm_of_NEVER_0 m (a_NEVER) ((0 : Int32))) k
  obtain ⟨T1, X1, e1, st1⟩ := getS2 X0 hx hZ hown (host := "") (Or.inl (hw _ (List.mem_of_getElem? (i := 12) rfl))) Via.refl e0 (hS.2.2.2.2.2.2.2.2.1.ext O0.2) (g := (mkF m 87 #[.val (.ref a_NEVER), .val (.int (0 : Int32)), .unset] [])) rfl (hb hby d_prog_19_method_4_87)
  obtain ⟨cq2, kq2, q2a, q2b, q2c⟩ := isOf hZ e1 ((hS.2.2.1.ext O0.2))
  obtain ⟨_, _, ⟨T2, L2, k2, n2⟩, -, X2, ⟨Lc2, hQ2, l2, y2, z2⟩, st2⟩ := X1.virtualBackUp hx (x := (⟨"com/example/demarc/demarc/TransactionAttributeType", "ordinal", "()I"⟩ : MethodName)) (y := (⟨"java/lang/Enum", "ordinal", "()I"⟩ : MethodName)) (owner := "java/lang/Enum") hown (mvT hZ (hw _ (List.mem_of_getElem? (i := 15) rfl))) (mvT hZ (hw _ (List.mem_of_getElem? (i := 16) rfl))) (mvT hZ (hw _ (List.mem_of_getElem? (i := 17) rfl))) (by decide) (mvT hZ (hw _ (List.mem_of_getElem? (i := 19) rfl))) (mvT hZ (hw _ (List.mem_of_getElem? (i := 18) rfl))) (backOf (W := 1) (rm_ord l Z a0 hw [] a_NEVER (5 : Int32) h0 n0 (hS.2.2.2.2.2.1.ext O0.2)) hZ (hw _ (List.mem_of_getElem? (i := 21) rfl)) (hw _ (List.mem_of_getElem? (i := 20) rfl)) (by decide) (by decide)) q2a q2c (g := (mkF m 91 #[.val (.ref a_NEVER), .val (.int (0 : Int32)), .unset] [(.ref a_NEVER), (.ref a__SwitchMap_com_example_demarc_demarc_TransactionAttributeType)])) rfl (by rw [hml]; rfl) (Steps.refl _) (argsL := []) (rest := [(.ref a__SwitchMap_com_example_demarc_demarc_TransactionAttributeType)]) (lenOf pd_0 rfl) rfl (by show 2 * 0 + _ ≤ _; exact Nat.le_of_eq rfl) (hb hby d_prog_19_method_4_91) (fun _ _ => ⟨rfl, e1, (by decide : 0 + 0 ≤ _), (by decide : 0 + 0 ≤ _)⟩)
  dsimp only [Pt.U, Pt.locs, Pt.cells, Pt.slots] at X2 l2 y2 z2 st2 hQ2
  subst l2 y2 z2
  obtain ⟨rfl, N2q, e2⟩ := hQ2
  have N2 := Fr.app N0 N2q
  obtain ⟨c3, Ar3, q3, S3, M3, Hh3, G3⟩ := (id (hS.2.2.2.2.2.2.2.2.2.2.2.2.2.2.2.2.2.2.2.2.2.2.2.2.2.2.2.ext O0.2))
  have hin3 : ¬ ((5 : Int32) < 0 ∨ c3.slots.size ≤ ((5 : Int32)).toNatClampNeg) := inb_of S3 ⟨by decide, by decide⟩
  have hat3 : c3.slots[((5 : Int32)).toNatClampNeg]? = some (.int (6 : Int32)) := Hh3.at hin3 rfl
  obtain ⟨T4, X4, e4, st4⟩ := getS2 X2 hx hZ hown (host := "") (Or.inl (hw _ (List.mem_of_getElem? (i := 36) rfl))) Via.refl e2 (hS.2.2.2.2.2.2.2.2.2.2.2.2.2.2.2.2.2.2.2.2.2.1.ext O0.2) (g := (mkF m 148 #[.val (.ref a_NEVER), .val (.int (0 : Int32)), .unset] [])) rfl (hb hby d_prog_19_method_4_148)
  obtain ⟨fs, hr, hrun, hended, hW, hsame⟩ := X4.leave (v := (some (.ref a_NONE))) (fun h => by rw [Bd.returns] at h; cases h)
  refine ⟨_, _, pre0 _ ?_, hrun, hended, _, _, rfl, ?_, ⟨_, rfl⟩, hW, hsame.mono (by decide) (by decide)⟩
  · refine XS.iloadN X0.here hx rfl (hb hby d_prog_19_method_4_0) rfl ?_
    show Steps p.tables e below (s₁.setTop (mkF m 1 #[.val (.ref a_NEVER), .val (.int (0 : Int32)), .unset] [(.int (0 : Int32))])) _
    refine XS.ifYes X0.here hx rfl (pc0 := 1) (pc' := 87) rfl (hb hby d_prog_19_method_4_1) rfl ((if0 _ _).trans (teq (by decide : (0 : Int32) = (0 : Int32))).1) (by decide) (by decide) ?_
    show Steps p.tables e below (s₁.setTop (mkF m 87 #[.val (.ref a_NEVER), .val (.int (0 : Int32)), .unset] [])) _
    refine st1 _ ?_
    show Steps p.tables e below (T1.setTop (mkF m 90 #[.val (.ref a_NEVER), .val (.int (0 : Int32)), .unset] [(.ref a__SwitchMap_com_example_demarc_demarc_TransactionAttributeType)])) _
    refine XS.aloadN X1.here hx rfl (hb hby d_prog_19_method_4_90) rfl rfl ?_
    show Steps p.tables e below (T1.setTop (mkF m 91 #[.val (.ref a_NEVER), .val (.int (0 : Int32)), .unset] [(.ref a_NEVER), (.ref a__SwitchMap_com_example_demarc_demarc_TransactionAttributeType)])) _
    refine st2.trans ?_
    show Steps p.tables e below (T2.setTop (mkF m 94 #[.val (.ref a_NEVER), .val (.int (0 : Int32)), .unset] [(.int (5 : Int32)), (.ref a__SwitchMap_com_example_demarc_demarc_TransactionAttributeType)])) _
    refine X2.iaload hx (j := (5 : Int32)) (v := (.int (6 : Int32))) (by rw [e2]; exact Ar3.1) (State.isArrayOf_alike hZ.alike Ar3.2.1) Ar3.2.2 hin3 hat3 (g := (mkF m 94 #[.val (.ref a_NEVER), .val (.int (0 : Int32)), .unset] [(.int (5 : Int32)), (.ref a__SwitchMap_com_example_demarc_demarc_TransactionAttributeType)])) rfl rfl (hb hby d_prog_19_method_4_94) _ ?_
    show Steps p.tables e below (T2.setTop (mkF m 95 #[.val (.ref a_NEVER), .val (.int (0 : Int32)), .unset] [(.int (6 : Int32))])) _
    refine XS.tswIn X2.here hx rfl (pc0 := 95) (pc' := 148) rfl (hb hby d_prog_19_method_4_95) rfl (by decide) (o := 53) rfl (by decide) (by decide) ?_
    show Steps p.tables e below (T2.setTop (mkF m 148 #[.val (.ref a_NEVER), .val (.int (0 : Int32)), .unset] [])) _
    refine st4 _ ?_
    show Steps p.tables e below (T4.setTop (mkF m 151 #[.val (.ref a_NEVER), .val (.int (0 : Int32)), .unset] [(.ref a_NONE)])) _
    refine XS.goto X4.here hx rfl (pc0 := 151) (pc' := 157) rfl (hb hby d_prog_19_method_4_151) (by decide) (by decide) ?_
    show Steps p.tables e below (T4.setTop (mkF m 157 #[.val (.ref a_NEVER), .val (.int (0 : Int32)), .unset] [(.ref a_NONE)])) _
    refine XS.astoreN X4.here hx rfl (hb hby d_prog_19_method_4_157) rfl rfl (l' := #[.val (.ref a_NEVER), .val (.int (0 : Int32)), .val (.ref a_NONE)]) rfl ?_
    show Steps p.tables e below (T4.setTop (mkF m 158 #[.val (.ref a_NEVER), .val (.int (0 : Int32)), .val (.ref a_NONE)] [])) _
    refine XS.aloadN X4.here hx rfl (hb hby d_prog_19_method_4_158) rfl rfl ?_
    show Steps p.tables e below (T4.setTop (mkF m 159 #[.val (.ref a_NEVER), .val (.int (0 : Int32)), .val (.ref a_NONE)] [(.ref a_NONE)])) _
    exact retOut X4 hx Bd.returns rfl (Or.inr (Or.inr (Or.inr (Or.inr ⟨rfl, rfl, rfl⟩)))) (hb hby d_prog_19_method_4_159) hr
  · show QR a_NONE h0 n0 _ T4.heap _
    rw [e4]
    exact ⟨rfl, N2, rfl⟩
set_option maxRecDepth 65536 in
set_option maxHeartbeats 40000000 in
theorem rm_of_MANDATORY_1 (l : Launch) (Z : State) (a0 : Array Value) (hw : ∀ d ∈ tables_1, d.before a0 Z = true) (ws : List Jvm.Cond) (a_REQUIRED : Addr) (a_NEVER : Addr) (a_JOIN : Addr) (a__SwitchMap_com_example_demarc_demarc_TransactionAttributeType : Addr) (a_MANDATORY : Addr) (a_REQUIRES_NEW : Addr) (a_REFUSED : Addr) (a_SUPPORTS : Addr) (a_NONE : Addr) (a_NEW : Addr) (a_NOT_SUPPORTED : Addr) (k_a__SwitchMap_com_example_demarc_demarc_TransactionAttributeType : ClassId) (hS : SB Z a_REQUIRED a_NEVER a_JOIN a__SwitchMap_com_example_demarc_demarc_TransactionAttributeType a_MANDATORY a_REQUIRES_NEW a_REFUSED a_SUPPORTS a_NONE a_NEW a_NOT_SUPPORTED k_a__SwitchMap_com_example_demarc_demarc_TransactionAttributeType) (h0 : Heap) (n0 : Nat) (O0 : Old Z n0 h0) :
    MetFree l (⟨"com/example/demarc/demarc/Placement", "of", "(Lcom/example/demarc/demarc/TransactionAttributeType;Z)Lcom/example/demarc/demarc/Placement;"⟩ : MethodName) (head1 (Jvm.Cond.code (⟨"com/example/demarc/demarc/Placement", "of", "(Lcom/example/demarc/demarc/TransactionAttributeType;Z)Lcom/example/demarc/demarc/Placement;"⟩ : MethodName) prog_19_method_4_code 3 (some (.object "com/example/demarc/demarc/Placement")) :: ws) ({ frames := 1, cells := 0, slots := 0, locals := 13 } : Room)) (fun a U => a = #[(.ref a_MANDATORY), (.int (1 : Int32))] ∧ Z.Warmed39 U.vm ∧ U.heap = h0) (fun _ _ _ _ _ => True) (fun _ U o U' => ∃ v L, o = .returned v ∧ QR a_JOIN h0 n0 v U'.heap L ∧ FrameEnd U o U' L ({ frames := 1, cells := 0, slots := 0, locals := 13 } : Room).cells ({ frames := 1, cells := 0, slots := 0, locals := 13 } : Room).slots) := by
  refine MetFree.of_bodySF (plainFor_of_name pn_1) hisR ?_
  intro p e s m args below meth c s₁ Bd hml0 hP hK
  obtain ⟨rfl, hZ, hh⟩ := hP
  have hx := Bd.exec
  have hby := Bd.bytes
  have hml : c.maxLocals = 3 := hml0
  have hown : s.vm.findClass "com/example/demarc/demarc/Placement" = some m.cls := findClass_of_methodNamed Bd.named
  have hnm := (name_of_methodNamed Bd.named Bd.method).1
  have X0 : Stand p l e ({ frames := 1, cells := 0, slots := 0, locals := 13 } : Room) s m #[(.ref a_MANDATORY), (.int (1 : Int32))] below meth c s₁ [] 0 0 := Stand.of_body Bd
  have e0 : s₁.heap = h0 := by rw [← hh, Bd.state]; rfl
  have N0 := Fr.nil n0
  have pre0 : ∀ t, Steps p.tables e below (s₁.setTop (mkF m 0 #[.val (.ref a_MANDATORY), .val (.int (1 : Int32)), .unset] [])) t → Steps p.tables e below (s₁.setTop (entryFrame m #[(.ref a_MANDATORY), (.int (1 : Int32))] 3)) t := fun t k => castTop (ef_rm_of_MANDATORY_1 m (a_MANDATORY) ((1 : Int32))) k
  obtain ⟨T1, X1, e1, st1⟩ := getS2 X0 hx hZ hown (host := "") (Or.inl (hw _ (List.mem_of_getElem? (i := 12) rfl))) Via.refl e0 (hS.2.2.2.2.2.2.2.2.1.ext O0.2) (g := (mkF m 4 #[.val (.ref a_MANDATORY), .val (.int (1 : Int32)), .unset] [])) rfl (hb hby d_prog_19_method_4_4)
  obtain ⟨cq2, kq2, q2a, q2b, q2c⟩ := isOf hZ e1 ((hS.2.2.2.2.2.2.2.2.2.1.ext O0.2))
  obtain ⟨_, _, ⟨T2, L2, k2, n2⟩, -, X2, ⟨Lc2, hQ2, l2, y2, z2⟩, st2⟩ := X1.virtualBackUp hx (x := (⟨"com/example/demarc/demarc/TransactionAttributeType", "ordinal", "()I"⟩ : MethodName)) (y := (⟨"java/lang/Enum", "ordinal", "()I"⟩ : MethodName)) (owner := "java/lang/Enum") hown (mvT hZ (hw _ (List.mem_of_getElem? (i := 15) rfl))) (mvT hZ (hw _ (List.mem_of_getElem? (i := 16) rfl))) (mvT hZ (hw _ (List.mem_of_getElem? (i := 17) rfl))) (by decide) (mvT hZ (hw _ (List.mem_of_getElem? (i := 19) rfl))) (mvT hZ (hw _ (List.mem_of_getElem? (i := 18) rfl))) (backOf (W := 1) (rm_ord l Z a0 hw [] a_MANDATORY (2 : Int32) h0 n0 (hS.2.2.2.2.2.2.2.2.2.2.2.1.ext O0.2)) hZ (hw _ (List.mem_of_getElem? (i := 21) rfl)) (hw _ (List.mem_of_getElem? (i := 20) rfl)) (by decide) (by decide)) q2a q2c (g := (mkF m 8 #[.val (.ref a_MANDATORY), .val (.int (1 : Int32)), .unset] [(.ref a_MANDATORY), (.ref a__SwitchMap_com_example_demarc_demarc_TransactionAttributeType)])) rfl (by rw [hml]; rfl) (Steps.refl _) (argsL := []) (rest := [(.ref a__SwitchMap_com_example_demarc_demarc_TransactionAttributeType)]) (lenOf pd_0 rfl) rfl (by show 2 * 0 + _ ≤ _; exact Nat.le_of_eq rfl) (hb hby d_prog_19_method_4_8) (fun _ _ => ⟨rfl, e1, (by decide : 0 + 0 ≤ _), (by decide : 0 + 0 ≤ _)⟩)
  dsimp only [Pt.U, Pt.locs, Pt.cells, Pt.slots] at X2 l2 y2 z2 st2 hQ2
  subst l2 y2 z2
  obtain ⟨rfl, N2q, e2⟩ := hQ2
  have N2 := Fr.app N0 N2q
  obtain ⟨c3, Ar3, q3, S3, M3, Hh3, G3⟩ := (id (hS.2.2.2.2.2.2.2.2.2.2.2.2.2.2.2.2.2.2.2.2.2.2.2.2.2.2.2.ext O0.2))
  have hin3 : ¬ ((2 : Int32) < 0 ∨ c3.slots.size ≤ ((2 : Int32)).toNatClampNeg) := inb_of S3 ⟨by decide, by decide⟩
  have hat3 : c3.slots[((2 : Int32)).toNatClampNeg]? = some (.int (2 : Int32)) := Hh3.at hin3 rfl
  obtain ⟨T4, X4, e4, st4⟩ := getS2 X2 hx hZ hown (host := "") (Or.inl (hw _ (List.mem_of_getElem? (i := 24) rfl))) Via.refl e2 (hS.2.2.2.2.2.2.2.1.ext O0.2) (g := (mkF m 62 #[.val (.ref a_MANDATORY), .val (.int (1 : Int32)), .unset] [])) rfl (hb hby d_prog_19_method_4_62)
  obtain ⟨fs, hr, hrun, hended, hW, hsame⟩ := X4.leave (v := (some (.ref a_JOIN))) (fun h => by rw [Bd.returns] at h; cases h)
  refine ⟨_, _, pre0 _ ?_, hrun, hended, _, _, rfl, ?_, ⟨_, rfl⟩, hW, hsame.mono (by decide) (by decide)⟩
  · refine XS.iloadN X0.here hx rfl (hb hby d_prog_19_method_4_0) rfl ?_
    show Steps p.tables e below (s₁.setTop (mkF m 1 #[.val (.ref a_MANDATORY), .val (.int (1 : Int32)), .unset] [(.int (1 : Int32))])) _
    refine XS.ifNo X0.here hx rfl (hb hby d_prog_19_method_4_1) rfl ((if0 _ _).trans (feq (by decide : ¬ ((1 : Int32) = (0 : Int32)))).1) ?_
    show Steps p.tables e below (s₁.setTop (mkF m 4 #[.val (.ref a_MANDATORY), .val (.int (1 : Int32)), .unset] [])) _
    refine st1 _ ?_
    show Steps p.tables e below (T1.setTop (mkF m 7 #[.val (.ref a_MANDATORY), .val (.int (1 : Int32)), .unset] [(.ref a__SwitchMap_com_example_demarc_demarc_TransactionAttributeType)])) _
    refine XS.aloadN X1.here hx rfl (hb hby d_prog_19_method_4_7) rfl rfl ?_
    show Steps p.tables e below (T1.setTop (mkF m 8 #[.val (.ref a_MANDATORY), .val (.int (1 : Int32)), .unset] [(.ref a_MANDATORY), (.ref a__SwitchMap_com_example_demarc_demarc_TransactionAttributeType)])) _
    refine st2.trans ?_
    show Steps p.tables e below (T2.setTop (mkF m 11 #[.val (.ref a_MANDATORY), .val (.int (1 : Int32)), .unset] [(.int (2 : Int32)), (.ref a__SwitchMap_com_example_demarc_demarc_TransactionAttributeType)])) _
    refine X2.iaload hx (j := (2 : Int32)) (v := (.int (2 : Int32))) (by rw [e2]; exact Ar3.1) (State.isArrayOf_alike hZ.alike Ar3.2.1) Ar3.2.2 hin3 hat3 (g := (mkF m 11 #[.val (.ref a_MANDATORY), .val (.int (1 : Int32)), .unset] [(.int (2 : Int32)), (.ref a__SwitchMap_com_example_demarc_demarc_TransactionAttributeType)])) rfl rfl (hb hby d_prog_19_method_4_11) _ ?_
    show Steps p.tables e below (T2.setTop (mkF m 12 #[.val (.ref a_MANDATORY), .val (.int (1 : Int32)), .unset] [(.int (2 : Int32))])) _
    refine XS.tswIn X2.here hx rfl (pc0 := 12) (pc' := 62) rfl (hb hby d_prog_19_method_4_12) rfl (by decide) (o := 50) rfl (by decide) (by decide) ?_
    show Steps p.tables e below (T2.setTop (mkF m 62 #[.val (.ref a_MANDATORY), .val (.int (1 : Int32)), .unset] [])) _
    refine st4 _ ?_
    show Steps p.tables e below (T4.setTop (mkF m 65 #[.val (.ref a_MANDATORY), .val (.int (1 : Int32)), .unset] [(.ref a_JOIN)])) _
    refine XS.goto X4.here hx rfl (pc0 := 65) (pc' := 83) rfl (hb hby d_prog_19_method_4_65) (by decide) (by decide) ?_
    show Steps p.tables e below (T4.setTop (mkF m 83 #[.val (.ref a_MANDATORY), .val (.int (1 : Int32)), .unset] [(.ref a_JOIN)])) _
    refine XS.astoreN X4.here hx rfl (hb hby d_prog_19_method_4_83) rfl rfl (l' := #[.val (.ref a_MANDATORY), .val (.int (1 : Int32)), .val (.ref a_JOIN)]) rfl ?_
    show Steps p.tables e below (T4.setTop (mkF m 84 #[.val (.ref a_MANDATORY), .val (.int (1 : Int32)), .val (.ref a_JOIN)] [])) _
    refine XS.goto X4.here hx rfl (pc0 := 84) (pc' := 158) rfl (hb hby d_prog_19_method_4_84) (by decide) (by decide) ?_
    show Steps p.tables e below (T4.setTop (mkF m 158 #[.val (.ref a_MANDATORY), .val (.int (1 : Int32)), .val (.ref a_JOIN)] [])) _
    refine XS.aloadN X4.here hx rfl (hb hby d_prog_19_method_4_158) rfl rfl ?_
    show Steps p.tables e below (T4.setTop (mkF m 159 #[.val (.ref a_MANDATORY), .val (.int (1 : Int32)), .val (.ref a_JOIN)] [(.ref a_JOIN)])) _
    exact retOut X4 hx Bd.returns rfl (Or.inr (Or.inr (Or.inr (Or.inr ⟨rfl, rfl, rfl⟩)))) (hb hby d_prog_19_method_4_159) hr
  · show QR a_JOIN h0 n0 _ T4.heap _
    rw [e4]
    exact ⟨rfl, N2, rfl⟩
set_option maxRecDepth 65536 in
set_option maxHeartbeats 40000000 in
theorem rm_of_MANDATORY_0 (l : Launch) (Z : State) (a0 : Array Value) (hw : ∀ d ∈ tables_1, d.before a0 Z = true) (ws : List Jvm.Cond) (a_REQUIRED : Addr) (a_NEVER : Addr) (a_JOIN : Addr) (a__SwitchMap_com_example_demarc_demarc_TransactionAttributeType : Addr) (a_MANDATORY : Addr) (a_REQUIRES_NEW : Addr) (a_REFUSED : Addr) (a_SUPPORTS : Addr) (a_NONE : Addr) (a_NEW : Addr) (a_NOT_SUPPORTED : Addr) (k_a__SwitchMap_com_example_demarc_demarc_TransactionAttributeType : ClassId) (hS : SB Z a_REQUIRED a_NEVER a_JOIN a__SwitchMap_com_example_demarc_demarc_TransactionAttributeType a_MANDATORY a_REQUIRES_NEW a_REFUSED a_SUPPORTS a_NONE a_NEW a_NOT_SUPPORTED k_a__SwitchMap_com_example_demarc_demarc_TransactionAttributeType) (h0 : Heap) (n0 : Nat) (O0 : Old Z n0 h0) :
    MetFree l (⟨"com/example/demarc/demarc/Placement", "of", "(Lcom/example/demarc/demarc/TransactionAttributeType;Z)Lcom/example/demarc/demarc/Placement;"⟩ : MethodName) (head1 (Jvm.Cond.code (⟨"com/example/demarc/demarc/Placement", "of", "(Lcom/example/demarc/demarc/TransactionAttributeType;Z)Lcom/example/demarc/demarc/Placement;"⟩ : MethodName) prog_19_method_4_code 3 (some (.object "com/example/demarc/demarc/Placement")) :: ws) ({ frames := 1, cells := 0, slots := 0, locals := 13 } : Room)) (fun a U => a = #[(.ref a_MANDATORY), (.int (0 : Int32))] ∧ Z.Warmed39 U.vm ∧ U.heap = h0) (fun _ _ _ _ _ => True) (fun _ U o U' => ∃ v L, o = .returned v ∧ QR a_REFUSED h0 n0 v U'.heap L ∧ FrameEnd U o U' L ({ frames := 1, cells := 0, slots := 0, locals := 13 } : Room).cells ({ frames := 1, cells := 0, slots := 0, locals := 13 } : Room).slots) := by
  refine MetFree.of_bodySF (plainFor_of_name pn_1) hisR ?_
  intro p e s m args below meth c s₁ Bd hml0 hP hK
  obtain ⟨rfl, hZ, hh⟩ := hP
  have hx := Bd.exec
  have hby := Bd.bytes
  have hml : c.maxLocals = 3 := hml0
  have hown : s.vm.findClass "com/example/demarc/demarc/Placement" = some m.cls := findClass_of_methodNamed Bd.named
  have hnm := (name_of_methodNamed Bd.named Bd.method).1
  have X0 : Stand p l e ({ frames := 1, cells := 0, slots := 0, locals := 13 } : Room) s m #[(.ref a_MANDATORY), (.int (0 : Int32))] below meth c s₁ [] 0 0 := Stand.of_body Bd
  have e0 : s₁.heap = h0 := by rw [← hh, Bd.state]; rfl
  have N0 := Fr.nil n0
  have pre0 : ∀ t, Steps p.tables e below (s₁.setTop (mkF m 0 #[.val (.ref a_MANDATORY), .val (.int (0 : Int32)), .unset] [])) t → Steps p.tables e below (s₁.setTop (entryFrame m #[(.ref a_MANDATORY), (.int (0 : Int32))] 3)) t := fun t k => castTop (ef_rm_of_MANDATORY_0 m (a_MANDATORY) ((0 : Int32))) k
  obtain ⟨T1, X1, e1, st1⟩ := getS2 X0 hx hZ hown (host := "") (Or.inl (hw _ (List.mem_of_getElem? (i := 12) rfl))) Via.refl e0 (hS.2.2.2.2.2.2.2.2.1.ext O0.2) (g := (mkF m 87 #[.val (.ref a_MANDATORY), .val (.int (0 : Int32)), .unset] [])) rfl (hb hby d_prog_19_method_4_87)
  obtain ⟨cq2, kq2, q2a, q2b, q2c⟩ := isOf hZ e1 ((hS.2.2.2.2.2.2.2.2.2.1.ext O0.2))
  obtain ⟨_, _, ⟨T2, L2, k2, n2⟩, -, X2, ⟨Lc2, hQ2, l2, y2, z2⟩, st2⟩ := X1.virtualBackUp hx (x := (⟨"com/example/demarc/demarc/TransactionAttributeType", "ordinal", "()I"⟩ : MethodName)) (y := (⟨"java/lang/Enum", "ordinal", "()I"⟩ : MethodName)) (owner := "java/lang/Enum") hown (mvT hZ (hw _ (List.mem_of_getElem? (i := 15) rfl))) (mvT hZ (hw _ (List.mem_of_getElem? (i := 16) rfl))) (mvT hZ (hw _ (List.mem_of_getElem? (i := 17) rfl))) (by decide) (mvT hZ (hw _ (List.mem_of_getElem? (i := 19) rfl))) (mvT hZ (hw _ (List.mem_of_getElem? (i := 18) rfl))) (backOf (W := 1) (rm_ord l Z a0 hw [] a_MANDATORY (2 : Int32) h0 n0 (hS.2.2.2.2.2.2.2.2.2.2.2.1.ext O0.2)) hZ (hw _ (List.mem_of_getElem? (i := 21) rfl)) (hw _ (List.mem_of_getElem? (i := 20) rfl)) (by decide) (by decide)) q2a q2c (g := (mkF m 91 #[.val (.ref a_MANDATORY), .val (.int (0 : Int32)), .unset] [(.ref a_MANDATORY), (.ref a__SwitchMap_com_example_demarc_demarc_TransactionAttributeType)])) rfl (by rw [hml]; rfl) (Steps.refl _) (argsL := []) (rest := [(.ref a__SwitchMap_com_example_demarc_demarc_TransactionAttributeType)]) (lenOf pd_0 rfl) rfl (by show 2 * 0 + _ ≤ _; exact Nat.le_of_eq rfl) (hb hby d_prog_19_method_4_91) (fun _ _ => ⟨rfl, e1, (by decide : 0 + 0 ≤ _), (by decide : 0 + 0 ≤ _)⟩)
  dsimp only [Pt.U, Pt.locs, Pt.cells, Pt.slots] at X2 l2 y2 z2 st2 hQ2
  subst l2 y2 z2
  obtain ⟨rfl, N2q, e2⟩ := hQ2
  have N2 := Fr.app N0 N2q
  obtain ⟨c3, Ar3, q3, S3, M3, Hh3, G3⟩ := (id (hS.2.2.2.2.2.2.2.2.2.2.2.2.2.2.2.2.2.2.2.2.2.2.2.2.2.2.2.ext O0.2))
  have hin3 : ¬ ((2 : Int32) < 0 ∨ c3.slots.size ≤ ((2 : Int32)).toNatClampNeg) := inb_of S3 ⟨by decide, by decide⟩
  have hat3 : c3.slots[((2 : Int32)).toNatClampNeg]? = some (.int (2 : Int32)) := Hh3.at hin3 rfl
  obtain ⟨T4, X4, e4, st4⟩ := getS2 X2 hx hZ hown (host := "") (Or.inl (hw _ (List.mem_of_getElem? (i := 31) rfl))) Via.refl e2 (hS.2.2.2.2.2.2.2.2.2.2.2.2.2.2.2.2.1.ext O0.2) (g := (mkF m 154 #[.val (.ref a_MANDATORY), .val (.int (0 : Int32)), .unset] [])) rfl (hb hby d_prog_19_method_4_154)
  obtain ⟨fs, hr, hrun, hended, hW, hsame⟩ := X4.leave (v := (some (.ref a_REFUSED))) (fun h => by rw [Bd.returns] at h; cases h)
  refine ⟨_, _, pre0 _ ?_, hrun, hended, _, _, rfl, ?_, ⟨_, rfl⟩, hW, hsame.mono (by decide) (by decide)⟩
  · refine XS.iloadN X0.here hx rfl (hb hby d_prog_19_method_4_0) rfl ?_
    show Steps p.tables e below (s₁.setTop (mkF m 1 #[.val (.ref a_MANDATORY), .val (.int (0 : Int32)), .unset] [(.int (0 : Int32))])) _
    refine XS.ifYes X0.here hx rfl (pc0 := 1) (pc' := 87) rfl (hb hby d_prog_19_method_4_1) rfl ((if0 _ _).trans (teq (by decide : (0 : Int32) = (0 : Int32))).1) (by decide) (by decide) ?_
    show Steps p.tables e below (s₁.setTop (mkF m 87 #[.val (.ref a_MANDATORY), .val (.int (0 : Int32)), .unset] [])) _
    refine st1 _ ?_
    show Steps p.tables e below (T1.setTop (mkF m 90 #[.val (.ref a_MANDATORY), .val (.int (0 : Int32)), .unset] [(.ref a__SwitchMap_com_example_demarc_demarc_TransactionAttributeType)])) _
    refine XS.aloadN X1.here hx rfl (hb hby d_prog_19_method_4_90) rfl rfl ?_
    show Steps p.tables e below (T1.setTop (mkF m 91 #[.val (.ref a_MANDATORY), .val (.int (0 : Int32)), .unset] [(.ref a_MANDATORY), (.ref a__SwitchMap_com_example_demarc_demarc_TransactionAttributeType)])) _
    refine st2.trans ?_
    show Steps p.tables e below (T2.setTop (mkF m 94 #[.val (.ref a_MANDATORY), .val (.int (0 : Int32)), .unset] [(.int (2 : Int32)), (.ref a__SwitchMap_com_example_demarc_demarc_TransactionAttributeType)])) _
    refine X2.iaload hx (j := (2 : Int32)) (v := (.int (2 : Int32))) (by rw [e2]; exact Ar3.1) (State.isArrayOf_alike hZ.alike Ar3.2.1) Ar3.2.2 hin3 hat3 (g := (mkF m 94 #[.val (.ref a_MANDATORY), .val (.int (0 : Int32)), .unset] [(.int (2 : Int32)), (.ref a__SwitchMap_com_example_demarc_demarc_TransactionAttributeType)])) rfl rfl (hb hby d_prog_19_method_4_94) _ ?_
    show Steps p.tables e below (T2.setTop (mkF m 95 #[.val (.ref a_MANDATORY), .val (.int (0 : Int32)), .unset] [(.int (2 : Int32))])) _
    refine XS.tswIn X2.here hx rfl (pc0 := 95) (pc' := 154) rfl (hb hby d_prog_19_method_4_95) rfl (by decide) (o := 59) rfl (by decide) (by decide) ?_
    show Steps p.tables e below (T2.setTop (mkF m 154 #[.val (.ref a_MANDATORY), .val (.int (0 : Int32)), .unset] [])) _
    refine st4 _ ?_
    show Steps p.tables e below (T4.setTop (mkF m 157 #[.val (.ref a_MANDATORY), .val (.int (0 : Int32)), .unset] [(.ref a_REFUSED)])) _
    refine XS.astoreN X4.here hx rfl (hb hby d_prog_19_method_4_157) rfl rfl (l' := #[.val (.ref a_MANDATORY), .val (.int (0 : Int32)), .val (.ref a_REFUSED)]) rfl ?_
    show Steps p.tables e below (T4.setTop (mkF m 158 #[.val (.ref a_MANDATORY), .val (.int (0 : Int32)), .val (.ref a_REFUSED)] [])) _
    refine XS.aloadN X4.here hx rfl (hb hby d_prog_19_method_4_158) rfl rfl ?_
    show Steps p.tables e below (T4.setTop (mkF m 159 #[.val (.ref a_MANDATORY), .val (.int (0 : Int32)), .val (.ref a_REFUSED)] [(.ref a_REFUSED)])) _
    exact retOut X4 hx Bd.returns rfl (Or.inr (Or.inr (Or.inr (Or.inr ⟨rfl, rfl, rfl⟩)))) (hb hby d_prog_19_method_4_159) hr
  · show QR a_REFUSED h0 n0 _ T4.heap _
    rw [e4]
    exact ⟨rfl, N2, rfl⟩
set_option maxRecDepth 65536 in
set_option maxHeartbeats 40000000 in
theorem rm_of_REQUIRES_NEW_1 (l : Launch) (Z : State) (a0 : Array Value) (hw : ∀ d ∈ tables_1, d.before a0 Z = true) (ws : List Jvm.Cond) (a_REQUIRED : Addr) (a_NEVER : Addr) (a_JOIN : Addr) (a__SwitchMap_com_example_demarc_demarc_TransactionAttributeType : Addr) (a_MANDATORY : Addr) (a_REQUIRES_NEW : Addr) (a_REFUSED : Addr) (a_SUPPORTS : Addr) (a_NONE : Addr) (a_NEW : Addr) (a_NOT_SUPPORTED : Addr) (k_a__SwitchMap_com_example_demarc_demarc_TransactionAttributeType : ClassId) (hS : SB Z a_REQUIRED a_NEVER a_JOIN a__SwitchMap_com_example_demarc_demarc_TransactionAttributeType a_MANDATORY a_REQUIRES_NEW a_REFUSED a_SUPPORTS a_NONE a_NEW a_NOT_SUPPORTED k_a__SwitchMap_com_example_demarc_demarc_TransactionAttributeType) (h0 : Heap) (n0 : Nat) (O0 : Old Z n0 h0) :
    MetFree l (⟨"com/example/demarc/demarc/Placement", "of", "(Lcom/example/demarc/demarc/TransactionAttributeType;Z)Lcom/example/demarc/demarc/Placement;"⟩ : MethodName) (head1 (Jvm.Cond.code (⟨"com/example/demarc/demarc/Placement", "of", "(Lcom/example/demarc/demarc/TransactionAttributeType;Z)Lcom/example/demarc/demarc/Placement;"⟩ : MethodName) prog_19_method_4_code 3 (some (.object "com/example/demarc/demarc/Placement")) :: ws) ({ frames := 1, cells := 0, slots := 0, locals := 13 } : Room)) (fun a U => a = #[(.ref a_REQUIRES_NEW), (.int (1 : Int32))] ∧ Z.Warmed39 U.vm ∧ U.heap = h0) (fun _ _ _ _ _ => True) (fun _ U o U' => ∃ v L, o = .returned v ∧ QR a_NEW h0 n0 v U'.heap L ∧ FrameEnd U o U' L ({ frames := 1, cells := 0, slots := 0, locals := 13 } : Room).cells ({ frames := 1, cells := 0, slots := 0, locals := 13 } : Room).slots) := by
  refine MetFree.of_bodySF (plainFor_of_name pn_1) hisR ?_
  intro p e s m args below meth c s₁ Bd hml0 hP hK
  obtain ⟨rfl, hZ, hh⟩ := hP
  have hx := Bd.exec
  have hby := Bd.bytes
  have hml : c.maxLocals = 3 := hml0
  have hown : s.vm.findClass "com/example/demarc/demarc/Placement" = some m.cls := findClass_of_methodNamed Bd.named
  have hnm := (name_of_methodNamed Bd.named Bd.method).1
  have X0 : Stand p l e ({ frames := 1, cells := 0, slots := 0, locals := 13 } : Room) s m #[(.ref a_REQUIRES_NEW), (.int (1 : Int32))] below meth c s₁ [] 0 0 := Stand.of_body Bd
  have e0 : s₁.heap = h0 := by rw [← hh, Bd.state]; rfl
  have N0 := Fr.nil n0
  have pre0 : ∀ t, Steps p.tables e below (s₁.setTop (mkF m 0 #[.val (.ref a_REQUIRES_NEW), .val (.int (1 : Int32)), .unset] [])) t → Steps p.tables e below (s₁.setTop (entryFrame m #[(.ref a_REQUIRES_NEW), (.int (1 : Int32))] 3)) t := fun t k => castTop (ef_rm_of_REQUIRES_NEW_1 m (a_REQUIRES_NEW) ((1 : Int32))) k
  obtain ⟨T1, X1, e1, st1⟩ := getS2 X0 hx hZ hown (host := "") (Or.inl (hw _ (List.mem_of_getElem? (i := 12) rfl))) Via.refl e0 (hS.2.2.2.2.2.2.2.2.1.ext O0.2) (g := (mkF m 4 #[.val (.ref a_REQUIRES_NEW), .val (.int (1 : Int32)), .unset] [])) rfl (hb hby d_prog_19_method_4_4)
  obtain ⟨cq2, kq2, q2a, q2b, q2c⟩ := isOf hZ e1 ((hS.2.2.2.2.2.2.2.2.2.2.2.2.1.ext O0.2))
  obtain ⟨_, _, ⟨T2, L2, k2, n2⟩, -, X2, ⟨Lc2, hQ2, l2, y2, z2⟩, st2⟩ := X1.virtualBackUp hx (x := (⟨"com/example/demarc/demarc/TransactionAttributeType", "ordinal", "()I"⟩ : MethodName)) (y := (⟨"java/lang/Enum", "ordinal", "()I"⟩ : MethodName)) (owner := "java/lang/Enum") hown (mvT hZ (hw _ (List.mem_of_getElem? (i := 15) rfl))) (mvT hZ (hw _ (List.mem_of_getElem? (i := 16) rfl))) (mvT hZ (hw _ (List.mem_of_getElem? (i := 17) rfl))) (by decide) (mvT hZ (hw _ (List.mem_of_getElem? (i := 19) rfl))) (mvT hZ (hw _ (List.mem_of_getElem? (i := 18) rfl))) (backOf (W := 1) (rm_ord l Z a0 hw [] a_REQUIRES_NEW (1 : Int32) h0 n0 (hS.2.2.2.2.2.2.2.2.2.2.2.2.2.2.1.ext O0.2)) hZ (hw _ (List.mem_of_getElem? (i := 21) rfl)) (hw _ (List.mem_of_getElem? (i := 20) rfl)) (by decide) (by decide)) q2a q2c (g := (mkF m 8 #[.val (.ref a_REQUIRES_NEW), .val (.int (1 : Int32)), .unset] [(.ref a_REQUIRES_NEW), (.ref a__SwitchMap_com_example_demarc_demarc_TransactionAttributeType)])) rfl (by rw [hml]; rfl) (Steps.refl _) (argsL := []) (rest := [(.ref a__SwitchMap_com_example_demarc_demarc_TransactionAttributeType)]) (lenOf pd_0 rfl) rfl (by show 2 * 0 + _ ≤ _; exact Nat.le_of_eq rfl) (hb hby d_prog_19_method_4_8) (fun _ _ => ⟨rfl, e1, (by decide : 0 + 0 ≤ _), (by decide : 0 + 0 ≤ _)⟩)
  dsimp only [Pt.U, Pt.locs, Pt.cells, Pt.slots] at X2 l2 y2 z2 st2 hQ2
  subst l2 y2 z2
  obtain ⟨rfl, N2q, e2⟩ := hQ2
  have N2 := Fr.app N0 N2q
  obtain ⟨c3, Ar3, q3, S3, M3, Hh3, G3⟩ := (id (hS.2.2.2.2.2.2.2.2.2.2.2.2.2.2.2.2.2.2.2.2.2.2.2.2.2.2.2.ext O0.2))
  have hin3 : ¬ ((1 : Int32) < 0 ∨ c3.slots.size ≤ ((1 : Int32)).toNatClampNeg) := inb_of S3 ⟨by decide, by decide⟩
  have hat3 : c3.slots[((1 : Int32)).toNatClampNeg]? = some (.int (4 : Int32)) := Hh3.at hin3 rfl
  obtain ⟨T4, X4, e4, st4⟩ := getS2 X2 hx hZ hown (host := "") (Or.inl (hw _ (List.mem_of_getElem? (i := 39) rfl))) Via.refl e2 (hS.2.2.2.2.2.2.2.2.2.2.2.2.2.2.2.2.2.2.2.2.2.2.2.1.ext O0.2) (g := (mkF m 68 #[.val (.ref a_REQUIRES_NEW), .val (.int (1 : Int32)), .unset] [])) rfl (hb hby d_prog_19_method_4_68)
  obtain ⟨fs, hr, hrun, hended, hW, hsame⟩ := X4.leave (v := (some (.ref a_NEW))) (fun h => by rw [Bd.returns] at h; cases h)
  refine ⟨_, _, pre0 _ ?_, hrun, hended, _, _, rfl, ?_, ⟨_, rfl⟩, hW, hsame.mono (by decide) (by decide)⟩
  · refine XS.iloadN X0.here hx rfl (hb hby d_prog_19_method_4_0) rfl ?_
    show Steps p.tables e below (s₁.setTop (mkF m 1 #[.val (.ref a_REQUIRES_NEW), .val (.int (1 : Int32)), .unset] [(.int (1 : Int32))])) _
    refine XS.ifNo X0.here hx rfl (hb hby d_prog_19_method_4_1) rfl ((if0 _ _).trans (feq (by decide : ¬ ((1 : Int32) = (0 : Int32)))).1) ?_
    show Steps p.tables e below (s₁.setTop (mkF m 4 #[.val (.ref a_REQUIRES_NEW), .val (.int (1 : Int32)), .unset] [])) _
    refine st1 _ ?_
    show Steps p.tables e below (T1.setTop (mkF m 7 #[.val (.ref a_REQUIRES_NEW), .val (.int (1 : Int32)), .unset] [(.ref a__SwitchMap_com_example_demarc_demarc_TransactionAttributeType)])) _
    refine XS.aloadN X1.here hx rfl (hb hby d_prog_19_method_4_7) rfl rfl ?_
    show Steps p.tables e below (T1.setTop (mkF m 8 #[.val (.ref a_REQUIRES_NEW), .val (.int (1 : Int32)), .unset] [(.ref a_REQUIRES_NEW), (.ref a__SwitchMap_com_example_demarc_demarc_TransactionAttributeType)])) _
    refine st2.trans ?_
    show Steps p.tables e below (T2.setTop (mkF m 11 #[.val (.ref a_REQUIRES_NEW), .val (.int (1 : Int32)), .unset] [(.int (1 : Int32)), (.ref a__SwitchMap_com_example_demarc_demarc_TransactionAttributeType)])) _
    refine X2.iaload hx (j := (1 : Int32)) (v := (.int (4 : Int32))) (by rw [e2]; exact Ar3.1) (State.isArrayOf_alike hZ.alike Ar3.2.1) Ar3.2.2 hin3 hat3 (g := (mkF m 11 #[.val (.ref a_REQUIRES_NEW), .val (.int (1 : Int32)), .unset] [(.int (1 : Int32)), (.ref a__SwitchMap_com_example_demarc_demarc_TransactionAttributeType)])) rfl rfl (hb hby d_prog_19_method_4_11) _ ?_
    show Steps p.tables e below (T2.setTop (mkF m 12 #[.val (.ref a_REQUIRES_NEW), .val (.int (1 : Int32)), .unset] [(.int (4 : Int32))])) _
    refine XS.tswIn X2.here hx rfl (pc0 := 12) (pc' := 68) rfl (hb hby d_prog_19_method_4_12) rfl (by decide) (o := 56) rfl (by decide) (by decide) ?_
    show Steps p.tables e below (T2.setTop (mkF m 68 #[.val (.ref a_REQUIRES_NEW), .val (.int (1 : Int32)), .unset] [])) _
    refine st4 _ ?_
    show Steps p.tables e below (T4.setTop (mkF m 71 #[.val (.ref a_REQUIRES_NEW), .val (.int (1 : Int32)), .unset] [(.ref a_NEW)])) _
    refine XS.goto X4.here hx rfl (pc0 := 71) (pc' := 83) rfl (hb hby d_prog_19_method_4_71) (by decide) (by decide) ?_
    show Steps p.tables e below (T4.setTop (mkF m 83 #[.val (.ref a_REQUIRES_NEW), .val (.int (1 : Int32)), .unset] [(.ref a_NEW)])) _
    refine XS.astoreN X4.here hx rfl (hb hby d_prog_19_method_4_83) rfl rfl (l' := #[.val (.ref a_REQUIRES_NEW), .val (.int (1 : Int32)), .val (.ref a_NEW)]) rfl ?_
    show Steps p.tables e below (T4.setTop (mkF m 84 #[.val (.ref a_REQUIRES_NEW), .val (.int (1 : Int32)), .val (.ref a_NEW)] [])) _
    refine XS.goto X4.here hx rfl (pc0 := 84) (pc' := 158) rfl (hb hby d_prog_19_method_4_84) (by decide) (by decide) ?_
    show Steps p.tables e below (T4.setTop (mkF m 158 #[.val (.ref a_REQUIRES_NEW), .val (.int (1 : Int32)), .val (.ref a_NEW)] [])) _
    refine XS.aloadN X4.here hx rfl (hb hby d_prog_19_method_4_158) rfl rfl ?_
    show Steps p.tables e below (T4.setTop (mkF m 159 #[.val (.ref a_REQUIRES_NEW), .val (.int (1 : Int32)), .val (.ref a_NEW)] [(.ref a_NEW)])) _
    exact retOut X4 hx Bd.returns rfl (Or.inr (Or.inr (Or.inr (Or.inr ⟨rfl, rfl, rfl⟩)))) (hb hby d_prog_19_method_4_159) hr
  · show QR a_NEW h0 n0 _ T4.heap _
    rw [e4]
    exact ⟨rfl, N2, rfl⟩
set_option maxRecDepth 65536 in
set_option maxHeartbeats 40000000 in
theorem rm_of_REQUIRES_NEW_0 (l : Launch) (Z : State) (a0 : Array Value) (hw : ∀ d ∈ tables_1, d.before a0 Z = true) (ws : List Jvm.Cond) (a_REQUIRED : Addr) (a_NEVER : Addr) (a_JOIN : Addr) (a__SwitchMap_com_example_demarc_demarc_TransactionAttributeType : Addr) (a_MANDATORY : Addr) (a_REQUIRES_NEW : Addr) (a_REFUSED : Addr) (a_SUPPORTS : Addr) (a_NONE : Addr) (a_NEW : Addr) (a_NOT_SUPPORTED : Addr) (k_a__SwitchMap_com_example_demarc_demarc_TransactionAttributeType : ClassId) (hS : SB Z a_REQUIRED a_NEVER a_JOIN a__SwitchMap_com_example_demarc_demarc_TransactionAttributeType a_MANDATORY a_REQUIRES_NEW a_REFUSED a_SUPPORTS a_NONE a_NEW a_NOT_SUPPORTED k_a__SwitchMap_com_example_demarc_demarc_TransactionAttributeType) (h0 : Heap) (n0 : Nat) (O0 : Old Z n0 h0) :
    MetFree l (⟨"com/example/demarc/demarc/Placement", "of", "(Lcom/example/demarc/demarc/TransactionAttributeType;Z)Lcom/example/demarc/demarc/Placement;"⟩ : MethodName) (head1 (Jvm.Cond.code (⟨"com/example/demarc/demarc/Placement", "of", "(Lcom/example/demarc/demarc/TransactionAttributeType;Z)Lcom/example/demarc/demarc/Placement;"⟩ : MethodName) prog_19_method_4_code 3 (some (.object "com/example/demarc/demarc/Placement")) :: ws) ({ frames := 1, cells := 0, slots := 0, locals := 13 } : Room)) (fun a U => a = #[(.ref a_REQUIRES_NEW), (.int (0 : Int32))] ∧ Z.Warmed39 U.vm ∧ U.heap = h0) (fun _ _ _ _ _ => True) (fun _ U o U' => ∃ v L, o = .returned v ∧ QR a_NEW h0 n0 v U'.heap L ∧ FrameEnd U o U' L ({ frames := 1, cells := 0, slots := 0, locals := 13 } : Room).cells ({ frames := 1, cells := 0, slots := 0, locals := 13 } : Room).slots) := by
  refine MetFree.of_bodySF (plainFor_of_name pn_1) hisR ?_
  intro p e s m args below meth c s₁ Bd hml0 hP hK
  obtain ⟨rfl, hZ, hh⟩ := hP
  have hx := Bd.exec
  have hby := Bd.bytes
  have hml : c.maxLocals = 3 := hml0
  have hown : s.vm.findClass "com/example/demarc/demarc/Placement" = some m.cls := findClass_of_methodNamed Bd.named
  have hnm := (name_of_methodNamed Bd.named Bd.method).1
  have X0 : Stand p l e ({ frames := 1, cells := 0, slots := 0, locals := 13 } : Room) s m #[(.ref a_REQUIRES_NEW), (.int (0 : Int32))] below meth c s₁ [] 0 0 := Stand.of_body Bd
  have e0 : s₁.heap = h0 := by rw [← hh, Bd.state]; rfl
  have N0 := Fr.nil n0
  have pre0 : ∀ t, Steps p.tables e below (s₁.setTop (mkF m 0 #[.val (.ref a_REQUIRES_NEW), .val (.int (0 : Int32)), .unset] [])) t → Steps p.tables e below (s₁.setTop (entryFrame m #[(.ref a_REQUIRES_NEW), (.int (0 : Int32))] 3)) t := fun t k => castTop (ef_rm_of_REQUIRES_NEW_0 m (a_REQUIRES_NEW) ((0 : Int32))) k
  obtain ⟨T1, X1, e1, st1⟩ := getS2 X0 hx hZ hown (host := "") (Or.inl (hw _ (List.mem_of_getElem? (i := 12) rfl))) Via.refl e0 (hS.2.2.2.2.2.2.2.2.1.ext O0.2) (g := (mkF m 87 #[.val (.ref a_REQUIRES_NEW), .val (.int (0 : Int32)), .unset] [])) rfl (hb hby d_prog_19_method_4_87)
  obtain ⟨cq2, kq2, q2a, q2b, q2c⟩ := isOf hZ e1 ((hS.2.2.2.2.2.2.2.2.2.2.2.2.1.ext O0.2))
  obtain ⟨_, _, ⟨T2, L2, k2, n2⟩, -, X2, ⟨Lc2, hQ2, l2, y2, z2⟩, st2⟩ := X1.virtualBackUp hx (x := (⟨"com/example/demarc/demarc/TransactionAttributeType", "ordinal", "()I"⟩ : MethodName)) (y := (⟨"java/lang/Enum", "ordinal", "()I"⟩ : MethodName)) (owner := "java/lang/Enum") hown (mvT hZ (hw _ (List.mem_of_getElem? (i := 15) rfl))) (mvT hZ (hw _ (List.mem_of_getElem? (i := 16) rfl))) (mvT hZ (hw _ (List.mem_of_getElem? (i := 17) rfl))) (by decide) (mvT hZ (hw _ (List.mem_of_getElem? (i := 19) rfl))) (mvT hZ (hw _ (List.mem_of_getElem? (i := 18) rfl))) (backOf (W := 1) (rm_ord l Z a0 hw [] a_REQUIRES_NEW (1 : Int32) h0 n0 (hS.2.2.2.2.2.2.2.2.2.2.2.2.2.2.1.ext O0.2)) hZ (hw _ (List.mem_of_getElem? (i := 21) rfl)) (hw _ (List.mem_of_getElem? (i := 20) rfl)) (by decide) (by decide)) q2a q2c (g := (mkF m 91 #[.val (.ref a_REQUIRES_NEW), .val (.int (0 : Int32)), .unset] [(.ref a_REQUIRES_NEW), (.ref a__SwitchMap_com_example_demarc_demarc_TransactionAttributeType)])) rfl (by rw [hml]; rfl) (Steps.refl _) (argsL := []) (rest := [(.ref a__SwitchMap_com_example_demarc_demarc_TransactionAttributeType)]) (lenOf pd_0 rfl) rfl (by show 2 * 0 + _ ≤ _; exact Nat.le_of_eq rfl) (hb hby d_prog_19_method_4_91) (fun _ _ => ⟨rfl, e1, (by decide : 0 + 0 ≤ _), (by decide : 0 + 0 ≤ _)⟩)
  dsimp only [Pt.U, Pt.locs, Pt.cells, Pt.slots] at X2 l2 y2 z2 st2 hQ2
  subst l2 y2 z2
  obtain ⟨rfl, N2q, e2⟩ := hQ2
  have N2 := Fr.app N0 N2q
  obtain ⟨c3, Ar3, q3, S3, M3, Hh3, G3⟩ := (id (hS.2.2.2.2.2.2.2.2.2.2.2.2.2.2.2.2.2.2.2.2.2.2.2.2.2.2.2.ext O0.2))
  have hin3 : ¬ ((1 : Int32) < 0 ∨ c3.slots.size ≤ ((1 : Int32)).toNatClampNeg) := inb_of S3 ⟨by decide, by decide⟩
  have hat3 : c3.slots[((1 : Int32)).toNatClampNeg]? = some (.int (4 : Int32)) := Hh3.at hin3 rfl
  obtain ⟨T4, X4, e4, st4⟩ := getS2 X2 hx hZ hown (host := "") (Or.inl (hw _ (List.mem_of_getElem? (i := 39) rfl))) Via.refl e2 (hS.2.2.2.2.2.2.2.2.2.2.2.2.2.2.2.2.2.2.2.2.2.2.2.1.ext O0.2) (g := (mkF m 142 #[.val (.ref a_REQUIRES_NEW), .val (.int (0 : Int32)), .unset] [])) rfl (hb hby d_prog_19_method_4_142)
  obtain ⟨fs, hr, hrun, hended, hW, hsame⟩ := X4.leave (v := (some (.ref a_NEW))) (fun h => by rw [Bd.returns] at h; cases h)
  refine ⟨_, _, pre0 _ ?_, hrun, hended, _, _, rfl, ?_, ⟨_, rfl⟩, hW, hsame.mono (by decide) (by decide)⟩
  · refine XS.iloadN X0.here hx rfl (hb hby d_prog_19_method_4_0) rfl ?_
    show Steps p.tables e below (s₁.setTop (mkF m 1 #[.val (.ref a_REQUIRES_NEW), .val (.int (0 : Int32)), .unset] [(.int (0 : Int32))])) _
    refine XS.ifYes X0.here hx rfl (pc0 := 1) (pc' := 87) rfl (hb hby d_prog_19_method_4_1) rfl ((if0 _ _).trans (teq (by decide : (0 : Int32) = (0 : Int32))).1) (by decide) (by decide) ?_
    show Steps p.tables e below (s₁.setTop (mkF m 87 #[.val (.ref a_REQUIRES_NEW), .val (.int (0 : Int32)), .unset] [])) _
    refine st1 _ ?_
    show Steps p.tables e below (T1.setTop (mkF m 90 #[.val (.ref a_REQUIRES_NEW), .val (.int (0 : Int32)), .unset] [(.ref a__SwitchMap_com_example_demarc_demarc_TransactionAttributeType)])) _
    refine XS.aloadN X1.here hx rfl (hb hby d_prog_19_method_4_90) rfl rfl ?_
    show Steps p.tables e below (T1.setTop (mkF m 91 #[.val (.ref a_REQUIRES_NEW), .val (.int (0 : Int32)), .unset] [(.ref a_REQUIRES_NEW), (.ref a__SwitchMap_com_example_demarc_demarc_TransactionAttributeType)])) _
    refine st2.trans ?_
    show Steps p.tables e below (T2.setTop (mkF m 94 #[.val (.ref a_REQUIRES_NEW), .val (.int (0 : Int32)), .unset] [(.int (1 : Int32)), (.ref a__SwitchMap_com_example_demarc_demarc_TransactionAttributeType)])) _
    refine X2.iaload hx (j := (1 : Int32)) (v := (.int (4 : Int32))) (by rw [e2]; exact Ar3.1) (State.isArrayOf_alike hZ.alike Ar3.2.1) Ar3.2.2 hin3 hat3 (g := (mkF m 94 #[.val (.ref a_REQUIRES_NEW), .val (.int (0 : Int32)), .unset] [(.int (1 : Int32)), (.ref a__SwitchMap_com_example_demarc_demarc_TransactionAttributeType)])) rfl rfl (hb hby d_prog_19_method_4_94) _ ?_
    show Steps p.tables e below (T2.setTop (mkF m 95 #[.val (.ref a_REQUIRES_NEW), .val (.int (0 : Int32)), .unset] [(.int (4 : Int32))])) _
    refine XS.tswIn X2.here hx rfl (pc0 := 95) (pc' := 142) rfl (hb hby d_prog_19_method_4_95) rfl (by decide) (o := 47) rfl (by decide) (by decide) ?_
    show Steps p.tables e below (T2.setTop (mkF m 142 #[.val (.ref a_REQUIRES_NEW), .val (.int (0 : Int32)), .unset] [])) _
    refine st4 _ ?_
    show Steps p.tables e below (T4.setTop (mkF m 145 #[.val (.ref a_REQUIRES_NEW), .val (.int (0 : Int32)), .unset] [(.ref a_NEW)])) _
    refine XS.goto X4.here hx rfl (pc0 := 145) (pc' := 157) rfl (hb hby d_prog_19_method_4_145) (by decide) (by decide) ?_
    show Steps p.tables e below (T4.setTop (mkF m 157 #[.val (.ref a_REQUIRES_NEW), .val (.int (0 : Int32)), .unset] [(.ref a_NEW)])) _
    refine XS.astoreN X4.here hx rfl (hb hby d_prog_19_method_4_157) rfl rfl (l' := #[.val (.ref a_REQUIRES_NEW), .val (.int (0 : Int32)), .val (.ref a_NEW)]) rfl ?_
    show Steps p.tables e below (T4.setTop (mkF m 158 #[.val (.ref a_REQUIRES_NEW), .val (.int (0 : Int32)), .val (.ref a_NEW)] [])) _
    refine XS.aloadN X4.here hx rfl (hb hby d_prog_19_method_4_158) rfl rfl ?_
    show Steps p.tables e below (T4.setTop (mkF m 159 #[.val (.ref a_REQUIRES_NEW), .val (.int (0 : Int32)), .val (.ref a_NEW)] [(.ref a_NEW)])) _
    exact retOut X4 hx Bd.returns rfl (Or.inr (Or.inr (Or.inr (Or.inr ⟨rfl, rfl, rfl⟩)))) (hb hby d_prog_19_method_4_159) hr
  · show QR a_NEW h0 n0 _ T4.heap _
    rw [e4]
    exact ⟨rfl, N2, rfl⟩
set_option maxRecDepth 65536 in
set_option maxHeartbeats 40000000 in
theorem rm_of_SUPPORTS_1 (l : Launch) (Z : State) (a0 : Array Value) (hw : ∀ d ∈ tables_1, d.before a0 Z = true) (ws : List Jvm.Cond) (a_REQUIRED : Addr) (a_NEVER : Addr) (a_JOIN : Addr) (a__SwitchMap_com_example_demarc_demarc_TransactionAttributeType : Addr) (a_MANDATORY : Addr) (a_REQUIRES_NEW : Addr) (a_REFUSED : Addr) (a_SUPPORTS : Addr) (a_NONE : Addr) (a_NEW : Addr) (a_NOT_SUPPORTED : Addr) (k_a__SwitchMap_com_example_demarc_demarc_TransactionAttributeType : ClassId) (hS : SB Z a_REQUIRED a_NEVER a_JOIN a__SwitchMap_com_example_demarc_demarc_TransactionAttributeType a_MANDATORY a_REQUIRES_NEW a_REFUSED a_SUPPORTS a_NONE a_NEW a_NOT_SUPPORTED k_a__SwitchMap_com_example_demarc_demarc_TransactionAttributeType) (h0 : Heap) (n0 : Nat) (O0 : Old Z n0 h0) :
    MetFree l (⟨"com/example/demarc/demarc/Placement", "of", "(Lcom/example/demarc/demarc/TransactionAttributeType;Z)Lcom/example/demarc/demarc/Placement;"⟩ : MethodName) (head1 (Jvm.Cond.code (⟨"com/example/demarc/demarc/Placement", "of", "(Lcom/example/demarc/demarc/TransactionAttributeType;Z)Lcom/example/demarc/demarc/Placement;"⟩ : MethodName) prog_19_method_4_code 3 (some (.object "com/example/demarc/demarc/Placement")) :: ws) ({ frames := 1, cells := 0, slots := 0, locals := 13 } : Room)) (fun a U => a = #[(.ref a_SUPPORTS), (.int (1 : Int32))] ∧ Z.Warmed39 U.vm ∧ U.heap = h0) (fun _ _ _ _ _ => True) (fun _ U o U' => ∃ v L, o = .returned v ∧ QR a_JOIN h0 n0 v U'.heap L ∧ FrameEnd U o U' L ({ frames := 1, cells := 0, slots := 0, locals := 13 } : Room).cells ({ frames := 1, cells := 0, slots := 0, locals := 13 } : Room).slots) := by
  refine MetFree.of_bodySF (plainFor_of_name pn_1) hisR ?_
  intro p e s m args below meth c s₁ Bd hml0 hP hK
  obtain ⟨rfl, hZ, hh⟩ := hP
  have hx := Bd.exec
  have hby := Bd.bytes
  have hml : c.maxLocals = 3 := hml0
  have hown : s.vm.findClass "com/example/demarc/demarc/Placement" = some m.cls := findClass_of_methodNamed Bd.named
  have hnm := (name_of_methodNamed Bd.named Bd.method).1
  have X0 : Stand p l e ({ frames := 1, cells := 0, slots := 0, locals := 13 } : Room) s m #[(.ref a_SUPPORTS), (.int (1 : Int32))] below meth c s₁ [] 0 0 := Stand.of_body Bd
  have e0 : s₁.heap = h0 := by rw [← hh, Bd.state]; rfl
  have N0 := Fr.nil n0
  have pre0 : ∀ t, Steps p.tables e below (s₁.setTop (mkF m 0 #[.val (.ref a_SUPPORTS), .val (.int (1 : Int32)), .unset] [])) t → Steps p.tables e below (s₁.setTop (entryFrame m #[(.ref a_SUPPORTS), (.int (1 : Int32))] 3)) t := fun t k => castTop (ef_rm_of_SUPPORTS_1 m (a_SUPPORTS) ((1 : Int32))) k
  obtain ⟨T1, X1, e1, st1⟩ := getS2 X0 hx hZ hown (host := "") (Or.inl (hw _ (List.mem_of_getElem? (i := 12) rfl))) Via.refl e0 (hS.2.2.2.2.2.2.2.2.1.ext O0.2) (g := (mkF m 4 #[.val (.ref a_SUPPORTS), .val (.int (1 : Int32)), .unset] [])) rfl (hb hby d_prog_19_method_4_4)
  obtain ⟨cq2, kq2, q2a, q2b, q2c⟩ := isOf hZ e1 ((hS.2.2.2.2.2.2.2.2.2.2.2.2.2.2.2.2.2.1.ext O0.2))
  obtain ⟨_, _, ⟨T2, L2, k2, n2⟩, -, X2, ⟨Lc2, hQ2, l2, y2, z2⟩, st2⟩ := X1.virtualBackUp hx (x := (⟨"com/example/demarc/demarc/TransactionAttributeType", "ordinal", "()I"⟩ : MethodName)) (y := (⟨"java/lang/Enum", "ordinal", "()I"⟩ : MethodName)) (owner := "java/lang/Enum") hown (mvT hZ (hw _ (List.mem_of_getElem? (i := 15) rfl))) (mvT hZ (hw _ (List.mem_of_getElem? (i := 16) rfl))) (mvT hZ (hw _ (List.mem_of_getElem? (i := 17) rfl))) (by decide) (mvT hZ (hw _ (List.mem_of_getElem? (i := 19) rfl))) (mvT hZ (hw _ (List.mem_of_getElem? (i := 18) rfl))) (backOf (W := 1) (rm_ord l Z a0 hw [] a_SUPPORTS (4 : Int32) h0 n0 (hS.2.2.2.2.2.2.2.2.2.2.2.2.2.2.2.2.2.2.2.1.ext O0.2)) hZ (hw _ (List.mem_of_getElem? (i := 21) rfl)) (hw _ (List.mem_of_getElem? (i := 20) rfl)) (by decide) (by decide)) q2a q2c (g := (mkF m 8 #[.val (.ref a_SUPPORTS), .val (.int (1 : Int32)), .unset] [(.ref a_SUPPORTS), (.ref a__SwitchMap_com_example_demarc_demarc_TransactionAttributeType)])) rfl (by rw [hml]; rfl) (Steps.refl _) (argsL := []) (rest := [(.ref a__SwitchMap_com_example_demarc_demarc_TransactionAttributeType)]) (lenOf pd_0 rfl) rfl (by show 2 * 0 + _ ≤ _; exact Nat.le_of_eq rfl) (hb hby d_prog_19_method_4_8) (fun _ _ => ⟨rfl, e1, (by decide : 0 + 0 ≤ _), (by decide : 0 + 0 ≤ _)⟩)
  dsimp only [Pt.U, Pt.locs, Pt.cells, Pt.slots] at X2 l2 y2 z2 st2 hQ2
  subst l2 y2 z2
  obtain ⟨rfl, N2q, e2⟩ := hQ2
  have N2 := Fr.app N0 N2q
  obtain ⟨c3, Ar3, q3, S3, M3, Hh3, G3⟩ := (id (hS.2.2.2.2.2.2.2.2.2.2.2.2.2.2.2.2.2.2.2.2.2.2.2.2.2.2.2.ext O0.2))
  have hin3 : ¬ ((4 : Int32) < 0 ∨ c3.slots.size ≤ ((4 : Int32)).toNatClampNeg) := inb_of S3 ⟨by decide, by decide⟩
  have hat3 : c3.slots[((4 : Int32)).toNatClampNeg]? = some (.int (3 : Int32)) := Hh3.at hin3 rfl
  obtain ⟨T4, X4, e4, st4⟩ := getS2 X2 hx hZ hown (host := "") (Or.inl (hw _ (List.mem_of_getElem? (i := 24) rfl))) Via.refl e2 (hS.2.2.2.2.2.2.2.1.ext O0.2) (g := (mkF m 62 #[.val (.ref a_SUPPORTS), .val (.int (1 : Int32)), .unset] [])) rfl (hb hby d_prog_19_method_4_62)
  obtain ⟨fs, hr, hrun, hended, hW, hsame⟩ := X4.leave (v := (some (.ref a_JOIN))) (fun h => by rw [Bd.returns] at h; cases h)
  refine ⟨_, _, pre0 _ ?_, hrun, hended, _, _, rfl, ?_, ⟨_, rfl⟩, hW, hsame.mono (by decide) (by decide)⟩
  · refine XS.iloadN X0.here hx rfl (hb hby d_prog_19_method_4_0) rfl ?_
    show Steps p.tables e below (s₁.setTop (mkF m 1 #[.val (.ref a_SUPPORTS), .val (.int (1 : Int32)), .unset] [(.int (1 : Int32))])) _
    refine XS.ifNo X0.here hx rfl (hb hby d_prog_19_method_4_1) rfl ((if0 _ _).trans (feq (by decide : ¬ ((1 : Int32) = (0 : Int32)))).1) ?_
    show Steps p.tables e below (s₁.setTop (mkF m 4 #[.val (.ref a_SUPPORTS), .val (.int (1 : Int32)), .unset] [])) _
    refine st1 _ ?_
    show Steps p.tables e below (T1.setTop (mkF m 7 #[.val (.ref a_SUPPORTS), .val (.int (1 : Int32)), .unset] [(.ref a__SwitchMap_com_example_demarc_demarc_TransactionAttributeType)])) _
    refine XS.aloadN X1.here hx rfl (hb hby d_prog_19_method_4_7) rfl rfl ?_
    show Steps p.tables e below (T1.setTop (mkF m 8 #[.val (.ref a_SUPPORTS), .val (.int (1 : Int32)), .unset] [(.ref a_SUPPORTS), (.ref a__SwitchMap_com_example_demarc_demarc_TransactionAttributeType)])) _
    refine st2.trans ?_
    show Steps p.tables e below (T2.setTop (mkF m 11 #[.val (.ref a_SUPPORTS), .val (.int (1 : Int32)), .unset] [(.int (4 : Int32)), (.ref a__SwitchMap_com_example_demarc_demarc_TransactionAttributeType)])) _
    refine X2.iaload hx (j := (4 : Int32)) (v := (.int (3 : Int32))) (by rw [e2]; exact Ar3.1) (State.isArrayOf_alike hZ.alike Ar3.2.1) Ar3.2.2 hin3 hat3 (g := (mkF m 11 #[.val (.ref a_SUPPORTS), .val (.int (1 : Int32)), .unset] [(.int (4 : Int32)), (.ref a__SwitchMap_com_example_demarc_demarc_TransactionAttributeType)])) rfl rfl (hb hby d_prog_19_method_4_11) _ ?_
    show Steps p.tables e below (T2.setTop (mkF m 12 #[.val (.ref a_SUPPORTS), .val (.int (1 : Int32)), .unset] [(.int (3 : Int32))])) _
    refine XS.tswIn X2.here hx rfl (pc0 := 12) (pc' := 62) rfl (hb hby d_prog_19_method_4_12) rfl (by decide) (o := 50) rfl (by decide) (by decide) ?_
    show Steps p.tables e below (T2.setTop (mkF m 62 #[.val (.ref a_SUPPORTS), .val (.int (1 : Int32)), .unset] [])) _
    refine st4 _ ?_
    show Steps p.tables e below (T4.setTop (mkF m 65 #[.val (.ref a_SUPPORTS), .val (.int (1 : Int32)), .unset] [(.ref a_JOIN)])) _
    refine XS.goto X4.here hx rfl (pc0 := 65) (pc' := 83) rfl (hb hby d_prog_19_method_4_65) (by decide) (by decide) ?_
    show Steps p.tables e below (T4.setTop (mkF m 83 #[.val (.ref a_SUPPORTS), .val (.int (1 : Int32)), .unset] [(.ref a_JOIN)])) _
    refine XS.astoreN X4.here hx rfl (hb hby d_prog_19_method_4_83) rfl rfl (l' := #[.val (.ref a_SUPPORTS), .val (.int (1 : Int32)), .val (.ref a_JOIN)]) rfl ?_
    show Steps p.tables e below (T4.setTop (mkF m 84 #[.val (.ref a_SUPPORTS), .val (.int (1 : Int32)), .val (.ref a_JOIN)] [])) _
    refine XS.goto X4.here hx rfl (pc0 := 84) (pc' := 158) rfl (hb hby d_prog_19_method_4_84) (by decide) (by decide) ?_
    show Steps p.tables e below (T4.setTop (mkF m 158 #[.val (.ref a_SUPPORTS), .val (.int (1 : Int32)), .val (.ref a_JOIN)] [])) _
    refine XS.aloadN X4.here hx rfl (hb hby d_prog_19_method_4_158) rfl rfl ?_
    show Steps p.tables e below (T4.setTop (mkF m 159 #[.val (.ref a_SUPPORTS), .val (.int (1 : Int32)), .val (.ref a_JOIN)] [(.ref a_JOIN)])) _
    exact retOut X4 hx Bd.returns rfl (Or.inr (Or.inr (Or.inr (Or.inr ⟨rfl, rfl, rfl⟩)))) (hb hby d_prog_19_method_4_159) hr
  · show QR a_JOIN h0 n0 _ T4.heap _
    rw [e4]
    exact ⟨rfl, N2, rfl⟩
set_option maxRecDepth 65536 in
set_option maxHeartbeats 40000000 in
theorem rm_of_SUPPORTS_0 (l : Launch) (Z : State) (a0 : Array Value) (hw : ∀ d ∈ tables_1, d.before a0 Z = true) (ws : List Jvm.Cond) (a_REQUIRED : Addr) (a_NEVER : Addr) (a_JOIN : Addr) (a__SwitchMap_com_example_demarc_demarc_TransactionAttributeType : Addr) (a_MANDATORY : Addr) (a_REQUIRES_NEW : Addr) (a_REFUSED : Addr) (a_SUPPORTS : Addr) (a_NONE : Addr) (a_NEW : Addr) (a_NOT_SUPPORTED : Addr) (k_a__SwitchMap_com_example_demarc_demarc_TransactionAttributeType : ClassId) (hS : SB Z a_REQUIRED a_NEVER a_JOIN a__SwitchMap_com_example_demarc_demarc_TransactionAttributeType a_MANDATORY a_REQUIRES_NEW a_REFUSED a_SUPPORTS a_NONE a_NEW a_NOT_SUPPORTED k_a__SwitchMap_com_example_demarc_demarc_TransactionAttributeType) (h0 : Heap) (n0 : Nat) (O0 : Old Z n0 h0) :
    MetFree l (⟨"com/example/demarc/demarc/Placement", "of", "(Lcom/example/demarc/demarc/TransactionAttributeType;Z)Lcom/example/demarc/demarc/Placement;"⟩ : MethodName) (head1 (Jvm.Cond.code (⟨"com/example/demarc/demarc/Placement", "of", "(Lcom/example/demarc/demarc/TransactionAttributeType;Z)Lcom/example/demarc/demarc/Placement;"⟩ : MethodName) prog_19_method_4_code 3 (some (.object "com/example/demarc/demarc/Placement")) :: ws) ({ frames := 1, cells := 0, slots := 0, locals := 13 } : Room)) (fun a U => a = #[(.ref a_SUPPORTS), (.int (0 : Int32))] ∧ Z.Warmed39 U.vm ∧ U.heap = h0) (fun _ _ _ _ _ => True) (fun _ U o U' => ∃ v L, o = .returned v ∧ QR a_NONE h0 n0 v U'.heap L ∧ FrameEnd U o U' L ({ frames := 1, cells := 0, slots := 0, locals := 13 } : Room).cells ({ frames := 1, cells := 0, slots := 0, locals := 13 } : Room).slots) := by
  refine MetFree.of_bodySF (plainFor_of_name pn_1) hisR ?_
  intro p e s m args below meth c s₁ Bd hml0 hP hK
  obtain ⟨rfl, hZ, hh⟩ := hP
  have hx := Bd.exec
  have hby := Bd.bytes
  have hml : c.maxLocals = 3 := hml0
  have hown : s.vm.findClass "com/example/demarc/demarc/Placement" = some m.cls := findClass_of_methodNamed Bd.named
  have hnm := (name_of_methodNamed Bd.named Bd.method).1
  have X0 : Stand p l e ({ frames := 1, cells := 0, slots := 0, locals := 13 } : Room) s m #[(.ref a_SUPPORTS), (.int (0 : Int32))] below meth c s₁ [] 0 0 := Stand.of_body Bd
  have e0 : s₁.heap = h0 := by rw [← hh, Bd.state]; rfl
  have N0 := Fr.nil n0
  have pre0 : ∀ t, Steps p.tables e below (s₁.setTop (mkF m 0 #[.val (.ref a_SUPPORTS), .val (.int (0 : Int32)), .unset] [])) t → Steps p.tables e below (s₁.setTop (entryFrame m #[(.ref a_SUPPORTS), (.int (0 : Int32))] 3)) t := fun t k => castTop (ef_rm_of_SUPPORTS_0 m (a_SUPPORTS) ((0 : Int32))) k
  obtain ⟨T1, X1, e1, st1⟩ := getS2 X0 hx hZ hown (host := "") (Or.inl (hw _ (List.mem_of_getElem? (i := 12) rfl))) Via.refl e0 (hS.2.2.2.2.2.2.2.2.1.ext O0.2) (g := (mkF m 87 #[.val (.ref a_SUPPORTS), .val (.int (0 : Int32)), .unset] [])) rfl (hb hby d_prog_19_method_4_87)
  obtain ⟨cq2, kq2, q2a, q2b, q2c⟩ := isOf hZ e1 ((hS.2.2.2.2.2.2.2.2.2.2.2.2.2.2.2.2.2.1.ext O0.2))
  obtain ⟨_, _, ⟨T2, L2, k2, n2⟩, -, X2, ⟨Lc2, hQ2, l2, y2, z2⟩, st2⟩ := X1.virtualBackUp hx (x := (⟨"com/example/demarc/demarc/TransactionAttributeType", "ordinal", "()I"⟩ : MethodName)) (y := (⟨"java/lang/Enum", "ordinal", "()I"⟩ : MethodName)) (owner := "java/lang/Enum") hown (mvT hZ (hw _ (List.mem_of_getElem? (i := 15) rfl))) (mvT hZ (hw _ (List.mem_of_getElem? (i := 16) rfl))) (mvT hZ (hw _ (List.mem_of_getElem? (i := 17) rfl))) (by decide) (mvT hZ (hw _ (List.mem_of_getElem? (i := 19) rfl))) (mvT hZ (hw _ (List.mem_of_getElem? (i := 18) rfl))) (backOf (W := 1) (rm_ord l Z a0 hw [] a_SUPPORTS (4 : Int32) h0 n0 (hS.2.2.2.2.2.2.2.2.2.2.2.2.2.2.2.2.2.2.2.1.ext O0.2)) hZ (hw _ (List.mem_of_getElem? (i := 21) rfl)) (hw _ (List.mem_of_getElem? (i := 20) rfl)) (by decide) (by decide)) q2a q2c (g := (mkF m 91 #[.val (.ref a_SUPPORTS), .val (.int (0 : Int32)), .unset] [(.ref a_SUPPORTS), (.ref a__SwitchMap_com_example_demarc_demarc_TransactionAttributeType)])) rfl (by rw [hml]; rfl) (Steps.refl _) (argsL := []) (rest := [(.ref a__SwitchMap_com_example_demarc_demarc_TransactionAttributeType)]) (lenOf pd_0 rfl) rfl (by show 2 * 0 + _ ≤ _; exact Nat.le_of_eq rfl) (hb hby d_prog_19_method_4_91) (fun _ _ => ⟨rfl, e1, (by decide : 0 + 0 ≤ _), (by decide : 0 + 0 ≤ _)⟩)
  dsimp only [Pt.U, Pt.locs, Pt.cells, Pt.slots] at X2 l2 y2 z2 st2 hQ2
  subst l2 y2 z2
  obtain ⟨rfl, N2q, e2⟩ := hQ2
  have N2 := Fr.app N0 N2q
  obtain ⟨c3, Ar3, q3, S3, M3, Hh3, G3⟩ := (id (hS.2.2.2.2.2.2.2.2.2.2.2.2.2.2.2.2.2.2.2.2.2.2.2.2.2.2.2.ext O0.2))
  have hin3 : ¬ ((4 : Int32) < 0 ∨ c3.slots.size ≤ ((4 : Int32)).toNatClampNeg) := inb_of S3 ⟨by decide, by decide⟩
  have hat3 : c3.slots[((4 : Int32)).toNatClampNeg]? = some (.int (3 : Int32)) := Hh3.at hin3 rfl
  obtain ⟨T4, X4, e4, st4⟩ := getS2 X2 hx hZ hown (host := "") (Or.inl (hw _ (List.mem_of_getElem? (i := 36) rfl))) Via.refl e2 (hS.2.2.2.2.2.2.2.2.2.2.2.2.2.2.2.2.2.2.2.2.2.1.ext O0.2) (g := (mkF m 148 #[.val (.ref a_SUPPORTS), .val (.int (0 : Int32)), .unset] [])) rfl (hb hby d_prog_19_method_4_148)
  obtain ⟨fs, hr, hrun, hended, hW, hsame⟩ := X4.leave (v := (some (.ref a_NONE))) (fun h => by rw [Bd.returns] at h; cases h)
  refine ⟨_, _, pre0 _ ?_, hrun, hended, _, _, rfl, ?_, ⟨_, rfl⟩, hW, hsame.mono (by decide) (by decide)⟩
  · refine XS.iloadN X0.here hx rfl (hb hby d_prog_19_method_4_0) rfl ?_
    show Steps p.tables e below (s₁.setTop (mkF m 1 #[.val (.ref a_SUPPORTS), .val (.int (0 : Int32)), .unset] [(.int (0 : Int32))])) _
    refine XS.ifYes X0.here hx rfl (pc0 := 1) (pc' := 87) rfl (hb hby d_prog_19_method_4_1) rfl ((if0 _ _).trans (teq (by decide : (0 : Int32) = (0 : Int32))).1) (by decide) (by decide) ?_
    show Steps p.tables e below (s₁.setTop (mkF m 87 #[.val (.ref a_SUPPORTS), .val (.int (0 : Int32)), .unset] [])) _
    refine st1 _ ?_
    show Steps p.tables e below (T1.setTop (mkF m 90 #[.val (.ref a_SUPPORTS), .val (.int (0 : Int32)), .unset] [(.ref a__SwitchMap_com_example_demarc_demarc_TransactionAttributeType)])) _
    refine XS.aloadN X1.here hx rfl (hb hby d_prog_19_method_4_90) rfl rfl ?_
    show Steps p.tables e below (T1.setTop (mkF m 91 #[.val (.ref a_SUPPORTS), .val (.int (0 : Int32)), .unset] [(.ref a_SUPPORTS), (.ref a__SwitchMap_com_example_demarc_demarc_TransactionAttributeType)])) _
    refine st2.trans ?_
    show Steps p.tables e below (T2.setTop (mkF m 94 #[.val (.ref a_SUPPORTS), .val (.int (0 : Int32)), .unset] [(.int (4 : Int32)), (.ref a__SwitchMap_com_example_demarc_demarc_TransactionAttributeType)])) _
    refine X2.iaload hx (j := (4 : Int32)) (v := (.int (3 : Int32))) (by rw [e2]; exact Ar3.1) (State.isArrayOf_alike hZ.alike Ar3.2.1) Ar3.2.2 hin3 hat3 (g := (mkF m 94 #[.val (.ref a_SUPPORTS), .val (.int (0 : Int32)), .unset] [(.int (4 : Int32)), (.ref a__SwitchMap_com_example_demarc_demarc_TransactionAttributeType)])) rfl rfl (hb hby d_prog_19_method_4_94) _ ?_
    show Steps p.tables e below (T2.setTop (mkF m 95 #[.val (.ref a_SUPPORTS), .val (.int (0 : Int32)), .unset] [(.int (3 : Int32))])) _
    refine XS.tswIn X2.here hx rfl (pc0 := 95) (pc' := 148) rfl (hb hby d_prog_19_method_4_95) rfl (by decide) (o := 53) rfl (by decide) (by decide) ?_
    show Steps p.tables e below (T2.setTop (mkF m 148 #[.val (.ref a_SUPPORTS), .val (.int (0 : Int32)), .unset] [])) _
    refine st4 _ ?_
    show Steps p.tables e below (T4.setTop (mkF m 151 #[.val (.ref a_SUPPORTS), .val (.int (0 : Int32)), .unset] [(.ref a_NONE)])) _
    refine XS.goto X4.here hx rfl (pc0 := 151) (pc' := 157) rfl (hb hby d_prog_19_method_4_151) (by decide) (by decide) ?_
    show Steps p.tables e below (T4.setTop (mkF m 157 #[.val (.ref a_SUPPORTS), .val (.int (0 : Int32)), .unset] [(.ref a_NONE)])) _
    refine XS.astoreN X4.here hx rfl (hb hby d_prog_19_method_4_157) rfl rfl (l' := #[.val (.ref a_SUPPORTS), .val (.int (0 : Int32)), .val (.ref a_NONE)]) rfl ?_
    show Steps p.tables e below (T4.setTop (mkF m 158 #[.val (.ref a_SUPPORTS), .val (.int (0 : Int32)), .val (.ref a_NONE)] [])) _
    refine XS.aloadN X4.here hx rfl (hb hby d_prog_19_method_4_158) rfl rfl ?_
    show Steps p.tables e below (T4.setTop (mkF m 159 #[.val (.ref a_SUPPORTS), .val (.int (0 : Int32)), .val (.ref a_NONE)] [(.ref a_NONE)])) _
    exact retOut X4 hx Bd.returns rfl (Or.inr (Or.inr (Or.inr (Or.inr ⟨rfl, rfl, rfl⟩)))) (hb hby d_prog_19_method_4_159) hr
  · show QR a_NONE h0 n0 _ T4.heap _
    rw [e4]
    exact ⟨rfl, N2, rfl⟩
set_option maxRecDepth 65536 in
set_option maxHeartbeats 40000000 in
theorem rm_of_NOT_SUPPORTED_1 (l : Launch) (Z : State) (a0 : Array Value) (hw : ∀ d ∈ tables_1, d.before a0 Z = true) (ws : List Jvm.Cond) (a_REQUIRED : Addr) (a_NEVER : Addr) (a_JOIN : Addr) (a__SwitchMap_com_example_demarc_demarc_TransactionAttributeType : Addr) (a_MANDATORY : Addr) (a_REQUIRES_NEW : Addr) (a_REFUSED : Addr) (a_SUPPORTS : Addr) (a_NONE : Addr) (a_NEW : Addr) (a_NOT_SUPPORTED : Addr) (k_a__SwitchMap_com_example_demarc_demarc_TransactionAttributeType : ClassId) (hS : SB Z a_REQUIRED a_NEVER a_JOIN a__SwitchMap_com_example_demarc_demarc_TransactionAttributeType a_MANDATORY a_REQUIRES_NEW a_REFUSED a_SUPPORTS a_NONE a_NEW a_NOT_SUPPORTED k_a__SwitchMap_com_example_demarc_demarc_TransactionAttributeType) (h0 : Heap) (n0 : Nat) (O0 : Old Z n0 h0) :
    MetFree l (⟨"com/example/demarc/demarc/Placement", "of", "(Lcom/example/demarc/demarc/TransactionAttributeType;Z)Lcom/example/demarc/demarc/Placement;"⟩ : MethodName) (head1 (Jvm.Cond.code (⟨"com/example/demarc/demarc/Placement", "of", "(Lcom/example/demarc/demarc/TransactionAttributeType;Z)Lcom/example/demarc/demarc/Placement;"⟩ : MethodName) prog_19_method_4_code 3 (some (.object "com/example/demarc/demarc/Placement")) :: ws) ({ frames := 1, cells := 0, slots := 0, locals := 13 } : Room)) (fun a U => a = #[(.ref a_NOT_SUPPORTED), (.int (1 : Int32))] ∧ Z.Warmed39 U.vm ∧ U.heap = h0) (fun _ _ _ _ _ => True) (fun _ U o U' => ∃ v L, o = .returned v ∧ QR a_NONE h0 n0 v U'.heap L ∧ FrameEnd U o U' L ({ frames := 1, cells := 0, slots := 0, locals := 13 } : Room).cells ({ frames := 1, cells := 0, slots := 0, locals := 13 } : Room).slots) := by
  refine MetFree.of_bodySF (plainFor_of_name pn_1) hisR ?_
  intro p e s m args below meth c s₁ Bd hml0 hP hK
  obtain ⟨rfl, hZ, hh⟩ := hP
  have hx := Bd.exec
  have hby := Bd.bytes
  have hml : c.maxLocals = 3 := hml0
  have hown : s.vm.findClass "com/example/demarc/demarc/Placement" = some m.cls := findClass_of_methodNamed Bd.named
  have hnm := (name_of_methodNamed Bd.named Bd.method).1
  have X0 : Stand p l e ({ frames := 1, cells := 0, slots := 0, locals := 13 } : Room) s m #[(.ref a_NOT_SUPPORTED), (.int (1 : Int32))] below meth c s₁ [] 0 0 := Stand.of_body Bd
  have e0 : s₁.heap = h0 := by rw [← hh, Bd.state]; rfl
  have N0 := Fr.nil n0
  have pre0 : ∀ t, Steps p.tables e below (s₁.setTop (mkF m 0 #[.val (.ref a_NOT_SUPPORTED), .val (.int (1 : Int32)), .unset] [])) t → Steps p.tables e below (s₁.setTop (entryFrame m #[(.ref a_NOT_SUPPORTED), (.int (1 : Int32))] 3)) t := fun t k => castTop (ef_rm_of_NOT_SUPPORTED_1 m (a_NOT_SUPPORTED) ((1 : Int32))) k
  obtain ⟨T1, X1, e1, st1⟩ := getS2 X0 hx hZ hown (host := "") (Or.inl (hw _ (List.mem_of_getElem? (i := 12) rfl))) Via.refl e0 (hS.2.2.2.2.2.2.2.2.1.ext O0.2) (g := (mkF m 4 #[.val (.ref a_NOT_SUPPORTED), .val (.int (1 : Int32)), .unset] [])) rfl (hb hby d_prog_19_method_4_4)
  obtain ⟨cq2, kq2, q2a, q2b, q2c⟩ := isOf hZ e1 ((hS.2.2.2.2.2.2.2.2.2.2.2.2.2.2.2.2.2.2.2.2.2.2.2.2.1.ext O0.2))
  obtain ⟨_, _, ⟨T2, L2, k2, n2⟩, -, X2, ⟨Lc2, hQ2, l2, y2, z2⟩, st2⟩ := X1.virtualBackUp hx (x := (⟨"com/example/demarc/demarc/TransactionAttributeType", "ordinal", "()I"⟩ : MethodName)) (y := (⟨"java/lang/Enum", "ordinal", "()I"⟩ : MethodName)) (owner := "java/lang/Enum") hown (mvT hZ (hw _ (List.mem_of_getElem? (i := 15) rfl))) (mvT hZ (hw _ (List.mem_of_getElem? (i := 16) rfl))) (mvT hZ (hw _ (List.mem_of_getElem? (i := 17) rfl))) (by decide) (mvT hZ (hw _ (List.mem_of_getElem? (i := 19) rfl))) (mvT hZ (hw _ (List.mem_of_getElem? (i := 18) rfl))) (backOf (W := 1) (rm_ord l Z a0 hw [] a_NOT_SUPPORTED (3 : Int32) h0 n0 (hS.2.2.2.2.2.2.2.2.2.2.2.2.2.2.2.2.2.2.2.2.2.2.2.2.2.2.1.ext O0.2)) hZ (hw _ (List.mem_of_getElem? (i := 21) rfl)) (hw _ (List.mem_of_getElem? (i := 20) rfl)) (by decide) (by decide)) q2a q2c (g := (mkF m 8 #[.val (.ref a_NOT_SUPPORTED), .val (.int (1 : Int32)), .unset] [(.ref a_NOT_SUPPORTED), (.ref a__SwitchMap_com_example_demarc_demarc_TransactionAttributeType)])) rfl (by rw [hml]; rfl) (Steps.refl _) (argsL := []) (rest := [(.ref a__SwitchMap_com_example_demarc_demarc_TransactionAttributeType)]) (lenOf pd_0 rfl) rfl (by show 2 * 0 + _ ≤ _; exact Nat.le_of_eq rfl) (hb hby d_prog_19_method_4_8) (fun _ _ => ⟨rfl, e1, (by decide : 0 + 0 ≤ _), (by decide : 0 + 0 ≤ _)⟩)
  dsimp only [Pt.U, Pt.locs, Pt.cells, Pt.slots] at X2 l2 y2 z2 st2 hQ2
  subst l2 y2 z2
  obtain ⟨rfl, N2q, e2⟩ := hQ2
  have N2 := Fr.app N0 N2q
  obtain ⟨c3, Ar3, q3, S3, M3, Hh3, G3⟩ := (id (hS.2.2.2.2.2.2.2.2.2.2.2.2.2.2.2.2.2.2.2.2.2.2.2.2.2.2.2.ext O0.2))
  have hin3 : ¬ ((3 : Int32) < 0 ∨ c3.slots.size ≤ ((3 : Int32)).toNatClampNeg) := inb_of S3 ⟨by decide, by decide⟩
  have hat3 : c3.slots[((3 : Int32)).toNatClampNeg]? = some (.int (5 : Int32)) := Hh3.at hin3 rfl
  obtain ⟨T4, X4, e4, st4⟩ := getS2 X2 hx hZ hown (host := "") (Or.inl (hw _ (List.mem_of_getElem? (i := 36) rfl))) Via.refl e2 (hS.2.2.2.2.2.2.2.2.2.2.2.2.2.2.2.2.2.2.2.2.2.1.ext O0.2) (g := (mkF m 74 #[.val (.ref a_NOT_SUPPORTED), .val (.int (1 : Int32)), .unset] [])) rfl (hb hby d_prog_19_method_4_74)
  obtain ⟨fs, hr, hrun, hended, hW, hsame⟩ := X4.leave (v := (some (.ref a_NONE))) (fun h => by rw [Bd.returns] at h; cases h)
  refine ⟨_, _, pre0 _ ?_, hrun, hended, _, _, rfl, ?_, ⟨_, rfl⟩, hW, hsame.mono (by decide) (by decide)⟩
  · refine XS.iloadN X0.here hx rfl (hb hby d_prog_19_method_4_0) rfl ?_
    show Steps p.tables e below (s₁.setTop (mkF m 1 #[.val (.ref a_NOT_SUPPORTED), .val (.int (1 : Int32)), .unset] [(.int (1 : Int32))])) _
    refine XS.ifNo X0.here hx rfl (hb hby d_prog_19_method_4_1) rfl ((if0 _ _).trans (feq (by decide : ¬ ((1 : Int32) = (0 : Int32)))).1) ?_
    show Steps p.tables e below (s₁.setTop (mkF m 4 #[.val (.ref a_NOT_SUPPORTED), .val (.int (1 : Int32)), .unset] [])) _
    refine st1 _ ?_
    show Steps p.tables e below (T1.setTop (mkF m 7 #[.val (.ref a_NOT_SUPPORTED), .val (.int (1 : Int32)), .unset] [(.ref a__SwitchMap_com_example_demarc_demarc_TransactionAttributeType)])) _
    refine XS.aloadN X1.here hx rfl (hb hby d_prog_19_method_4_7) rfl rfl ?_
    show Steps p.tables e below (T1.setTop (mkF m 8 #[.val (.ref a_NOT_SUPPORTED), .val (.int (1 : Int32)), .unset] [(.ref a_NOT_SUPPORTED), (.ref a__SwitchMap_com_example_demarc_demarc_TransactionAttributeType)])) _
    refine st2.trans ?_
    show Steps p.tables e below (T2.setTop (mkF m 11 #[.val (.ref a_NOT_SUPPORTED), .val (.int (1 : Int32)), .unset] [(.int (3 : Int32)), (.ref a__SwitchMap_com_example_demarc_demarc_TransactionAttributeType)])) _
    refine X2.iaload hx (j := (3 : Int32)) (v := (.int (5 : Int32))) (by rw [e2]; exact Ar3.1) (State.isArrayOf_alike hZ.alike Ar3.2.1) Ar3.2.2 hin3 hat3 (g := (mkF m 11 #[.val (.ref a_NOT_SUPPORTED), .val (.int (1 : Int32)), .unset] [(.int (3 : Int32)), (.ref a__SwitchMap_com_example_demarc_demarc_TransactionAttributeType)])) rfl rfl (hb hby d_prog_19_method_4_11) _ ?_
    show Steps p.tables e below (T2.setTop (mkF m 12 #[.val (.ref a_NOT_SUPPORTED), .val (.int (1 : Int32)), .unset] [(.int (5 : Int32))])) _
    refine XS.tswIn X2.here hx rfl (pc0 := 12) (pc' := 74) rfl (hb hby d_prog_19_method_4_12) rfl (by decide) (o := 62) rfl (by decide) (by decide) ?_
    show Steps p.tables e below (T2.setTop (mkF m 74 #[.val (.ref a_NOT_SUPPORTED), .val (.int (1 : Int32)), .unset] [])) _
    refine st4 _ ?_
    show Steps p.tables e below (T4.setTop (mkF m 77 #[.val (.ref a_NOT_SUPPORTED), .val (.int (1 : Int32)), .unset] [(.ref a_NONE)])) _
    refine XS.goto X4.here hx rfl (pc0 := 77) (pc' := 83) rfl (hb hby d_prog_19_method_4_77) (by decide) (by decide) ?_
    show Steps p.tables e below (T4.setTop (mkF m 83 #[.val (.ref a_NOT_SUPPORTED), .val (.int (1 : Int32)), .unset] [(.ref a_NONE)])) _
    refine XS.astoreN X4.here hx rfl (hb hby d_prog_19_method_4_83) rfl rfl (l' := #[.val (.ref a_NOT_SUPPORTED), .val (.int (1 : Int32)), .val (.ref a_NONE)]) rfl ?_
    show Steps p.tables e below (T4.setTop (mkF m 84 #[.val (.ref a_NOT_SUPPORTED), .val (.int (1 : Int32)), .val (.ref a_NONE)] [])) _
    refine XS.goto X4.here hx rfl (pc0 := 84) (pc' := 158) rfl (hb hby d_prog_19_method_4_84) (by decide) (by decide) ?_
    show Steps p.tables e below (T4.setTop (mkF m 158 #[.val (.ref a_NOT_SUPPORTED), .val (.int (1 : Int32)), .val (.ref a_NONE)] [])) _
    refine XS.aloadN X4.here hx rfl (hb hby d_prog_19_method_4_158) rfl rfl ?_
    show Steps p.tables e below (T4.setTop (mkF m 159 #[.val (.ref a_NOT_SUPPORTED), .val (.int (1 : Int32)), .val (.ref a_NONE)] [(.ref a_NONE)])) _
    exact retOut X4 hx Bd.returns rfl (Or.inr (Or.inr (Or.inr (Or.inr ⟨rfl, rfl, rfl⟩)))) (hb hby d_prog_19_method_4_159) hr
  · show QR a_NONE h0 n0 _ T4.heap _
    rw [e4]
    exact ⟨rfl, N2, rfl⟩
set_option maxRecDepth 65536 in
set_option maxHeartbeats 40000000 in
theorem rm_of_NOT_SUPPORTED_0 (l : Launch) (Z : State) (a0 : Array Value) (hw : ∀ d ∈ tables_1, d.before a0 Z = true) (ws : List Jvm.Cond) (a_REQUIRED : Addr) (a_NEVER : Addr) (a_JOIN : Addr) (a__SwitchMap_com_example_demarc_demarc_TransactionAttributeType : Addr) (a_MANDATORY : Addr) (a_REQUIRES_NEW : Addr) (a_REFUSED : Addr) (a_SUPPORTS : Addr) (a_NONE : Addr) (a_NEW : Addr) (a_NOT_SUPPORTED : Addr) (k_a__SwitchMap_com_example_demarc_demarc_TransactionAttributeType : ClassId) (hS : SB Z a_REQUIRED a_NEVER a_JOIN a__SwitchMap_com_example_demarc_demarc_TransactionAttributeType a_MANDATORY a_REQUIRES_NEW a_REFUSED a_SUPPORTS a_NONE a_NEW a_NOT_SUPPORTED k_a__SwitchMap_com_example_demarc_demarc_TransactionAttributeType) (h0 : Heap) (n0 : Nat) (O0 : Old Z n0 h0) :
    MetFree l (⟨"com/example/demarc/demarc/Placement", "of", "(Lcom/example/demarc/demarc/TransactionAttributeType;Z)Lcom/example/demarc/demarc/Placement;"⟩ : MethodName) (head1 (Jvm.Cond.code (⟨"com/example/demarc/demarc/Placement", "of", "(Lcom/example/demarc/demarc/TransactionAttributeType;Z)Lcom/example/demarc/demarc/Placement;"⟩ : MethodName) prog_19_method_4_code 3 (some (.object "com/example/demarc/demarc/Placement")) :: ws) ({ frames := 1, cells := 0, slots := 0, locals := 13 } : Room)) (fun a U => a = #[(.ref a_NOT_SUPPORTED), (.int (0 : Int32))] ∧ Z.Warmed39 U.vm ∧ U.heap = h0) (fun _ _ _ _ _ => True) (fun _ U o U' => ∃ v L, o = .returned v ∧ QR a_NONE h0 n0 v U'.heap L ∧ FrameEnd U o U' L ({ frames := 1, cells := 0, slots := 0, locals := 13 } : Room).cells ({ frames := 1, cells := 0, slots := 0, locals := 13 } : Room).slots) := by
  refine MetFree.of_bodySF (plainFor_of_name pn_1) hisR ?_
  intro p e s m args below meth c s₁ Bd hml0 hP hK
  obtain ⟨rfl, hZ, hh⟩ := hP
  have hx := Bd.exec
  have hby := Bd.bytes
  have hml : c.maxLocals = 3 := hml0
  have hown : s.vm.findClass "com/example/demarc/demarc/Placement" = some m.cls := findClass_of_methodNamed Bd.named
  have hnm := (name_of_methodNamed Bd.named Bd.method).1
  have X0 : Stand p l e ({ frames := 1, cells := 0, slots := 0, locals := 13 } : Room) s m #[(.ref a_NOT_SUPPORTED), (.int (0 : Int32))] below meth c s₁ [] 0 0 := Stand.of_body Bd
  have e0 : s₁.heap = h0 := by rw [← hh, Bd.state]; rfl
  have N0 := Fr.nil n0
  have pre0 : ∀ t, Steps p.tables e below (s₁.setTop (mkF m 0 #[.val (.ref a_NOT_SUPPORTED), .val (.int (0 : Int32)), .unset] [])) t → Steps p.tables e below (s₁.setTop (entryFrame m #[(.ref a_NOT_SUPPORTED), (.int (0 : Int32))] 3)) t := fun t k => castTop (ef_rm_of_NOT_SUPPORTED_0 m (a_NOT_SUPPORTED) ((0 : Int32))) k
  obtain ⟨T1, X1, e1, st1⟩ := getS2 X0 hx hZ hown (host := "") (Or.inl (hw _ (List.mem_of_getElem? (i := 12) rfl))) Via.refl e0 (hS.2.2.2.2.2.2.2.2.1.ext O0.2) (g := (mkF m 87 #[.val (.ref a_NOT_SUPPORTED), .val (.int (0 : Int32)), .unset] [])) rfl (hb hby d_prog_19_method_4_87)
  obtain ⟨cq2, kq2, q2a, q2b, q2c⟩ := isOf hZ e1 ((hS.2.2.2.2.2.2.2.2.2.2.2.2.2.2.2.2.2.2.2.2.2.2.2.2.1.ext O0.2))
  obtain ⟨_, _, ⟨T2, L2, k2, n2⟩, -, X2, ⟨Lc2, hQ2, l2, y2, z2⟩, st2⟩ := X1.virtualBackUp hx (x := (⟨"com/example/demarc/demarc/TransactionAttributeType", "ordinal", "()I"⟩ : MethodName)) (y := (⟨"java/lang/Enum", "ordinal", "()I"⟩ : MethodName)) (owner := "java/lang/Enum") hown (mvT hZ (hw _ (List.mem_of_getElem? (i := 15) rfl))) (mvT hZ (hw _ (List.mem_of_getElem? (i := 16) rfl))) (mvT hZ (hw _ (List.mem_of_getElem? (i := 17) rfl))) (by decide) (mvT hZ (hw _ (List.mem_of_getElem? (i := 19) rfl))) (mvT hZ (hw _ (List.mem_of_getElem? (i := 18) rfl))) (backOf (W := 1) (rm_ord l Z a0 hw [] a_NOT_SUPPORTED (3 : Int32) h0 n0 (hS.2.2.2.2.2.2.2.2.2.2.2.2.2.2.2.2.2.2.2.2.2.2.2.2.2.2.1.ext O0.2)) hZ (hw _ (List.mem_of_getElem? (i := 21) rfl)) (hw _ (List.mem_of_getElem? (i := 20) rfl)) (by decide) (by decide)) q2a q2c (g := (mkF m 91 #[.val (.ref a_NOT_SUPPORTED), .val (.int (0 : Int32)), .unset] [(.ref a_NOT_SUPPORTED), (.ref a__SwitchMap_com_example_demarc_demarc_TransactionAttributeType)])) rfl (by rw [hml]; rfl) (Steps.refl _) (argsL := []) (rest := [(.ref a__SwitchMap_com_example_demarc_demarc_TransactionAttributeType)]) (lenOf pd_0 rfl) rfl (by show 2 * 0 + _ ≤ _; exact Nat.le_of_eq rfl) (hb hby d_prog_19_method_4_91) (fun _ _ => ⟨rfl, e1, (by decide : 0 + 0 ≤ _), (by decide : 0 + 0 ≤ _)⟩)
  dsimp only [Pt.U, Pt.locs, Pt.cells, Pt.slots] at X2 l2 y2 z2 st2 hQ2
  subst l2 y2 z2
  obtain ⟨rfl, N2q, e2⟩ := hQ2
  have N2 := Fr.app N0 N2q
  obtain ⟨c3, Ar3, q3, S3, M3, Hh3, G3⟩ := (id (hS.2.2.2.2.2.2.2.2.2.2.2.2.2.2.2.2.2.2.2.2.2.2.2.2.2.2.2.ext O0.2))
  have hin3 : ¬ ((3 : Int32) < 0 ∨ c3.slots.size ≤ ((3 : Int32)).toNatClampNeg) := inb_of S3 ⟨by decide, by decide⟩
  have hat3 : c3.slots[((3 : Int32)).toNatClampNeg]? = some (.int (5 : Int32)) := Hh3.at hin3 rfl
  obtain ⟨T4, X4, e4, st4⟩ := getS2 X2 hx hZ hown (host := "") (Or.inl (hw _ (List.mem_of_getElem? (i := 36) rfl))) Via.refl e2 (hS.2.2.2.2.2.2.2.2.2.2.2.2.2.2.2.2.2.2.2.2.2.1.ext O0.2) (g := (mkF m 148 #[.val (.ref a_NOT_SUPPORTED), .val (.int (0 : Int32)), .unset] [])) rfl (hb hby d_prog_19_method_4_148)
  obtain ⟨fs, hr, hrun, hended, hW, hsame⟩ := X4.leave (v := (some (.ref a_NONE))) (fun h => by rw [Bd.returns] at h; cases h)
  refine ⟨_, _, pre0 _ ?_, hrun, hended, _, _, rfl, ?_, ⟨_, rfl⟩, hW, hsame.mono (by decide) (by decide)⟩
  · refine XS.iloadN X0.here hx rfl (hb hby d_prog_19_method_4_0) rfl ?_
    show Steps p.tables e below (s₁.setTop (mkF m 1 #[.val (.ref a_NOT_SUPPORTED), .val (.int (0 : Int32)), .unset] [(.int (0 : Int32))])) _
    refine XS.ifYes X0.here hx rfl (pc0 := 1) (pc' := 87) rfl (hb hby d_prog_19_method_4_1) rfl ((if0 _ _).trans (teq (by decide : (0 : Int32) = (0 : Int32))).1) (by decide) (by decide) ?_
    show Steps p.tables e below (s₁.setTop (mkF m 87 #[.val (.ref a_NOT_SUPPORTED), .val (.int (0 : Int32)), .unset] [])) _
    refine st1 _ ?_
    show Steps p.tables e below (T1.setTop (mkF m 90 #[.val (.ref a_NOT_SUPPORTED), .val (.int (0 : Int32)), .unset] [(.ref a__SwitchMap_com_example_demarc_demarc_TransactionAttributeType)])) _
    refine XS.aloadN X1.here hx rfl (hb hby d_prog_19_method_4_90) rfl rfl ?_
    show Steps p.tables e below (T1.setTop (mkF m 91 #[.val (.ref a_NOT_SUPPORTED), .val (.int (0 : Int32)), .unset] [(.ref a_NOT_SUPPORTED), (.ref a__SwitchMap_com_example_demarc_demarc_TransactionAttributeType)])) _
    refine st2.trans ?_
    show Steps p.tables e below (T2.setTop (mkF m 94 #[.val (.ref a_NOT_SUPPORTED), .val (.int (0 : Int32)), .unset] [(.int (3 : Int32)), (.ref a__SwitchMap_com_example_demarc_demarc_TransactionAttributeType)])) _
    refine X2.iaload hx (j := (3 : Int32)) (v := (.int (5 : Int32))) (by rw [e2]; exact Ar3.1) (State.isArrayOf_alike hZ.alike Ar3.2.1) Ar3.2.2 hin3 hat3 (g := (mkF m 94 #[.val (.ref a_NOT_SUPPORTED), .val (.int (0 : Int32)), .unset] [(.int (3 : Int32)), (.ref a__SwitchMap_com_example_demarc_demarc_TransactionAttributeType)])) rfl rfl (hb hby d_prog_19_method_4_94) _ ?_
    show Steps p.tables e below (T2.setTop (mkF m 95 #[.val (.ref a_NOT_SUPPORTED), .val (.int (0 : Int32)), .unset] [(.int (5 : Int32))])) _
    refine XS.tswIn X2.here hx rfl (pc0 := 95) (pc' := 148) rfl (hb hby d_prog_19_method_4_95) rfl (by decide) (o := 53) rfl (by decide) (by decide) ?_
    show Steps p.tables e below (T2.setTop (mkF m 148 #[.val (.ref a_NOT_SUPPORTED), .val (.int (0 : Int32)), .unset] [])) _
    refine st4 _ ?_
    show Steps p.tables e below (T4.setTop (mkF m 151 #[.val (.ref a_NOT_SUPPORTED), .val (.int (0 : Int32)), .unset] [(.ref a_NONE)])) _
    refine XS.goto X4.here hx rfl (pc0 := 151) (pc' := 157) rfl (hb hby d_prog_19_method_4_151) (by decide) (by decide) ?_
    show Steps p.tables e below (T4.setTop (mkF m 157 #[.val (.ref a_NOT_SUPPORTED), .val (.int (0 : Int32)), .unset] [(.ref a_NONE)])) _
    refine XS.astoreN X4.here hx rfl (hb hby d_prog_19_method_4_157) rfl rfl (l' := #[.val (.ref a_NOT_SUPPORTED), .val (.int (0 : Int32)), .val (.ref a_NONE)]) rfl ?_
    show Steps p.tables e below (T4.setTop (mkF m 158 #[.val (.ref a_NOT_SUPPORTED), .val (.int (0 : Int32)), .val (.ref a_NONE)] [])) _
    refine XS.aloadN X4.here hx rfl (hb hby d_prog_19_method_4_158) rfl rfl ?_
    show Steps p.tables e below (T4.setTop (mkF m 159 #[.val (.ref a_NOT_SUPPORTED), .val (.int (0 : Int32)), .val (.ref a_NONE)] [(.ref a_NONE)])) _
    exact retOut X4 hx Bd.returns rfl (Or.inr (Or.inr (Or.inr (Or.inr ⟨rfl, rfl, rfl⟩)))) (hb hby d_prog_19_method_4_159) hr
  · show QR a_NONE h0 n0 _ T4.heap _
    rw [e4]
    exact ⟨rfl, N2, rfl⟩
set_option maxRecDepth 65536 in
set_option maxHeartbeats 40000000 in
theorem rm0 (l : Launch) (Z : State) (a0 : Array Value) (hw : ∀ d ∈ tables_1, d.before a0 Z = true) (ws : List Jvm.Cond) (a_REQUIRED : Addr) (a_NEVER : Addr) (a_JOIN : Addr) (a__SwitchMap_com_example_demarc_demarc_TransactionAttributeType : Addr) (a_MANDATORY : Addr) (a_REQUIRES_NEW : Addr) (a_REFUSED : Addr) (a_SUPPORTS : Addr) (a_NONE : Addr) (a_NEW : Addr) (a_NOT_SUPPORTED : Addr) (k_a__SwitchMap_com_example_demarc_demarc_TransactionAttributeType : ClassId) (hS : SB Z a_REQUIRED a_NEVER a_JOIN a__SwitchMap_com_example_demarc_demarc_TransactionAttributeType a_MANDATORY a_REQUIRES_NEW a_REFUSED a_SUPPORTS a_NONE a_NEW a_NOT_SUPPORTED k_a__SwitchMap_com_example_demarc_demarc_TransactionAttributeType) (p0 p1 : Int32) (h0 : Heap) (n0 : Nat) (O0 : Old Z n0 h0) :
    MetFree l x (head1 (Jvm.Cond.code x code maxLocals ret :: ws) room_1) (fun a U => a = #[(.int p0), (.int p1)] ∧ Z.Warmed39 U.vm ∧ U.heap = h0) (fun _ _ _ _ _ => True) (fun _ U o U' => ∃ v L, o = .returned v ∧ Q0 n0 v U'.heap L ∧ FrameEnd U o U' L room_1.cells room_1.slots) := by
  refine MetFree.of_bodySF (plainFor_of_name pn_2) hisR ?_
  intro p e s m args below meth c s₁ Bd hml0 hP hK
  obtain ⟨rfl, hZ, hh⟩ := hP
  have hx := Bd.exec
  have hby := Bd.bytes
  have hml : c.maxLocals = 8 := hml0
  have hown : s.vm.findClass "com/example/demarc/demarc/PlacementOfPinLaw" = some m.cls := findClass_of_methodNamed Bd.named
  have hnm := (name_of_methodNamed Bd.named Bd.method).1
  have X0 : Stand p l e room_1 s m #[(.int p0), (.int p1)] below meth c s₁ [] 0 0 := Stand.of_body Bd
  have e0 : s₁.heap = h0 := by rw [← hh, Bd.state]; rfl
  have N0 := Fr.nil n0
  have pre0 : ∀ t, Steps p.tables e below (s₁.setTop (mkF m 0 #[.val (.int p0), .val (.int p1), .unset, .unset, .unset, .unset, .unset, .unset] [])) t → Steps p.tables e below (s₁.setTop (entryFrame m #[(.int p0), (.int p1)] maxLocals)) t := fun t k => castTop (ef_rm0 m (p0) (p1)) k
  have gp1 : ∀ t, Steps p.tables e below (s₁.setTop (mkF m 11 #[.val (.int p0), .val (.int p1), .val (.int ((p0 &&& (2147483647 : Int32)) % (6 : Int32))), .unset, .unset, .unset, .unset, .unset] [(.int (p1 &&& (1 : Int32)))])) t → Steps p.tables e below (s₁.setTop (entryFrame m #[(.int p0), (.int p1)] maxLocals)) t := fun t kt => pre0 t (by
    refine XS.iloadN X0.here hx rfl (hb hby at_0) rfl ?_
    show Steps p.tables e below (s₁.setTop (mkF m 1 #[.val (.int p0), .val (.int p1), .unset, .unset, .unset, .unset, .unset, .unset] [(.int p0)])) _
    refine X0.ldcInt hx hown (mvT hZ (hw _ (List.mem_of_getElem? (i := 0) rfl))) (g := (mkF m 1 #[.val (.int p0), .val (.int p1), .unset, .unset, .unset, .unset, .unset, .unset] [(.int p0)])) rfl (hb hby at_1) _ ?_
    show Steps p.tables e below (s₁.setTop (mkF m 3 #[.val (.int p0), .val (.int p1), .unset, .unset, .unset, .unset, .unset, .unset] [(.int (2147483647 : Int32)), (.int p0)])) _
    refine XS.iand X0.here hx rfl (hb hby at_3) rfl ?_
    show Steps p.tables e below (s₁.setTop (mkF m 4 #[.val (.int p0), .val (.int p1), .unset, .unset, .unset, .unset, .unset, .unset] [(.int (p0 &&& (2147483647 : Int32)))])) _
    refine XS.bipush X0.here hx rfl (hb hby at_4) ?_
    show Steps p.tables e below (s₁.setTop (mkF m 6 #[.val (.int p0), .val (.int p1), .unset, .unset, .unset, .unset, .unset, .unset] [(.int (6 : Int32)), (.int (p0 &&& (2147483647 : Int32)))])) _
    refine iremM X0 hx rfl (hb hby at_6) rfl (by decide) ?_
    show Steps p.tables e below (s₁.setTop (mkF m 7 #[.val (.int p0), .val (.int p1), .unset, .unset, .unset, .unset, .unset, .unset] [(.int ((p0 &&& (2147483647 : Int32)) % (6 : Int32)))])) _
    refine XS.istoreN X0.here hx rfl (hb hby at_7) rfl (l' := #[.val (.int p0), .val (.int p1), .val (.int ((p0 &&& (2147483647 : Int32)) % (6 : Int32))), .unset, .unset, .unset, .unset, .unset]) rfl ?_
    show Steps p.tables e below (s₁.setTop (mkF m 8 #[.val (.int p0), .val (.int p1), .val (.int ((p0 &&& (2147483647 : Int32)) % (6 : Int32))), .unset, .unset, .unset, .unset, .unset] [])) _
    refine XS.iloadN X0.here hx rfl (hb hby at_8) rfl ?_
    show Steps p.tables e below (s₁.setTop (mkF m 9 #[.val (.int p0), .val (.int p1), .val (.int ((p0 &&& (2147483647 : Int32)) % (6 : Int32))), .unset, .unset, .unset, .unset, .unset] [(.int p1)])) _
    refine XS.iconst X0.here hx rfl (hb hby at_9) ?_
    show Steps p.tables e below (s₁.setTop (mkF m 10 #[.val (.int p0), .val (.int p1), .val (.int ((p0 &&& (2147483647 : Int32)) % (6 : Int32))), .unset, .unset, .unset, .unset, .unset] [(.int (1 : Int32)), (.int p1)])) _
    refine XS.iand X0.here hx rfl (hb hby at_10) rfl ?_
    show Steps p.tables e below (s₁.setTop (mkF m 11 #[.val (.int p0), .val (.int p1), .val (.int ((p0 &&& (2147483647 : Int32)) % (6 : Int32))), .unset, .unset, .unset, .unset, .unset] [(.int (p1 &&& (1 : Int32)))])) _
    exact kt)
  by_cases hc11 : (p1 &&& (1 : Int32)) = (0 : Int32)
  · have gp2 : ∀ t, Steps p.tables e below (s₁.setTop (mkF m 21 #[.val (.int p0), .val (.int p1), .val (.int ((p0 &&& (2147483647 : Int32)) % (6 : Int32))), .val (.int (0 : Int32)), .unset, .unset, .unset, .unset] [(.int ((p0 &&& (2147483647 : Int32)) % (6 : Int32)))])) t → Steps p.tables e below (s₁.setTop (entryFrame m #[(.int p0), (.int p1)] maxLocals)) t := fun t kt => gp1 t (by
      refine XS.ifYes X0.here hx rfl (pc0 := 11) (pc' := 18) rfl (hb hby at_11) rfl ((if0 _ _).trans (teq hc11).1) (by decide) (by decide) ?_
      show Steps p.tables e below (s₁.setTop (mkF m 18 #[.val (.int p0), .val (.int p1), .val (.int ((p0 &&& (2147483647 : Int32)) % (6 : Int32))), .unset, .unset, .unset, .unset, .unset] [])) _
      refine XS.iconst X0.here hx rfl (hb hby at_18) ?_
      show Steps p.tables e below (s₁.setTop (mkF m 19 #[.val (.int p0), .val (.int p1), .val (.int ((p0 &&& (2147483647 : Int32)) % (6 : Int32))), .unset, .unset, .unset, .unset, .unset] [(.int (0 : Int32))])) _
      refine XS.istoreN X0.here hx rfl (hb hby at_19) rfl (l' := #[.val (.int p0), .val (.int p1), .val (.int ((p0 &&& (2147483647 : Int32)) % (6 : Int32))), .val (.int (0 : Int32)), .unset, .unset, .unset, .unset]) rfl ?_
      show Steps p.tables e below (s₁.setTop (mkF m 20 #[.val (.int p0), .val (.int p1), .val (.int ((p0 &&& (2147483647 : Int32)) % (6 : Int32))), .val (.int (0 : Int32)), .unset, .unset, .unset, .unset] [])) _
      refine XS.iloadN X0.here hx rfl (hb hby at_20) rfl ?_
      show Steps p.tables e below (s₁.setTop (mkF m 21 #[.val (.int p0), .val (.int p1), .val (.int ((p0 &&& (2147483647 : Int32)) % (6 : Int32))), .val (.int (0 : Int32)), .unset, .unset, .unset, .unset] [(.int ((p0 &&& (2147483647 : Int32)) % (6 : Int32)))])) _
      exact kt)
    by_cases hc21 : ((p0 &&& (2147483647 : Int32)) % (6 : Int32)) = (0 : Int32)
    · obtain ⟨T3, X3, e3, st3⟩ := getS2 X0 hx hZ hown (host := "") (Or.inl (hw _ (List.mem_of_getElem? (i := 1) rfl))) Via.refl e0 (hS.2.1.ext O0.2) (g := (mkF m 24 #[.val (.int p0), .val (.int p1), .val (.int ((p0 &&& (2147483647 : Int32)) % (6 : Int32))), .val (.int (0 : Int32)), .unset, .unset, .unset, .unset] [])) rfl (hb hby at_24)
      obtain ⟨T4, X4, e4, st4⟩ := getS2 X3 hx hZ hown (host := "") (Or.inl (hw _ (List.mem_of_getElem? (i := 1) rfl))) Via.refl e3 (hS.2.1.ext O0.2) (g := (mkF m 91 #[.val (.int p0), .val (.int p1), .val (.int ((p0 &&& (2147483647 : Int32)) % (6 : Int32))), .val (.int (0 : Int32)), .val (.ref a_REQUIRED), .unset, .unset, .unset] [(.ref a_REQUIRED)])) rfl (hb hby at_91)
      obtain ⟨T5, X5, e5, st5⟩ := getS2 X4 hx hZ hown (host := "") (Or.inl (hw _ (List.mem_of_getElem? (i := 1) rfl))) Via.refl e4 (hS.2.1.ext O0.2) (g := (mkF m 122 #[.val (.int p0), .val (.int p1), .val (.int ((p0 &&& (2147483647 : Int32)) % (6 : Int32))), .val (.int (0 : Int32)), .val (.ref a_REQUIRED), .val (.int (1 : Int32)), .unset, .unset] [(.ref a_REQUIRED)])) rfl (hb hby at_122)
      obtain ⟨T6, X6, e6, st6⟩ := getS2 X5 hx hZ hown (host := "") (Or.inl (hw _ (List.mem_of_getElem? (i := 25) rfl))) Via.refl e5 (hS.2.2.2.2.2.2.2.2.2.2.1.ext O0.2) (g := (mkF m 202 #[.val (.int p0), .val (.int p1), .val (.int ((p0 &&& (2147483647 : Int32)) % (6 : Int32))), .val (.int (0 : Int32)), .val (.ref a_REQUIRED), .val (.int (1 : Int32)), .val (.int (1 : Int32)), .unset] [(.ref a_REQUIRED)])) rfl (hb hby at_202)
      obtain ⟨T7, X7, e7, st7⟩ := getS2 X6 hx hZ hown (host := "") (Or.inl (hw _ (List.mem_of_getElem? (i := 37) rfl))) Via.refl e6 (hS.2.2.2.2.2.2.2.2.2.2.2.2.2.2.2.2.2.2.2.2.2.2.2.1.ext O0.2) (g := (mkF m 221 #[.val (.int p0), .val (.int p1), .val (.int ((p0 &&& (2147483647 : Int32)) % (6 : Int32))), .val (.int (0 : Int32)), .val (.ref a_REQUIRED), .val (.int (1 : Int32)), .val (.int (1 : Int32)), .unset] [])) rfl (hb hby at_221)
      obtain ⟨_, _, ⟨T8, L8, k8, n8⟩, -, X8, ⟨Lc8, hQ8, l8, y8, z8⟩, st8⟩ := Jvm.LawKit.callS X7 hx (y := (⟨"com/example/demarc/demarc/Placement", "of", "(Lcom/example/demarc/demarc/TransactionAttributeType;Z)Lcom/example/demarc/demarc/Placement;"⟩ : MethodName)) hown (mvT hZ (hw _ (List.mem_of_getElem? (i := 9) rfl))) (mvT hZ (hw _ (List.mem_of_getElem? (i := 10) rfl))) (mvT hZ (hw _ (List.mem_of_getElem? (i := 7) rfl))) (mvT hZ (hw _ (List.mem_of_getElem? (i := 11) rfl))) (by decide) (backOf (W := 0) (rm_of_REQUIRED_0 l Z a0 hw [] a_REQUIRED a_NEVER a_JOIN a__SwitchMap_com_example_demarc_demarc_TransactionAttributeType a_MANDATORY a_REQUIRES_NEW a_REFUSED a_SUPPORTS a_NONE a_NEW a_NOT_SUPPORTED k_a__SwitchMap_com_example_demarc_demarc_TransactionAttributeType hS h0 n0 O0) hZ (hw _ (List.mem_of_getElem? (i := 11) rfl)) (hw _ (List.mem_of_getElem? (i := 7) rfl)) (by decide) (by decide)) (g := (mkF m 237 #[.val (.int p0), .val (.int p1), .val (.int ((p0 &&& (2147483647 : Int32)) % (6 : Int32))), .val (.int (0 : Int32)), .val (.ref a_REQUIRED), .val (.int (1 : Int32)), .val (.int (1 : Int32)), .val (.ref a_NEW)] [(.int (0 : Int32)), (.ref a_REQUIRED)])) rfl (by rw [hml]; rfl) (argsL := [(.ref a_REQUIRED), (.int (0 : Int32))]) (rest := []) (lenOf pd_1 rfl) rfl (by show 2 * 0 + _ ≤ _; exact Nat.le_of_eq rfl) (hb hby at_237) (fun _ _ => ⟨rfl, e7, (by decide : 0 + 0 ≤ _), (by decide : 0 + 0 ≤ _)⟩)
      dsimp only [Pt.U, Pt.locs, Pt.cells, Pt.slots] at X8 l8 y8 z8 st8 hQ8
      subst l8 y8 z8
      obtain ⟨rfl, N8q, e8⟩ := hQ8
      have N8 := Fr.app N0 N8q
      obtain ⟨fs, hr, hrun, hended, hW, hsame⟩ := X8.leave (v := (some (.int (1 : Int32)))) (fun h => by rw [Bd.returns] at h; cases h)
      refine ⟨_, _, gp2 _ ?_, hrun, hended, _, _, rfl, ?_, ⟨_, rfl⟩, hW, hsame.mono (by decide) (by decide)⟩
      · refine XS.ifNo X0.here hx rfl (hb hby at_21) rfl ((if0 _ _).trans (teq hc21).2) ?_
        show Steps p.tables e below (s₁.setTop (mkF m 24 #[.val (.int p0), .val (.int p1), .val (.int ((p0 &&& (2147483647 : Int32)) % (6 : Int32))), .val (.int (0 : Int32)), .unset, .unset, .unset, .unset] [])) _
        refine st3 _ ?_
        show Steps p.tables e below (T3.setTop (mkF m 27 #[.val (.int p0), .val (.int p1), .val (.int ((p0 &&& (2147483647 : Int32)) % (6 : Int32))), .val (.int (0 : Int32)), .unset, .unset, .unset, .unset] [(.ref a_REQUIRED)])) _
        refine XS.astore X3.here hx rfl (hb hby at_27) rfl rfl (l' := #[.val (.int p0), .val (.int p1), .val (.int ((p0 &&& (2147483647 : Int32)) % (6 : Int32))), .val (.int (0 : Int32)), .val (.ref a_REQUIRED), .unset, .unset, .unset]) rfl ?_
        show Steps p.tables e below (T3.setTop (mkF m 29 #[.val (.int p0), .val (.int p1), .val (.int ((p0 &&& (2147483647 : Int32)) % (6 : Int32))), .val (.int (0 : Int32)), .val (.ref a_REQUIRED), .unset, .unset, .unset] [])) _
        refine XS.goto X3.here hx rfl (pc0 := 29) (pc' := 89) rfl (hb hby at_29) (by decide) (by decide) ?_
        show Steps p.tables e below (T3.setTop (mkF m 89 #[.val (.int p0), .val (.int p1), .val (.int ((p0 &&& (2147483647 : Int32)) % (6 : Int32))), .val (.int (0 : Int32)), .val (.ref a_REQUIRED), .unset, .unset, .unset] [])) _
        refine XS.aload X3.here hx rfl (hb hby at_89) rfl rfl ?_
        show Steps p.tables e below (T3.setTop (mkF m 91 #[.val (.int p0), .val (.int p1), .val (.int ((p0 &&& (2147483647 : Int32)) % (6 : Int32))), .val (.int (0 : Int32)), .val (.ref a_REQUIRED), .unset, .unset, .unset] [(.ref a_REQUIRED)])) _
        refine st4 _ ?_
        show Steps p.tables e below (T4.setTop (mkF m 94 #[.val (.int p0), .val (.int p1), .val (.int ((p0 &&& (2147483647 : Int32)) % (6 : Int32))), .val (.int (0 : Int32)), .val (.ref a_REQUIRED), .unset, .unset, .unset] [(.ref a_REQUIRED), (.ref a_REQUIRED)])) _
        refine Jvm.RoadKit.acmp (g := (mkF m 94 #[.val (.int p0), .val (.int p1), .val (.int ((p0 &&& (2147483647 : Int32)) % (6 : Int32))), .val (.int (0 : Int32)), .val (.ref a_REQUIRED), .unset, .unset, .unset] [(.ref a_REQUIRED), (.ref a_REQUIRED)])) X4 hx rfl rfl rfl (pc0 := 94) (pc' := 113) (same := true) rfl (hb hby at_94) rfl (decide_eq_true rfl) (by decide) (by decide) ?_
        show Steps p.tables e below (T4.setTop (mkF m 113 #[.val (.int p0), .val (.int p1), .val (.int ((p0 &&& (2147483647 : Int32)) % (6 : Int32))), .val (.int (0 : Int32)), .val (.ref a_REQUIRED), .unset, .unset, .unset] [])) _
        refine XS.iconst X4.here hx rfl (hb hby at_113) ?_
        show Steps p.tables e below (T4.setTop (mkF m 114 #[.val (.int p0), .val (.int p1), .val (.int ((p0 &&& (2147483647 : Int32)) % (6 : Int32))), .val (.int (0 : Int32)), .val (.ref a_REQUIRED), .unset, .unset, .unset] [(.int (1 : Int32))])) _
        refine XS.goto X4.here hx rfl (pc0 := 114) (pc' := 118) rfl (hb hby at_114) (by decide) (by decide) ?_
        show Steps p.tables e below (T4.setTop (mkF m 118 #[.val (.int p0), .val (.int p1), .val (.int ((p0 &&& (2147483647 : Int32)) % (6 : Int32))), .val (.int (0 : Int32)), .val (.ref a_REQUIRED), .unset, .unset, .unset] [(.int (1 : Int32))])) _
        refine XS.istore X4.here hx rfl (hb hby at_118) rfl (l' := #[.val (.int p0), .val (.int p1), .val (.int ((p0 &&& (2147483647 : Int32)) % (6 : Int32))), .val (.int (0 : Int32)), .val (.ref a_REQUIRED), .val (.int (1 : Int32)), .unset, .unset]) rfl ?_
        show Steps p.tables e below (T4.setTop (mkF m 120 #[.val (.int p0), .val (.int p1), .val (.int ((p0 &&& (2147483647 : Int32)) % (6 : Int32))), .val (.int (0 : Int32)), .val (.ref a_REQUIRED), .val (.int (1 : Int32)), .unset, .unset] [])) _
        refine XS.aload X4.here hx rfl (hb hby at_120) rfl rfl ?_
        show Steps p.tables e below (T4.setTop (mkF m 122 #[.val (.int p0), .val (.int p1), .val (.int ((p0 &&& (2147483647 : Int32)) % (6 : Int32))), .val (.int (0 : Int32)), .val (.ref a_REQUIRED), .val (.int (1 : Int32)), .unset, .unset] [(.ref a_REQUIRED)])) _
        refine st5 _ ?_
        show Steps p.tables e below (T5.setTop (mkF m 125 #[.val (.int p0), .val (.int p1), .val (.int ((p0 &&& (2147483647 : Int32)) % (6 : Int32))), .val (.int (0 : Int32)), .val (.ref a_REQUIRED), .val (.int (1 : Int32)), .unset, .unset] [(.ref a_REQUIRED), (.ref a_REQUIRED)])) _
        refine Jvm.RoadKit.acmp (g := (mkF m 125 #[.val (.int p0), .val (.int p1), .val (.int ((p0 &&& (2147483647 : Int32)) % (6 : Int32))), .val (.int (0 : Int32)), .val (.ref a_REQUIRED), .val (.int (1 : Int32)), .unset, .unset] [(.ref a_REQUIRED), (.ref a_REQUIRED)])) X5 hx rfl rfl rfl (pc0 := 125) (pc' := 136) (same := true) rfl (hb hby at_125) rfl (decide_eq_true rfl) (by decide) (by decide) ?_
        show Steps p.tables e below (T5.setTop (mkF m 136 #[.val (.int p0), .val (.int p1), .val (.int ((p0 &&& (2147483647 : Int32)) % (6 : Int32))), .val (.int (0 : Int32)), .val (.ref a_REQUIRED), .val (.int (1 : Int32)), .unset, .unset] [])) _
        refine XS.iconst X5.here hx rfl (hb hby at_136) ?_
        show Steps p.tables e below (T5.setTop (mkF m 137 #[.val (.int p0), .val (.int p1), .val (.int ((p0 &&& (2147483647 : Int32)) % (6 : Int32))), .val (.int (0 : Int32)), .val (.ref a_REQUIRED), .val (.int (1 : Int32)), .unset, .unset] [(.int (1 : Int32))])) _
        refine XS.goto X5.here hx rfl (pc0 := 137) (pc' := 141) rfl (hb hby at_137) (by decide) (by decide) ?_
        show Steps p.tables e below (T5.setTop (mkF m 141 #[.val (.int p0), .val (.int p1), .val (.int ((p0 &&& (2147483647 : Int32)) % (6 : Int32))), .val (.int (0 : Int32)), .val (.ref a_REQUIRED), .val (.int (1 : Int32)), .unset, .unset] [(.int (1 : Int32))])) _
        refine XS.istore X5.here hx rfl (hb hby at_141) rfl (l' := #[.val (.int p0), .val (.int p1), .val (.int ((p0 &&& (2147483647 : Int32)) % (6 : Int32))), .val (.int (0 : Int32)), .val (.ref a_REQUIRED), .val (.int (1 : Int32)), .val (.int (1 : Int32)), .unset]) rfl ?_
        show Steps p.tables e below (T5.setTop (mkF m 143 #[.val (.int p0), .val (.int p1), .val (.int ((p0 &&& (2147483647 : Int32)) % (6 : Int32))), .val (.int (0 : Int32)), .val (.ref a_REQUIRED), .val (.int (1 : Int32)), .val (.int (1 : Int32)), .unset] [])) _
        refine XS.iloadN X5.here hx rfl (hb hby at_143) rfl ?_
        show Steps p.tables e below (T5.setTop (mkF m 144 #[.val (.int p0), .val (.int p1), .val (.int ((p0 &&& (2147483647 : Int32)) % (6 : Int32))), .val (.int (0 : Int32)), .val (.ref a_REQUIRED), .val (.int (1 : Int32)), .val (.int (1 : Int32)), .unset] [(.int (0 : Int32))])) _
        refine XS.ifYes X5.here hx rfl (pc0 := 144) (pc' := 200) rfl (hb hby at_144) rfl ((if0 _ _).trans (teq (by decide : (0 : Int32) = (0 : Int32))).1) (by decide) (by decide) ?_
        show Steps p.tables e below (T5.setTop (mkF m 200 #[.val (.int p0), .val (.int p1), .val (.int ((p0 &&& (2147483647 : Int32)) % (6 : Int32))), .val (.int (0 : Int32)), .val (.ref a_REQUIRED), .val (.int (1 : Int32)), .val (.int (1 : Int32)), .unset] [])) _
        refine XS.aload X5.here hx rfl (hb hby at_200) rfl rfl ?_
        show Steps p.tables e below (T5.setTop (mkF m 202 #[.val (.int p0), .val (.int p1), .val (.int ((p0 &&& (2147483647 : Int32)) % (6 : Int32))), .val (.int (0 : Int32)), .val (.ref a_REQUIRED), .val (.int (1 : Int32)), .val (.int (1 : Int32)), .unset] [(.ref a_REQUIRED)])) _
        refine st6 _ ?_
        show Steps p.tables e below (T6.setTop (mkF m 205 #[.val (.int p0), .val (.int p1), .val (.int ((p0 &&& (2147483647 : Int32)) % (6 : Int32))), .val (.int (0 : Int32)), .val (.ref a_REQUIRED), .val (.int (1 : Int32)), .val (.int (1 : Int32)), .unset] [(.ref a_MANDATORY), (.ref a_REQUIRED)])) _
        refine Jvm.RoadKit.acmp (g := (mkF m 205 #[.val (.int p0), .val (.int p1), .val (.int ((p0 &&& (2147483647 : Int32)) % (6 : Int32))), .val (.int (0 : Int32)), .val (.ref a_REQUIRED), .val (.int (1 : Int32)), .val (.int (1 : Int32)), .unset] [(.ref a_MANDATORY), (.ref a_REQUIRED)])) X6 hx rfl rfl rfl (pc0 := 205) (pc' := 216) (same := false) rfl (hb hby at_205) rfl (decide_eq_false fun q => (Fld.ne hS.2.2.2.2.1 hS.2.2.2.2.2.2.2.2.2.2.2.1 (fun q => absurd (Value.int.inj q) (by decide))) (Value.ref.inj q)) (by decide) (by decide) ?_
        show Steps p.tables e below (T6.setTop (mkF m 216 #[.val (.int p0), .val (.int p1), .val (.int ((p0 &&& (2147483647 : Int32)) % (6 : Int32))), .val (.int (0 : Int32)), .val (.ref a_REQUIRED), .val (.int (1 : Int32)), .val (.int (1 : Int32)), .unset] [])) _
        refine XS.iload X6.here hx rfl (hb hby at_216) rfl ?_
        show Steps p.tables e below (T6.setTop (mkF m 218 #[.val (.int p0), .val (.int p1), .val (.int ((p0 &&& (2147483647 : Int32)) % (6 : Int32))), .val (.int (0 : Int32)), .val (.ref a_REQUIRED), .val (.int (1 : Int32)), .val (.int (1 : Int32)), .unset] [(.int (1 : Int32))])) _
        refine XS.ifNo X6.here hx rfl (hb hby at_218) rfl ((if0 _ _).trans (feq (by decide : ¬ ((1 : Int32) = (0 : Int32)))).1) ?_
        show Steps p.tables e below (T6.setTop (mkF m 221 #[.val (.int p0), .val (.int p1), .val (.int ((p0 &&& (2147483647 : Int32)) % (6 : Int32))), .val (.int (0 : Int32)), .val (.ref a_REQUIRED), .val (.int (1 : Int32)), .val (.int (1 : Int32)), .unset] [])) _
        refine st7 _ ?_
        show Steps p.tables e below (T7.setTop (mkF m 224 #[.val (.int p0), .val (.int p1), .val (.int ((p0 &&& (2147483647 : Int32)) % (6 : Int32))), .val (.int (0 : Int32)), .val (.ref a_REQUIRED), .val (.int (1 : Int32)), .val (.int (1 : Int32)), .unset] [(.ref a_NEW)])) _
        refine XS.astore X7.here hx rfl (hb hby at_224) rfl rfl (l' := #[.val (.int p0), .val (.int p1), .val (.int ((p0 &&& (2147483647 : Int32)) % (6 : Int32))), .val (.int (0 : Int32)), .val (.ref a_REQUIRED), .val (.int (1 : Int32)), .val (.int (1 : Int32)), .val (.ref a_NEW)]) rfl ?_
        show Steps p.tables e below (T7.setTop (mkF m 226 #[.val (.int p0), .val (.int p1), .val (.int ((p0 &&& (2147483647 : Int32)) % (6 : Int32))), .val (.int (0 : Int32)), .val (.ref a_REQUIRED), .val (.int (1 : Int32)), .val (.int (1 : Int32)), .val (.ref a_NEW)] [])) _
        refine XS.goto X7.here hx rfl (pc0 := 226) (pc' := 234) rfl (hb hby at_226) (by decide) (by decide) ?_
        show Steps p.tables e below (T7.setTop (mkF m 234 #[.val (.int p0), .val (.int p1), .val (.int ((p0 &&& (2147483647 : Int32)) % (6 : Int32))), .val (.int (0 : Int32)), .val (.ref a_REQUIRED), .val (.int (1 : Int32)), .val (.int (1 : Int32)), .val (.ref a_NEW)] [])) _
        refine XS.aload X7.here hx rfl (hb hby at_234) rfl rfl ?_
        show Steps p.tables e below (T7.setTop (mkF m 236 #[.val (.int p0), .val (.int p1), .val (.int ((p0 &&& (2147483647 : Int32)) % (6 : Int32))), .val (.int (0 : Int32)), .val (.ref a_REQUIRED), .val (.int (1 : Int32)), .val (.int (1 : Int32)), .val (.ref a_NEW)] [(.ref a_REQUIRED)])) _
        refine XS.iloadN X7.here hx rfl (hb hby at_236) rfl ?_
        show Steps p.tables e below (T7.setTop (mkF m 237 #[.val (.int p0), .val (.int p1), .val (.int ((p0 &&& (2147483647 : Int32)) % (6 : Int32))), .val (.int (0 : Int32)), .val (.ref a_REQUIRED), .val (.int (1 : Int32)), .val (.int (1 : Int32)), .val (.ref a_NEW)] [(.int (0 : Int32)), (.ref a_REQUIRED)])) _
        refine st8 _ ?_
        show Steps p.tables e below (T8.setTop (mkF m 240 #[.val (.int p0), .val (.int p1), .val (.int ((p0 &&& (2147483647 : Int32)) % (6 : Int32))), .val (.int (0 : Int32)), .val (.ref a_REQUIRED), .val (.int (1 : Int32)), .val (.int (1 : Int32)), .val (.ref a_NEW)] [(.ref a_NEW)])) _
        refine XS.aload X8.here hx rfl (hb hby at_240) rfl rfl ?_
        show Steps p.tables e below (T8.setTop (mkF m 242 #[.val (.int p0), .val (.int p1), .val (.int ((p0 &&& (2147483647 : Int32)) % (6 : Int32))), .val (.int (0 : Int32)), .val (.ref a_REQUIRED), .val (.int (1 : Int32)), .val (.int (1 : Int32)), .val (.ref a_NEW)] [(.ref a_NEW), (.ref a_NEW)])) _
        refine Jvm.RoadKit.acmp (g := (mkF m 242 #[.val (.int p0), .val (.int p1), .val (.int ((p0 &&& (2147483647 : Int32)) % (6 : Int32))), .val (.int (0 : Int32)), .val (.ref a_REQUIRED), .val (.int (1 : Int32)), .val (.int (1 : Int32)), .val (.ref a_NEW)] [(.ref a_NEW), (.ref a_NEW)])) X8 hx rfl rfl rfl (pc0 := 242) (pc' := 245) (same := true) rfl (hb hby at_242) rfl (decide_eq_true rfl) (by decide) (by decide) ?_
        show Steps p.tables e below (T8.setTop (mkF m 245 #[.val (.int p0), .val (.int p1), .val (.int ((p0 &&& (2147483647 : Int32)) % (6 : Int32))), .val (.int (0 : Int32)), .val (.ref a_REQUIRED), .val (.int (1 : Int32)), .val (.int (1 : Int32)), .val (.ref a_NEW)] [])) _
        refine XS.iconst X8.here hx rfl (hb hby at_245) ?_
        show Steps p.tables e below (T8.setTop (mkF m 246 #[.val (.int p0), .val (.int p1), .val (.int ((p0 &&& (2147483647 : Int32)) % (6 : Int32))), .val (.int (0 : Int32)), .val (.ref a_REQUIRED), .val (.int (1 : Int32)), .val (.int (1 : Int32)), .val (.ref a_NEW)] [(.int (1 : Int32))])) _
        refine XS.goto X8.here hx rfl (pc0 := 246) (pc' := 250) rfl (hb hby at_246) (by decide) (by decide) ?_
        show Steps p.tables e below (T8.setTop (mkF m 250 #[.val (.int p0), .val (.int p1), .val (.int ((p0 &&& (2147483647 : Int32)) % (6 : Int32))), .val (.int (0 : Int32)), .val (.ref a_REQUIRED), .val (.int (1 : Int32)), .val (.int (1 : Int32)), .val (.ref a_NEW)] [(.int (1 : Int32))])) _
        exact retN X8 hx (t := .boolean) Bd.returns (by simp) (hb hby at_250) hr
      · show Q0 n0 _ T8.heap _
        rw [e8]
        exact ⟨rfl, N8⟩
    · have gp9 : ∀ t, Steps p.tables e below (s₁.setTop (mkF m 34 #[.val (.int p0), .val (.int p1), .val (.int ((p0 &&& (2147483647 : Int32)) % (6 : Int32))), .val (.int (0 : Int32)), .unset, .unset, .unset, .unset] [(.int (1 : Int32)), (.int ((p0 &&& (2147483647 : Int32)) % (6 : Int32)))])) t → Steps p.tables e below (s₁.setTop (entryFrame m #[(.int p0), (.int p1)] maxLocals)) t := fun t kt => gp2 t (by
        refine XS.ifYes X0.here hx rfl (pc0 := 21) (pc' := 32) rfl (hb hby at_21) rfl ((if0 _ _).trans (feq hc21).2) (by decide) (by decide) ?_
        show Steps p.tables e below (s₁.setTop (mkF m 32 #[.val (.int p0), .val (.int p1), .val (.int ((p0 &&& (2147483647 : Int32)) % (6 : Int32))), .val (.int (0 : Int32)), .unset, .unset, .unset, .unset] [])) _
        refine XS.iloadN X0.here hx rfl (hb hby at_32) rfl ?_
        show Steps p.tables e below (s₁.setTop (mkF m 33 #[.val (.int p0), .val (.int p1), .val (.int ((p0 &&& (2147483647 : Int32)) % (6 : Int32))), .val (.int (0 : Int32)), .unset, .unset, .unset, .unset] [(.int ((p0 &&& (2147483647 : Int32)) % (6 : Int32)))])) _
        refine XS.iconst X0.here hx rfl (hb hby at_33) ?_
        show Steps p.tables e below (s₁.setTop (mkF m 34 #[.val (.int p0), .val (.int p1), .val (.int ((p0 &&& (2147483647 : Int32)) % (6 : Int32))), .val (.int (0 : Int32)), .unset, .unset, .unset, .unset] [(.int (1 : Int32)), (.int ((p0 &&& (2147483647 : Int32)) % (6 : Int32)))])) _
        exact kt)
      by_cases hc34 : ((p0 &&& (2147483647 : Int32)) % (6 : Int32)) = (1 : Int32)
      · obtain ⟨T10, X10, e10, st10⟩ := getS2 X0 hx hZ hown (host := "") (Or.inl (hw _ (List.mem_of_getElem? (i := 27) rfl))) Via.refl e0 (hS.2.2.2.2.2.2.2.2.2.2.2.2.2.1.ext O0.2) (g := (mkF m 37 #[.val (.int p0), .val (.int p1), .val (.int ((p0 &&& (2147483647 : Int32)) % (6 : Int32))), .val (.int (0 : Int32)), .unset, .unset, .unset, .unset] [])) rfl (hb hby at_37)
        obtain ⟨T11, X11, e11, st11⟩ := getS2 X10 hx hZ hown (host := "") (Or.inl (hw _ (List.mem_of_getElem? (i := 1) rfl))) Via.refl e10 (hS.2.1.ext O0.2) (g := (mkF m 91 #[.val (.int p0), .val (.int p1), .val (.int ((p0 &&& (2147483647 : Int32)) % (6 : Int32))), .val (.int (0 : Int32)), .val (.ref a_REQUIRES_NEW), .unset, .unset, .unset] [(.ref a_REQUIRES_NEW)])) rfl (hb hby at_91)
        obtain ⟨T12, X12, e12, st12⟩ := getS2 X11 hx hZ hown (host := "") (Or.inl (hw _ (List.mem_of_getElem? (i := 25) rfl))) Via.refl e11 (hS.2.2.2.2.2.2.2.2.2.2.1.ext O0.2) (g := (mkF m 99 #[.val (.int p0), .val (.int p1), .val (.int ((p0 &&& (2147483647 : Int32)) % (6 : Int32))), .val (.int (0 : Int32)), .val (.ref a_REQUIRES_NEW), .unset, .unset, .unset] [(.ref a_REQUIRES_NEW)])) rfl (hb hby at_99)
        obtain ⟨T13, X13, e13, st13⟩ := getS2 X12 hx hZ hown (host := "") (Or.inl (hw _ (List.mem_of_getElem? (i := 32) rfl))) Via.refl e12 (hS.2.2.2.2.2.2.2.2.2.2.2.2.2.2.2.2.2.2.1.ext O0.2) (g := (mkF m 107 #[.val (.int p0), .val (.int p1), .val (.int ((p0 &&& (2147483647 : Int32)) % (6 : Int32))), .val (.int (0 : Int32)), .val (.ref a_REQUIRES_NEW), .unset, .unset, .unset] [(.ref a_REQUIRES_NEW)])) rfl (hb hby at_107)
        obtain ⟨T14, X14, e14, st14⟩ := getS2 X13 hx hZ hown (host := "") (Or.inl (hw _ (List.mem_of_getElem? (i := 1) rfl))) Via.refl e13 (hS.2.1.ext O0.2) (g := (mkF m 122 #[.val (.int p0), .val (.int p1), .val (.int ((p0 &&& (2147483647 : Int32)) % (6 : Int32))), .val (.int (0 : Int32)), .val (.ref a_REQUIRES_NEW), .val (.int (0 : Int32)), .unset, .unset] [(.ref a_REQUIRES_NEW)])) rfl (hb hby at_122)
        obtain ⟨T15, X15, e15, st15⟩ := getS2 X14 hx hZ hown (host := "") (Or.inl (hw _ (List.mem_of_getElem? (i := 27) rfl))) Via.refl e14 (hS.2.2.2.2.2.2.2.2.2.2.2.2.2.1.ext O0.2) (g := (mkF m 130 #[.val (.int p0), .val (.int p1), .val (.int ((p0 &&& (2147483647 : Int32)) % (6 : Int32))), .val (.int (0 : Int32)), .val (.ref a_REQUIRES_NEW), .val (.int (0 : Int32)), .unset, .unset] [(.ref a_REQUIRES_NEW)])) rfl (hb hby at_130)
        obtain ⟨T16, X16, e16, st16⟩ := getS2 X15 hx hZ hown (host := "") (Or.inl (hw _ (List.mem_of_getElem? (i := 25) rfl))) Via.refl e15 (hS.2.2.2.2.2.2.2.2.2.2.1.ext O0.2) (g := (mkF m 202 #[.val (.int p0), .val (.int p1), .val (.int ((p0 &&& (2147483647 : Int32)) % (6 : Int32))), .val (.int (0 : Int32)), .val (.ref a_REQUIRES_NEW), .val (.int (0 : Int32)), .val (.int (1 : Int32)), .unset] [(.ref a_REQUIRES_NEW)])) rfl (hb hby at_202)
        obtain ⟨T17, X17, e17, st17⟩ := getS2 X16 hx hZ hown (host := "") (Or.inl (hw _ (List.mem_of_getElem? (i := 37) rfl))) Via.refl e16 (hS.2.2.2.2.2.2.2.2.2.2.2.2.2.2.2.2.2.2.2.2.2.2.2.1.ext O0.2) (g := (mkF m 221 #[.val (.int p0), .val (.int p1), .val (.int ((p0 &&& (2147483647 : Int32)) % (6 : Int32))), .val (.int (0 : Int32)), .val (.ref a_REQUIRES_NEW), .val (.int (0 : Int32)), .val (.int (1 : Int32)), .unset] [])) rfl (hb hby at_221)
        obtain ⟨_, _, ⟨T18, L18, k18, n18⟩, -, X18, ⟨Lc18, hQ18, l18, y18, z18⟩, st18⟩ := Jvm.LawKit.callS X17 hx (y := (⟨"com/example/demarc/demarc/Placement", "of", "(Lcom/example/demarc/demarc/TransactionAttributeType;Z)Lcom/example/demarc/demarc/Placement;"⟩ : MethodName)) hown (mvT hZ (hw _ (List.mem_of_getElem? (i := 9) rfl))) (mvT hZ (hw _ (List.mem_of_getElem? (i := 10) rfl))) (mvT hZ (hw _ (List.mem_of_getElem? (i := 7) rfl))) (mvT hZ (hw _ (List.mem_of_getElem? (i := 11) rfl))) (by decide) (backOf (W := 0) (rm_of_REQUIRES_NEW_0 l Z a0 hw [] a_REQUIRED a_NEVER a_JOIN a__SwitchMap_com_example_demarc_demarc_TransactionAttributeType a_MANDATORY a_REQUIRES_NEW a_REFUSED a_SUPPORTS a_NONE a_NEW a_NOT_SUPPORTED k_a__SwitchMap_com_example_demarc_demarc_TransactionAttributeType hS h0 n0 O0) hZ (hw _ (List.mem_of_getElem? (i := 11) rfl)) (hw _ (List.mem_of_getElem? (i := 7) rfl)) (by decide) (by decide)) (g := (mkF m 237 #[.val (.int p0), .val (.int p1), .val (.int ((p0 &&& (2147483647 : Int32)) % (6 : Int32))), .val (.int (0 : Int32)), .val (.ref a_REQUIRES_NEW), .val (.int (0 : Int32)), .val (.int (1 : Int32)), .val (.ref a_NEW)] [(.int (0 : Int32)), (.ref a_REQUIRES_NEW)])) rfl (by rw [hml]; rfl) (argsL := [(.ref a_REQUIRES_NEW), (.int (0 : Int32))]) (rest := []) (lenOf pd_1 rfl) rfl (by show 2 * 0 + _ ≤ _; exact Nat.le_of_eq rfl) (hb hby at_237) (fun _ _ => ⟨rfl, e17, (by decide : 0 + 0 ≤ _), (by decide : 0 + 0 ≤ _)⟩)
        dsimp only [Pt.U, Pt.locs, Pt.cells, Pt.slots] at X18 l18 y18 z18 st18 hQ18
        subst l18 y18 z18
        obtain ⟨rfl, N18q, e18⟩ := hQ18
        have N18 := Fr.app N0 N18q
        obtain ⟨fs, hr, hrun, hended, hW, hsame⟩ := X18.leave (v := (some (.int (1 : Int32)))) (fun h => by rw [Bd.returns] at h; cases h)
        refine ⟨_, _, gp9 _ ?_, hrun, hended, _, _, rfl, ?_, ⟨_, rfl⟩, hW, hsame.mono (by decide) (by decide)⟩
        · refine XS.icmpNo X0.here hx rfl (hb hby at_34) rfl (teq hc34).2 ?_
          show Steps p.tables e below (s₁.setTop (mkF m 37 #[.val (.int p0), .val (.int p1), .val (.int ((p0 &&& (2147483647 : Int32)) % (6 : Int32))), .val (.int (0 : Int32)), .unset, .unset, .unset, .unset] [])) _
          refine st10 _ ?_
          show Steps p.tables e below (T10.setTop (mkF m 40 #[.val (.int p0), .val (.int p1), .val (.int ((p0 &&& (2147483647 : Int32)) % (6 : Int32))), .val (.int (0 : Int32)), .unset, .unset, .unset, .unset] [(.ref a_REQUIRES_NEW)])) _
          refine XS.astore X10.here hx rfl (hb hby at_40) rfl rfl (l' := #[.val (.int p0), .val (.int p1), .val (.int ((p0 &&& (2147483647 : Int32)) % (6 : Int32))), .val (.int (0 : Int32)), .val (.ref a_REQUIRES_NEW), .unset, .unset, .unset]) rfl ?_
          show Steps p.tables e below (T10.setTop (mkF m 42 #[.val (.int p0), .val (.int p1), .val (.int ((p0 &&& (2147483647 : Int32)) % (6 : Int32))), .val (.int (0 : Int32)), .val (.ref a_REQUIRES_NEW), .unset, .unset, .unset] [])) _
          refine XS.goto X10.here hx rfl (pc0 := 42) (pc' := 89) rfl (hb hby at_42) (by decide) (by decide) ?_
          show Steps p.tables e below (T10.setTop (mkF m 89 #[.val (.int p0), .val (.int p1), .val (.int ((p0 &&& (2147483647 : Int32)) % (6 : Int32))), .val (.int (0 : Int32)), .val (.ref a_REQUIRES_NEW), .unset, .unset, .unset] [])) _
          refine XS.aload X10.here hx rfl (hb hby at_89) rfl rfl ?_
          show Steps p.tables e below (T10.setTop (mkF m 91 #[.val (.int p0), .val (.int p1), .val (.int ((p0 &&& (2147483647 : Int32)) % (6 : Int32))), .val (.int (0 : Int32)), .val (.ref a_REQUIRES_NEW), .unset, .unset, .unset] [(.ref a_REQUIRES_NEW)])) _
          refine st11 _ ?_
          show Steps p.tables e below (T11.setTop (mkF m 94 #[.val (.int p0), .val (.int p1), .val (.int ((p0 &&& (2147483647 : Int32)) % (6 : Int32))), .val (.int (0 : Int32)), .val (.ref a_REQUIRES_NEW), .unset, .unset, .unset] [(.ref a_REQUIRED), (.ref a_REQUIRES_NEW)])) _
          refine Jvm.RoadKit.acmp (g := (mkF m 94 #[.val (.int p0), .val (.int p1), .val (.int ((p0 &&& (2147483647 : Int32)) % (6 : Int32))), .val (.int (0 : Int32)), .val (.ref a_REQUIRES_NEW), .unset, .unset, .unset] [(.ref a_REQUIRED), (.ref a_REQUIRES_NEW)])) X11 hx rfl rfl rfl (pc0 := 94) (pc' := 97) (same := false) rfl (hb hby at_94) rfl (decide_eq_false fun q => (Fld.ne hS.2.2.2.2.2.2.2.2.2.2.2.2.2.2.1 hS.2.2.2.2.1 (fun q => absurd (Value.int.inj q) (by decide))) (Value.ref.inj q)) (by decide) (by decide) ?_
          show Steps p.tables e below (T11.setTop (mkF m 97 #[.val (.int p0), .val (.int p1), .val (.int ((p0 &&& (2147483647 : Int32)) % (6 : Int32))), .val (.int (0 : Int32)), .val (.ref a_REQUIRES_NEW), .unset, .unset, .unset] [])) _
          refine XS.aload X11.here hx rfl (hb hby at_97) rfl rfl ?_
          show Steps p.tables e below (T11.setTop (mkF m 99 #[.val (.int p0), .val (.int p1), .val (.int ((p0 &&& (2147483647 : Int32)) % (6 : Int32))), .val (.int (0 : Int32)), .val (.ref a_REQUIRES_NEW), .unset, .unset, .unset] [(.ref a_REQUIRES_NEW)])) _
          refine st12 _ ?_
          show Steps p.tables e below (T12.setTop (mkF m 102 #[.val (.int p0), .val (.int p1), .val (.int ((p0 &&& (2147483647 : Int32)) % (6 : Int32))), .val (.int (0 : Int32)), .val (.ref a_REQUIRES_NEW), .unset, .unset, .unset] [(.ref a_MANDATORY), (.ref a_REQUIRES_NEW)])) _
          refine Jvm.RoadKit.acmp (g := (mkF m 102 #[.val (.int p0), .val (.int p1), .val (.int ((p0 &&& (2147483647 : Int32)) % (6 : Int32))), .val (.int (0 : Int32)), .val (.ref a_REQUIRES_NEW), .unset, .unset, .unset] [(.ref a_MANDATORY), (.ref a_REQUIRES_NEW)])) X12 hx rfl rfl rfl (pc0 := 102) (pc' := 105) (same := false) rfl (hb hby at_102) rfl (decide_eq_false fun q => (Fld.ne hS.2.2.2.2.2.2.2.2.2.2.2.2.2.2.1 hS.2.2.2.2.2.2.2.2.2.2.2.1 (fun q => absurd (Value.int.inj q) (by decide))) (Value.ref.inj q)) (by decide) (by decide) ?_
          show Steps p.tables e below (T12.setTop (mkF m 105 #[.val (.int p0), .val (.int p1), .val (.int ((p0 &&& (2147483647 : Int32)) % (6 : Int32))), .val (.int (0 : Int32)), .val (.ref a_REQUIRES_NEW), .unset, .unset, .unset] [])) _
          refine XS.aload X12.here hx rfl (hb hby at_105) rfl rfl ?_
          show Steps p.tables e below (T12.setTop (mkF m 107 #[.val (.int p0), .val (.int p1), .val (.int ((p0 &&& (2147483647 : Int32)) % (6 : Int32))), .val (.int (0 : Int32)), .val (.ref a_REQUIRES_NEW), .unset, .unset, .unset] [(.ref a_REQUIRES_NEW)])) _
          refine st13 _ ?_
          show Steps p.tables e below (T13.setTop (mkF m 110 #[.val (.int p0), .val (.int p1), .val (.int ((p0 &&& (2147483647 : Int32)) % (6 : Int32))), .val (.int (0 : Int32)), .val (.ref a_REQUIRES_NEW), .unset, .unset, .unset] [(.ref a_SUPPORTS), (.ref a_REQUIRES_NEW)])) _
          refine Jvm.RoadKit.acmp (g := (mkF m 110 #[.val (.int p0), .val (.int p1), .val (.int ((p0 &&& (2147483647 : Int32)) % (6 : Int32))), .val (.int (0 : Int32)), .val (.ref a_REQUIRES_NEW), .unset, .unset, .unset] [(.ref a_SUPPORTS), (.ref a_REQUIRES_NEW)])) X13 hx rfl rfl rfl (pc0 := 110) (pc' := 117) (same := false) rfl (hb hby at_110) rfl (decide_eq_false fun q => (Fld.ne hS.2.2.2.2.2.2.2.2.2.2.2.2.2.2.1 hS.2.2.2.2.2.2.2.2.2.2.2.2.2.2.2.2.2.2.2.1 (fun q => absurd (Value.int.inj q) (by decide))) (Value.ref.inj q)) (by decide) (by decide) ?_
          show Steps p.tables e below (T13.setTop (mkF m 117 #[.val (.int p0), .val (.int p1), .val (.int ((p0 &&& (2147483647 : Int32)) % (6 : Int32))), .val (.int (0 : Int32)), .val (.ref a_REQUIRES_NEW), .unset, .unset, .unset] [])) _
          refine XS.iconst X13.here hx rfl (hb hby at_117) ?_
          show Steps p.tables e below (T13.setTop (mkF m 118 #[.val (.int p0), .val (.int p1), .val (.int ((p0 &&& (2147483647 : Int32)) % (6 : Int32))), .val (.int (0 : Int32)), .val (.ref a_REQUIRES_NEW), .unset, .unset, .unset] [(.int (0 : Int32))])) _
          refine XS.istore X13.here hx rfl (hb hby at_118) rfl (l' := #[.val (.int p0), .val (.int p1), .val (.int ((p0 &&& (2147483647 : Int32)) % (6 : Int32))), .val (.int (0 : Int32)), .val (.ref a_REQUIRES_NEW), .val (.int (0 : Int32)), .unset, .unset]) rfl ?_
          show Steps p.tables e below (T13.setTop (mkF m 120 #[.val (.int p0), .val (.int p1), .val (.int ((p0 &&& (2147483647 : Int32)) % (6 : Int32))), .val (.int (0 : Int32)), .val (.ref a_REQUIRES_NEW), .val (.int (0 : Int32)), .unset, .unset] [])) _
          refine XS.aload X13.here hx rfl (hb hby at_120) rfl rfl ?_
          show Steps p.tables e below (T13.setTop (mkF m 122 #[.val (.int p0), .val (.int p1), .val (.int ((p0 &&& (2147483647 : Int32)) % (6 : Int32))), .val (.int (0 : Int32)), .val (.ref a_REQUIRES_NEW), .val (.int (0 : Int32)), .unset, .unset] [(.ref a_REQUIRES_NEW)])) _
          refine st14 _ ?_
          show Steps p.tables e below (T14.setTop (mkF m 125 #[.val (.int p0), .val (.int p1), .val (.int ((p0 &&& (2147483647 : Int32)) % (6 : Int32))), .val (.int (0 : Int32)), .val (.ref a_REQUIRES_NEW), .val (.int (0 : Int32)), .unset, .unset] [(.ref a_REQUIRED), (.ref a_REQUIRES_NEW)])) _
          refine Jvm.RoadKit.acmp (g := (mkF m 125 #[.val (.int p0), .val (.int p1), .val (.int ((p0 &&& (2147483647 : Int32)) % (6 : Int32))), .val (.int (0 : Int32)), .val (.ref a_REQUIRES_NEW), .val (.int (0 : Int32)), .unset, .unset] [(.ref a_REQUIRED), (.ref a_REQUIRES_NEW)])) X14 hx rfl rfl rfl (pc0 := 125) (pc' := 128) (same := false) rfl (hb hby at_125) rfl (decide_eq_false fun q => (Fld.ne hS.2.2.2.2.2.2.2.2.2.2.2.2.2.2.1 hS.2.2.2.2.1 (fun q => absurd (Value.int.inj q) (by decide))) (Value.ref.inj q)) (by decide) (by decide) ?_
          show Steps p.tables e below (T14.setTop (mkF m 128 #[.val (.int p0), .val (.int p1), .val (.int ((p0 &&& (2147483647 : Int32)) % (6 : Int32))), .val (.int (0 : Int32)), .val (.ref a_REQUIRES_NEW), .val (.int (0 : Int32)), .unset, .unset] [])) _
          refine XS.aload X14.here hx rfl (hb hby at_128) rfl rfl ?_
          show Steps p.tables e below (T14.setTop (mkF m 130 #[.val (.int p0), .val (.int p1), .val (.int ((p0 &&& (2147483647 : Int32)) % (6 : Int32))), .val (.int (0 : Int32)), .val (.ref a_REQUIRES_NEW), .val (.int (0 : Int32)), .unset, .unset] [(.ref a_REQUIRES_NEW)])) _
          refine st15 _ ?_
          show Steps p.tables e below (T15.setTop (mkF m 133 #[.val (.int p0), .val (.int p1), .val (.int ((p0 &&& (2147483647 : Int32)) % (6 : Int32))), .val (.int (0 : Int32)), .val (.ref a_REQUIRES_NEW), .val (.int (0 : Int32)), .unset, .unset] [(.ref a_REQUIRES_NEW), (.ref a_REQUIRES_NEW)])) _
          refine Jvm.RoadKit.acmp (g := (mkF m 133 #[.val (.int p0), .val (.int p1), .val (.int ((p0 &&& (2147483647 : Int32)) % (6 : Int32))), .val (.int (0 : Int32)), .val (.ref a_REQUIRES_NEW), .val (.int (0 : Int32)), .unset, .unset] [(.ref a_REQUIRES_NEW), (.ref a_REQUIRES_NEW)])) X15 hx rfl rfl rfl (pc0 := 133) (pc' := 136) (same := true) rfl (hb hby at_133) rfl (decide_eq_true rfl) (by decide) (by decide) ?_
          show Steps p.tables e below (T15.setTop (mkF m 136 #[.val (.int p0), .val (.int p1), .val (.int ((p0 &&& (2147483647 : Int32)) % (6 : Int32))), .val (.int (0 : Int32)), .val (.ref a_REQUIRES_NEW), .val (.int (0 : Int32)), .unset, .unset] [])) _
          refine XS.iconst X15.here hx rfl (hb hby at_136) ?_
          show Steps p.tables e below (T15.setTop (mkF m 137 #[.val (.int p0), .val (.int p1), .val (.int ((p0 &&& (2147483647 : Int32)) % (6 : Int32))), .val (.int (0 : Int32)), .val (.ref a_REQUIRES_NEW), .val (.int (0 : Int32)), .unset, .unset] [(.int (1 : Int32))])) _
          refine XS.goto X15.here hx rfl (pc0 := 137) (pc' := 141) rfl (hb hby at_137) (by decide) (by decide) ?_
          show Steps p.tables e below (T15.setTop (mkF m 141 #[.val (.int p0), .val (.int p1), .val (.int ((p0 &&& (2147483647 : Int32)) % (6 : Int32))), .val (.int (0 : Int32)), .val (.ref a_REQUIRES_NEW), .val (.int (0 : Int32)), .unset, .unset] [(.int (1 : Int32))])) _
          refine XS.istore X15.here hx rfl (hb hby at_141) rfl (l' := #[.val (.int p0), .val (.int p1), .val (.int ((p0 &&& (2147483647 : Int32)) % (6 : Int32))), .val (.int (0 : Int32)), .val (.ref a_REQUIRES_NEW), .val (.int (0 : Int32)), .val (.int (1 : Int32)), .unset]) rfl ?_
          show Steps p.tables e below (T15.setTop (mkF m 143 #[.val (.int p0), .val (.int p1), .val (.int ((p0 &&& (2147483647 : Int32)) % (6 : Int32))), .val (.int (0 : Int32)), .val (.ref a_REQUIRES_NEW), .val (.int (0 : Int32)), .val (.int (1 : Int32)), .unset] [])) _
          refine XS.iloadN X15.here hx rfl (hb hby at_143) rfl ?_
          show Steps p.tables e below (T15.setTop (mkF m 144 #[.val (.int p0), .val (.int p1), .val (.int ((p0 &&& (2147483647 : Int32)) % (6 : Int32))), .val (.int (0 : Int32)), .val (.ref a_REQUIRES_NEW), .val (.int (0 : Int32)), .val (.int (1 : Int32)), .unset] [(.int (0 : Int32))])) _
          refine XS.ifYes X15.here hx rfl (pc0 := 144) (pc' := 200) rfl (hb hby at_144) rfl ((if0 _ _).trans (teq (by decide : (0 : Int32) = (0 : Int32))).1) (by decide) (by decide) ?_
          show Steps p.tables e below (T15.setTop (mkF m 200 #[.val (.int p0), .val (.int p1), .val (.int ((p0 &&& (2147483647 : Int32)) % (6 : Int32))), .val (.int (0 : Int32)), .val (.ref a_REQUIRES_NEW), .val (.int (0 : Int32)), .val (.int (1 : Int32)), .unset] [])) _
          refine XS.aload X15.here hx rfl (hb hby at_200) rfl rfl ?_
          show Steps p.tables e below (T15.setTop (mkF m 202 #[.val (.int p0), .val (.int p1), .val (.int ((p0 &&& (2147483647 : Int32)) % (6 : Int32))), .val (.int (0 : Int32)), .val (.ref a_REQUIRES_NEW), .val (.int (0 : Int32)), .val (.int (1 : Int32)), .unset] [(.ref a_REQUIRES_NEW)])) _
          refine st16 _ ?_
          show Steps p.tables e below (T16.setTop (mkF m 205 #[.val (.int p0), .val (.int p1), .val (.int ((p0 &&& (2147483647 : Int32)) % (6 : Int32))), .val (.int (0 : Int32)), .val (.ref a_REQUIRES_NEW), .val (.int (0 : Int32)), .val (.int (1 : Int32)), .unset] [(.ref a_MANDATORY), (.ref a_REQUIRES_NEW)])) _
          refine Jvm.RoadKit.acmp (g := (mkF m 205 #[.val (.int p0), .val (.int p1), .val (.int ((p0 &&& (2147483647 : Int32)) % (6 : Int32))), .val (.int (0 : Int32)), .val (.ref a_REQUIRES_NEW), .val (.int (0 : Int32)), .val (.int (1 : Int32)), .unset] [(.ref a_MANDATORY), (.ref a_REQUIRES_NEW)])) X16 hx rfl rfl rfl (pc0 := 205) (pc' := 216) (same := false) rfl (hb hby at_205) rfl (decide_eq_false fun q => (Fld.ne hS.2.2.2.2.2.2.2.2.2.2.2.2.2.2.1 hS.2.2.2.2.2.2.2.2.2.2.2.1 (fun q => absurd (Value.int.inj q) (by decide))) (Value.ref.inj q)) (by decide) (by decide) ?_
          show Steps p.tables e below (T16.setTop (mkF m 216 #[.val (.int p0), .val (.int p1), .val (.int ((p0 &&& (2147483647 : Int32)) % (6 : Int32))), .val (.int (0 : Int32)), .val (.ref a_REQUIRES_NEW), .val (.int (0 : Int32)), .val (.int (1 : Int32)), .unset] [])) _
          refine XS.iload X16.here hx rfl (hb hby at_216) rfl ?_
          show Steps p.tables e below (T16.setTop (mkF m 218 #[.val (.int p0), .val (.int p1), .val (.int ((p0 &&& (2147483647 : Int32)) % (6 : Int32))), .val (.int (0 : Int32)), .val (.ref a_REQUIRES_NEW), .val (.int (0 : Int32)), .val (.int (1 : Int32)), .unset] [(.int (1 : Int32))])) _
          refine XS.ifNo X16.here hx rfl (hb hby at_218) rfl ((if0 _ _).trans (feq (by decide : ¬ ((1 : Int32) = (0 : Int32)))).1) ?_
          show Steps p.tables e below (T16.setTop (mkF m 221 #[.val (.int p0), .val (.int p1), .val (.int ((p0 &&& (2147483647 : Int32)) % (6 : Int32))), .val (.int (0 : Int32)), .val (.ref a_REQUIRES_NEW), .val (.int (0 : Int32)), .val (.int (1 : Int32)), .unset] [])) _
          refine st17 _ ?_
          show Steps p.tables e below (T17.setTop (mkF m 224 #[.val (.int p0), .val (.int p1), .val (.int ((p0 &&& (2147483647 : Int32)) % (6 : Int32))), .val (.int (0 : Int32)), .val (.ref a_REQUIRES_NEW), .val (.int (0 : Int32)), .val (.int (1 : Int32)), .unset] [(.ref a_NEW)])) _
          refine XS.astore X17.here hx rfl (hb hby at_224) rfl rfl (l' := #[.val (.int p0), .val (.int p1), .val (.int ((p0 &&& (2147483647 : Int32)) % (6 : Int32))), .val (.int (0 : Int32)), .val (.ref a_REQUIRES_NEW), .val (.int (0 : Int32)), .val (.int (1 : Int32)), .val (.ref a_NEW)]) rfl ?_
          show Steps p.tables e below (T17.setTop (mkF m 226 #[.val (.int p0), .val (.int p1), .val (.int ((p0 &&& (2147483647 : Int32)) % (6 : Int32))), .val (.int (0 : Int32)), .val (.ref a_REQUIRES_NEW), .val (.int (0 : Int32)), .val (.int (1 : Int32)), .val (.ref a_NEW)] [])) _
          refine XS.goto X17.here hx rfl (pc0 := 226) (pc' := 234) rfl (hb hby at_226) (by decide) (by decide) ?_
          show Steps p.tables e below (T17.setTop (mkF m 234 #[.val (.int p0), .val (.int p1), .val (.int ((p0 &&& (2147483647 : Int32)) % (6 : Int32))), .val (.int (0 : Int32)), .val (.ref a_REQUIRES_NEW), .val (.int (0 : Int32)), .val (.int (1 : Int32)), .val (.ref a_NEW)] [])) _
          refine XS.aload X17.here hx rfl (hb hby at_234) rfl rfl ?_
          show Steps p.tables e below (T17.setTop (mkF m 236 #[.val (.int p0), .val (.int p1), .val (.int ((p0 &&& (2147483647 : Int32)) % (6 : Int32))), .val (.int (0 : Int32)), .val (.ref a_REQUIRES_NEW), .val (.int (0 : Int32)), .val (.int (1 : Int32)), .val (.ref a_NEW)] [(.ref a_REQUIRES_NEW)])) _
          refine XS.iloadN X17.here hx rfl (hb hby at_236) rfl ?_
          show Steps p.tables e below (T17.setTop (mkF m 237 #[.val (.int p0), .val (.int p1), .val (.int ((p0 &&& (2147483647 : Int32)) % (6 : Int32))), .val (.int (0 : Int32)), .val (.ref a_REQUIRES_NEW), .val (.int (0 : Int32)), .val (.int (1 : Int32)), .val (.ref a_NEW)] [(.int (0 : Int32)), (.ref a_REQUIRES_NEW)])) _
          refine st18 _ ?_
          show Steps p.tables e below (T18.setTop (mkF m 240 #[.val (.int p0), .val (.int p1), .val (.int ((p0 &&& (2147483647 : Int32)) % (6 : Int32))), .val (.int (0 : Int32)), .val (.ref a_REQUIRES_NEW), .val (.int (0 : Int32)), .val (.int (1 : Int32)), .val (.ref a_NEW)] [(.ref a_NEW)])) _
          refine XS.aload X18.here hx rfl (hb hby at_240) rfl rfl ?_
          show Steps p.tables e below (T18.setTop (mkF m 242 #[.val (.int p0), .val (.int p1), .val (.int ((p0 &&& (2147483647 : Int32)) % (6 : Int32))), .val (.int (0 : Int32)), .val (.ref a_REQUIRES_NEW), .val (.int (0 : Int32)), .val (.int (1 : Int32)), .val (.ref a_NEW)] [(.ref a_NEW), (.ref a_NEW)])) _
          refine Jvm.RoadKit.acmp (g := (mkF m 242 #[.val (.int p0), .val (.int p1), .val (.int ((p0 &&& (2147483647 : Int32)) % (6 : Int32))), .val (.int (0 : Int32)), .val (.ref a_REQUIRES_NEW), .val (.int (0 : Int32)), .val (.int (1 : Int32)), .val (.ref a_NEW)] [(.ref a_NEW), (.ref a_NEW)])) X18 hx rfl rfl rfl (pc0 := 242) (pc' := 245) (same := true) rfl (hb hby at_242) rfl (decide_eq_true rfl) (by decide) (by decide) ?_
          show Steps p.tables e below (T18.setTop (mkF m 245 #[.val (.int p0), .val (.int p1), .val (.int ((p0 &&& (2147483647 : Int32)) % (6 : Int32))), .val (.int (0 : Int32)), .val (.ref a_REQUIRES_NEW), .val (.int (0 : Int32)), .val (.int (1 : Int32)), .val (.ref a_NEW)] [])) _
          refine XS.iconst X18.here hx rfl (hb hby at_245) ?_
          show Steps p.tables e below (T18.setTop (mkF m 246 #[.val (.int p0), .val (.int p1), .val (.int ((p0 &&& (2147483647 : Int32)) % (6 : Int32))), .val (.int (0 : Int32)), .val (.ref a_REQUIRES_NEW), .val (.int (0 : Int32)), .val (.int (1 : Int32)), .val (.ref a_NEW)] [(.int (1 : Int32))])) _
          refine XS.goto X18.here hx rfl (pc0 := 246) (pc' := 250) rfl (hb hby at_246) (by decide) (by decide) ?_
          show Steps p.tables e below (T18.setTop (mkF m 250 #[.val (.int p0), .val (.int p1), .val (.int ((p0 &&& (2147483647 : Int32)) % (6 : Int32))), .val (.int (0 : Int32)), .val (.ref a_REQUIRES_NEW), .val (.int (0 : Int32)), .val (.int (1 : Int32)), .val (.ref a_NEW)] [(.int (1 : Int32))])) _
          exact retN X18 hx (t := .boolean) Bd.returns (by simp) (hb hby at_250) hr
        · show Q0 n0 _ T18.heap _
          rw [e18]
          exact ⟨rfl, N18⟩
      · have gp19 : ∀ t, Steps p.tables e below (s₁.setTop (mkF m 47 #[.val (.int p0), .val (.int p1), .val (.int ((p0 &&& (2147483647 : Int32)) % (6 : Int32))), .val (.int (0 : Int32)), .unset, .unset, .unset, .unset] [(.int (2 : Int32)), (.int ((p0 &&& (2147483647 : Int32)) % (6 : Int32)))])) t → Steps p.tables e below (s₁.setTop (entryFrame m #[(.int p0), (.int p1)] maxLocals)) t := fun t kt => gp9 t (by
          refine XS.icmpYes X0.here hx rfl (pc0 := 34) (pc' := 45) rfl (hb hby at_34) rfl (feq hc34).2 (by decide) (by decide) ?_
          show Steps p.tables e below (s₁.setTop (mkF m 45 #[.val (.int p0), .val (.int p1), .val (.int ((p0 &&& (2147483647 : Int32)) % (6 : Int32))), .val (.int (0 : Int32)), .unset, .unset, .unset, .unset] [])) _
          refine XS.iloadN X0.here hx rfl (hb hby at_45) rfl ?_
          show Steps p.tables e below (s₁.setTop (mkF m 46 #[.val (.int p0), .val (.int p1), .val (.int ((p0 &&& (2147483647 : Int32)) % (6 : Int32))), .val (.int (0 : Int32)), .unset, .unset, .unset, .unset] [(.int ((p0 &&& (2147483647 : Int32)) % (6 : Int32)))])) _
          refine XS.iconst X0.here hx rfl (hb hby at_46) ?_
          show Steps p.tables e below (s₁.setTop (mkF m 47 #[.val (.int p0), .val (.int p1), .val (.int ((p0 &&& (2147483647 : Int32)) % (6 : Int32))), .val (.int (0 : Int32)), .unset, .unset, .unset, .unset] [(.int (2 : Int32)), (.int ((p0 &&& (2147483647 : Int32)) % (6 : Int32)))])) _
          exact kt)
        by_cases hc47 : ((p0 &&& (2147483647 : Int32)) % (6 : Int32)) = (2 : Int32)
        · obtain ⟨T20, X20, e20, st20⟩ := getS2 X0 hx hZ hown (host := "") (Or.inl (hw _ (List.mem_of_getElem? (i := 25) rfl))) Via.refl e0 (hS.2.2.2.2.2.2.2.2.2.2.1.ext O0.2) (g := (mkF m 50 #[.val (.int p0), .val (.int p1), .val (.int ((p0 &&& (2147483647 : Int32)) % (6 : Int32))), .val (.int (0 : Int32)), .unset, .unset, .unset, .unset] [])) rfl (hb hby at_50)
          obtain ⟨T21, X21, e21, st21⟩ := getS2 X20 hx hZ hown (host := "") (Or.inl (hw _ (List.mem_of_getElem? (i := 1) rfl))) Via.refl e20 (hS.2.1.ext O0.2) (g := (mkF m 91 #[.val (.int p0), .val (.int p1), .val (.int ((p0 &&& (2147483647 : Int32)) % (6 : Int32))), .val (.int (0 : Int32)), .val (.ref a_MANDATORY), .unset, .unset, .unset] [(.ref a_MANDATORY)])) rfl (hb hby at_91)
          obtain ⟨T22, X22, e22, st22⟩ := getS2 X21 hx hZ hown (host := "") (Or.inl (hw _ (List.mem_of_getElem? (i := 25) rfl))) Via.refl e21 (hS.2.2.2.2.2.2.2.2.2.2.1.ext O0.2) (g := (mkF m 99 #[.val (.int p0), .val (.int p1), .val (.int ((p0 &&& (2147483647 : Int32)) % (6 : Int32))), .val (.int (0 : Int32)), .val (.ref a_MANDATORY), .unset, .unset, .unset] [(.ref a_MANDATORY)])) rfl (hb hby at_99)
          obtain ⟨T23, X23, e23, st23⟩ := getS2 X22 hx hZ hown (host := "") (Or.inl (hw _ (List.mem_of_getElem? (i := 1) rfl))) Via.refl e22 (hS.2.1.ext O0.2) (g := (mkF m 122 #[.val (.int p0), .val (.int p1), .val (.int ((p0 &&& (2147483647 : Int32)) % (6 : Int32))), .val (.int (0 : Int32)), .val (.ref a_MANDATORY), .val (.int (1 : Int32)), .unset, .unset] [(.ref a_MANDATORY)])) rfl (hb hby at_122)
          obtain ⟨T24, X24, e24, st24⟩ := getS2 X23 hx hZ hown (host := "") (Or.inl (hw _ (List.mem_of_getElem? (i := 27) rfl))) Via.refl e23 (hS.2.2.2.2.2.2.2.2.2.2.2.2.2.1.ext O0.2) (g := (mkF m 130 #[.val (.int p0), .val (.int p1), .val (.int ((p0 &&& (2147483647 : Int32)) % (6 : Int32))), .val (.int (0 : Int32)), .val (.ref a_MANDATORY), .val (.int (1 : Int32)), .unset, .unset] [(.ref a_MANDATORY)])) rfl (hb hby at_130)
          obtain ⟨T25, X25, e25, st25⟩ := getS2 X24 hx hZ hown (host := "") (Or.inl (hw _ (List.mem_of_getElem? (i := 25) rfl))) Via.refl e24 (hS.2.2.2.2.2.2.2.2.2.2.1.ext O0.2) (g := (mkF m 202 #[.val (.int p0), .val (.int p1), .val (.int ((p0 &&& (2147483647 : Int32)) % (6 : Int32))), .val (.int (0 : Int32)), .val (.ref a_MANDATORY), .val (.int (1 : Int32)), .val (.int (0 : Int32)), .unset] [(.ref a_MANDATORY)])) rfl (hb hby at_202)
          obtain ⟨T26, X26, e26, st26⟩ := getS2 X25 hx hZ hown (host := "") (Or.inl (hw _ (List.mem_of_getElem? (i := 29) rfl))) Via.refl e25 (hS.2.2.2.2.2.2.2.2.2.2.2.2.2.2.2.2.1.ext O0.2) (g := (mkF m 208 #[.val (.int p0), .val (.int p1), .val (.int ((p0 &&& (2147483647 : Int32)) % (6 : Int32))), .val (.int (0 : Int32)), .val (.ref a_MANDATORY), .val (.int (1 : Int32)), .val (.int (0 : Int32)), .unset] [])) rfl (hb hby at_208)
          obtain ⟨_, _, ⟨T27, L27, k27, n27⟩, -, X27, ⟨Lc27, hQ27, l27, y27, z27⟩, st27⟩ := Jvm.LawKit.callS X26 hx (y := (⟨"com/example/demarc/demarc/Placement", "of", "(Lcom/example/demarc/demarc/TransactionAttributeType;Z)Lcom/example/demarc/demarc/Placement;"⟩ : MethodName)) hown (mvT hZ (hw _ (List.mem_of_getElem? (i := 9) rfl))) (mvT hZ (hw _ (List.mem_of_getElem? (i := 10) rfl))) (mvT hZ (hw _ (List.mem_of_getElem? (i := 7) rfl))) (mvT hZ (hw _ (List.mem_of_getElem? (i := 11) rfl))) (by decide) (backOf (W := 0) (rm_of_MANDATORY_0 l Z a0 hw [] a_REQUIRED a_NEVER a_JOIN a__SwitchMap_com_example_demarc_demarc_TransactionAttributeType a_MANDATORY a_REQUIRES_NEW a_REFUSED a_SUPPORTS a_NONE a_NEW a_NOT_SUPPORTED k_a__SwitchMap_com_example_demarc_demarc_TransactionAttributeType hS h0 n0 O0) hZ (hw _ (List.mem_of_getElem? (i := 11) rfl)) (hw _ (List.mem_of_getElem? (i := 7) rfl)) (by decide) (by decide)) (g := (mkF m 237 #[.val (.int p0), .val (.int p1), .val (.int ((p0 &&& (2147483647 : Int32)) % (6 : Int32))), .val (.int (0 : Int32)), .val (.ref a_MANDATORY), .val (.int (1 : Int32)), .val (.int (0 : Int32)), .val (.ref a_REFUSED)] [(.int (0 : Int32)), (.ref a_MANDATORY)])) rfl (by rw [hml]; rfl) (argsL := [(.ref a_MANDATORY), (.int (0 : Int32))]) (rest := []) (lenOf pd_1 rfl) rfl (by show 2 * 0 + _ ≤ _; exact Nat.le_of_eq rfl) (hb hby at_237) (fun _ _ => ⟨rfl, e26, (by decide : 0 + 0 ≤ _), (by decide : 0 + 0 ≤ _)⟩)
          dsimp only [Pt.U, Pt.locs, Pt.cells, Pt.slots] at X27 l27 y27 z27 st27 hQ27
          subst l27 y27 z27
          obtain ⟨rfl, N27q, e27⟩ := hQ27
          have N27 := Fr.app N0 N27q
          obtain ⟨fs, hr, hrun, hended, hW, hsame⟩ := X27.leave (v := (some (.int (1 : Int32)))) (fun h => by rw [Bd.returns] at h; cases h)
          refine ⟨_, _, gp19 _ ?_, hrun, hended, _, _, rfl, ?_, ⟨_, rfl⟩, hW, hsame.mono (by decide) (by decide)⟩
          · refine XS.icmpNo X0.here hx rfl (hb hby at_47) rfl (teq hc47).2 ?_
            show Steps p.tables e below (s₁.setTop (mkF m 50 #[.val (.int p0), .val (.int p1), .val (.int ((p0 &&& (2147483647 : Int32)) % (6 : Int32))), .val (.int (0 : Int32)), .unset, .unset, .unset, .unset] [])) _
            refine st20 _ ?_
            show Steps p.tables e below (T20.setTop (mkF m 53 #[.val (.int p0), .val (.int p1), .val (.int ((p0 &&& (2147483647 : Int32)) % (6 : Int32))), .val (.int (0 : Int32)), .unset, .unset, .unset, .unset] [(.ref a_MANDATORY)])) _
            refine XS.astore X20.here hx rfl (hb hby at_53) rfl rfl (l' := #[.val (.int p0), .val (.int p1), .val (.int ((p0 &&& (2147483647 : Int32)) % (6 : Int32))), .val (.int (0 : Int32)), .val (.ref a_MANDATORY), .unset, .unset, .unset]) rfl ?_
            show Steps p.tables e below (T20.setTop (mkF m 55 #[.val (.int p0), .val (.int p1), .val (.int ((p0 &&& (2147483647 : Int32)) % (6 : Int32))), .val (.int (0 : Int32)), .val (.ref a_MANDATORY), .unset, .unset, .unset] [])) _
            refine XS.goto X20.here hx rfl (pc0 := 55) (pc' := 89) rfl (hb hby at_55) (by decide) (by decide) ?_
            show Steps p.tables e below (T20.setTop (mkF m 89 #[.val (.int p0), .val (.int p1), .val (.int ((p0 &&& (2147483647 : Int32)) % (6 : Int32))), .val (.int (0 : Int32)), .val (.ref a_MANDATORY), .unset, .unset, .unset] [])) _
            refine XS.aload X20.here hx rfl (hb hby at_89) rfl rfl ?_
            show Steps p.tables e below (T20.setTop (mkF m 91 #[.val (.int p0), .val (.int p1), .val (.int ((p0 &&& (2147483647 : Int32)) % (6 : Int32))), .val (.int (0 : Int32)), .val (.ref a_MANDATORY), .unset, .unset, .unset] [(.ref a_MANDATORY)])) _
            refine st21 _ ?_
            show Steps p.tables e below (T21.setTop (mkF m 94 #[.val (.int p0), .val (.int p1), .val (.int ((p0 &&& (2147483647 : Int32)) % (6 : Int32))), .val (.int (0 : Int32)), .val (.ref a_MANDATORY), .unset, .unset, .unset] [(.ref a_REQUIRED), (.ref a_MANDATORY)])) _
            refine Jvm.RoadKit.acmp (g := (mkF m 94 #[.val (.int p0), .val (.int p1), .val (.int ((p0 &&& (2147483647 : Int32)) % (6 : Int32))), .val (.int (0 : Int32)), .val (.ref a_MANDATORY), .unset, .unset, .unset] [(.ref a_REQUIRED), (.ref a_MANDATORY)])) X21 hx rfl rfl rfl (pc0 := 94) (pc' := 97) (same := false) rfl (hb hby at_94) rfl (decide_eq_false fun q => (Fld.ne hS.2.2.2.2.2.2.2.2.2.2.2.1 hS.2.2.2.2.1 (fun q => absurd (Value.int.inj q) (by decide))) (Value.ref.inj q)) (by decide) (by decide) ?_
            show Steps p.tables e below (T21.setTop (mkF m 97 #[.val (.int p0), .val (.int p1), .val (.int ((p0 &&& (2147483647 : Int32)) % (6 : Int32))), .val (.int (0 : Int32)), .val (.ref a_MANDATORY), .unset, .unset, .unset] [])) _
            refine XS.aload X21.here hx rfl (hb hby at_97) rfl rfl ?_
            show Steps p.tables e below (T21.setTop (mkF m 99 #[.val (.int p0), .val (.int p1), .val (.int ((p0 &&& (2147483647 : Int32)) % (6 : Int32))), .val (.int (0 : Int32)), .val (.ref a_MANDATORY), .unset, .unset, .unset] [(.ref a_MANDATORY)])) _
            refine st22 _ ?_
            show Steps p.tables e below (T22.setTop (mkF m 102 #[.val (.int p0), .val (.int p1), .val (.int ((p0 &&& (2147483647 : Int32)) % (6 : Int32))), .val (.int (0 : Int32)), .val (.ref a_MANDATORY), .unset, .unset, .unset] [(.ref a_MANDATORY), (.ref a_MANDATORY)])) _
            refine Jvm.RoadKit.acmp (g := (mkF m 102 #[.val (.int p0), .val (.int p1), .val (.int ((p0 &&& (2147483647 : Int32)) % (6 : Int32))), .val (.int (0 : Int32)), .val (.ref a_MANDATORY), .unset, .unset, .unset] [(.ref a_MANDATORY), (.ref a_MANDATORY)])) X22 hx rfl rfl rfl (pc0 := 102) (pc' := 113) (same := true) rfl (hb hby at_102) rfl (decide_eq_true rfl) (by decide) (by decide) ?_
            show Steps p.tables e below (T22.setTop (mkF m 113 #[.val (.int p0), .val (.int p1), .val (.int ((p0 &&& (2147483647 : Int32)) % (6 : Int32))), .val (.int (0 : Int32)), .val (.ref a_MANDATORY), .unset, .unset, .unset] [])) _
            refine XS.iconst X22.here hx rfl (hb hby at_113) ?_
            show Steps p.tables e below (T22.setTop (mkF m 114 #[.val (.int p0), .val (.int p1), .val (.int ((p0 &&& (2147483647 : Int32)) % (6 : Int32))), .val (.int (0 : Int32)), .val (.ref a_MANDATORY), .unset, .unset, .unset] [(.int (1 : Int32))])) _
            refine XS.goto X22.here hx rfl (pc0 := 114) (pc' := 118) rfl (hb hby at_114) (by decide) (by decide) ?_
            show Steps p.tables e below (T22.setTop (mkF m 118 #[.val (.int p0), .val (.int p1), .val (.int ((p0 &&& (2147483647 : Int32)) % (6 : Int32))), .val (.int (0 : Int32)), .val (.ref a_MANDATORY), .unset, .unset, .unset] [(.int (1 : Int32))])) _
            refine XS.istore X22.here hx rfl (hb hby at_118) rfl (l' := #[.val (.int p0), .val (.int p1), .val (.int ((p0 &&& (2147483647 : Int32)) % (6 : Int32))), .val (.int (0 : Int32)), .val (.ref a_MANDATORY), .val (.int (1 : Int32)), .unset, .unset]) rfl ?_
            show Steps p.tables e below (T22.setTop (mkF m 120 #[.val (.int p0), .val (.int p1), .val (.int ((p0 &&& (2147483647 : Int32)) % (6 : Int32))), .val (.int (0 : Int32)), .val (.ref a_MANDATORY), .val (.int (1 : Int32)), .unset, .unset] [])) _
            refine XS.aload X22.here hx rfl (hb hby at_120) rfl rfl ?_
            show Steps p.tables e below (T22.setTop (mkF m 122 #[.val (.int p0), .val (.int p1), .val (.int ((p0 &&& (2147483647 : Int32)) % (6 : Int32))), .val (.int (0 : Int32)), .val (.ref a_MANDATORY), .val (.int (1 : Int32)), .unset, .unset] [(.ref a_MANDATORY)])) _
            refine st23 _ ?_
            show Steps p.tables e below (T23.setTop (mkF m 125 #[.val (.int p0), .val (.int p1), .val (.int ((p0 &&& (2147483647 : Int32)) % (6 : Int32))), .val (.int (0 : Int32)), .val (.ref a_MANDATORY), .val (.int (1 : Int32)), .unset, .unset] [(.ref a_REQUIRED), (.ref a_MANDATORY)])) _
            refine Jvm.RoadKit.acmp (g := (mkF m 125 #[.val (.int p0), .val (.int p1), .val (.int ((p0 &&& (2147483647 : Int32)) % (6 : Int32))), .val (.int (0 : Int32)), .val (.ref a_MANDATORY), .val (.int (1 : Int32)), .unset, .unset] [(.ref a_REQUIRED), (.ref a_MANDATORY)])) X23 hx rfl rfl rfl (pc0 := 125) (pc' := 128) (same := false) rfl (hb hby at_125) rfl (decide_eq_false fun q => (Fld.ne hS.2.2.2.2.2.2.2.2.2.2.2.1 hS.2.2.2.2.1 (fun q => absurd (Value.int.inj q) (by decide))) (Value.ref.inj q)) (by decide) (by decide) ?_
            show Steps p.tables e below (T23.setTop (mkF m 128 #[.val (.int p0), .val (.int p1), .val (.int ((p0 &&& (2147483647 : Int32)) % (6 : Int32))), .val (.int (0 : Int32)), .val (.ref a_MANDATORY), .val (.int (1 : Int32)), .unset, .unset] [])) _
            refine XS.aload X23.here hx rfl (hb hby at_128) rfl rfl ?_
            show Steps p.tables e below (T23.setTop (mkF m 130 #[.val (.int p0), .val (.int p1), .val (.int ((p0 &&& (2147483647 : Int32)) % (6 : Int32))), .val (.int (0 : Int32)), .val (.ref a_MANDATORY), .val (.int (1 : Int32)), .unset, .unset] [(.ref a_MANDATORY)])) _
            refine st24 _ ?_
            show Steps p.tables e below (T24.setTop (mkF m 133 #[.val (.int p0), .val (.int p1), .val (.int ((p0 &&& (2147483647 : Int32)) % (6 : Int32))), .val (.int (0 : Int32)), .val (.ref a_MANDATORY), .val (.int (1 : Int32)), .unset, .unset] [(.ref a_REQUIRES_NEW), (.ref a_MANDATORY)])) _
            refine Jvm.RoadKit.acmp (g := (mkF m 133 #[.val (.int p0), .val (.int p1), .val (.int ((p0 &&& (2147483647 : Int32)) % (6 : Int32))), .val (.int (0 : Int32)), .val (.ref a_MANDATORY), .val (.int (1 : Int32)), .unset, .unset] [(.ref a_REQUIRES_NEW), (.ref a_MANDATORY)])) X24 hx rfl rfl rfl (pc0 := 133) (pc' := 140) (same := false) rfl (hb hby at_133) rfl (decide_eq_false fun q => (Fld.ne hS.2.2.2.2.2.2.2.2.2.2.2.1 hS.2.2.2.2.2.2.2.2.2.2.2.2.2.2.1 (fun q => absurd (Value.int.inj q) (by decide))) (Value.ref.inj q)) (by decide) (by decide) ?_
            show Steps p.tables e below (T24.setTop (mkF m 140 #[.val (.int p0), .val (.int p1), .val (.int ((p0 &&& (2147483647 : Int32)) % (6 : Int32))), .val (.int (0 : Int32)), .val (.ref a_MANDATORY), .val (.int (1 : Int32)), .unset, .unset] [])) _
            refine XS.iconst X24.here hx rfl (hb hby at_140) ?_
            show Steps p.tables e below (T24.setTop (mkF m 141 #[.val (.int p0), .val (.int p1), .val (.int ((p0 &&& (2147483647 : Int32)) % (6 : Int32))), .val (.int (0 : Int32)), .val (.ref a_MANDATORY), .val (.int (1 : Int32)), .unset, .unset] [(.int (0 : Int32))])) _
            refine XS.istore X24.here hx rfl (hb hby at_141) rfl (l' := #[.val (.int p0), .val (.int p1), .val (.int ((p0 &&& (2147483647 : Int32)) % (6 : Int32))), .val (.int (0 : Int32)), .val (.ref a_MANDATORY), .val (.int (1 : Int32)), .val (.int (0 : Int32)), .unset]) rfl ?_
            show Steps p.tables e below (T24.setTop (mkF m 143 #[.val (.int p0), .val (.int p1), .val (.int ((p0 &&& (2147483647 : Int32)) % (6 : Int32))), .val (.int (0 : Int32)), .val (.ref a_MANDATORY), .val (.int (1 : Int32)), .val (.int (0 : Int32)), .unset] [])) _
            refine XS.iloadN X24.here hx rfl (hb hby at_143) rfl ?_
            show Steps p.tables e below (T24.setTop (mkF m 144 #[.val (.int p0), .val (.int p1), .val (.int ((p0 &&& (2147483647 : Int32)) % (6 : Int32))), .val (.int (0 : Int32)), .val (.ref a_MANDATORY), .val (.int (1 : Int32)), .val (.int (0 : Int32)), .unset] [(.int (0 : Int32))])) _
            refine XS.ifYes X24.here hx rfl (pc0 := 144) (pc' := 200) rfl (hb hby at_144) rfl ((if0 _ _).trans (teq (by decide : (0 : Int32) = (0 : Int32))).1) (by decide) (by decide) ?_
            show Steps p.tables e below (T24.setTop (mkF m 200 #[.val (.int p0), .val (.int p1), .val (.int ((p0 &&& (2147483647 : Int32)) % (6 : Int32))), .val (.int (0 : Int32)), .val (.ref a_MANDATORY), .val (.int (1 : Int32)), .val (.int (0 : Int32)), .unset] [])) _
            refine XS.aload X24.here hx rfl (hb hby at_200) rfl rfl ?_
            show Steps p.tables e below (T24.setTop (mkF m 202 #[.val (.int p0), .val (.int p1), .val (.int ((p0 &&& (2147483647 : Int32)) % (6 : Int32))), .val (.int (0 : Int32)), .val (.ref a_MANDATORY), .val (.int (1 : Int32)), .val (.int (0 : Int32)), .unset] [(.ref a_MANDATORY)])) _
            refine st25 _ ?_
            show Steps p.tables e below (T25.setTop (mkF m 205 #[.val (.int p0), .val (.int p1), .val (.int ((p0 &&& (2147483647 : Int32)) % (6 : Int32))), .val (.int (0 : Int32)), .val (.ref a_MANDATORY), .val (.int (1 : Int32)), .val (.int (0 : Int32)), .unset] [(.ref a_MANDATORY), (.ref a_MANDATORY)])) _
            refine Jvm.RoadKit.acmp (g := (mkF m 205 #[.val (.int p0), .val (.int p1), .val (.int ((p0 &&& (2147483647 : Int32)) % (6 : Int32))), .val (.int (0 : Int32)), .val (.ref a_MANDATORY), .val (.int (1 : Int32)), .val (.int (0 : Int32)), .unset] [(.ref a_MANDATORY), (.ref a_MANDATORY)])) X25 hx rfl rfl rfl (pc0 := 205) (pc' := 208) (same := true) rfl (hb hby at_205) rfl (decide_eq_true rfl) (by decide) (by decide) ?_
            show Steps p.tables e below (T25.setTop (mkF m 208 #[.val (.int p0), .val (.int p1), .val (.int ((p0 &&& (2147483647 : Int32)) % (6 : Int32))), .val (.int (0 : Int32)), .val (.ref a_MANDATORY), .val (.int (1 : Int32)), .val (.int (0 : Int32)), .unset] [])) _
            refine st26 _ ?_
            show Steps p.tables e below (T26.setTop (mkF m 211 #[.val (.int p0), .val (.int p1), .val (.int ((p0 &&& (2147483647 : Int32)) % (6 : Int32))), .val (.int (0 : Int32)), .val (.ref a_MANDATORY), .val (.int (1 : Int32)), .val (.int (0 : Int32)), .unset] [(.ref a_REFUSED)])) _
            refine XS.astore X26.here hx rfl (hb hby at_211) rfl rfl (l' := #[.val (.int p0), .val (.int p1), .val (.int ((p0 &&& (2147483647 : Int32)) % (6 : Int32))), .val (.int (0 : Int32)), .val (.ref a_MANDATORY), .val (.int (1 : Int32)), .val (.int (0 : Int32)), .val (.ref a_REFUSED)]) rfl ?_
            show Steps p.tables e below (T26.setTop (mkF m 213 #[.val (.int p0), .val (.int p1), .val (.int ((p0 &&& (2147483647 : Int32)) % (6 : Int32))), .val (.int (0 : Int32)), .val (.ref a_MANDATORY), .val (.int (1 : Int32)), .val (.int (0 : Int32)), .val (.ref a_REFUSED)] [])) _
            refine XS.goto X26.here hx rfl (pc0 := 213) (pc' := 234) rfl (hb hby at_213) (by decide) (by decide) ?_
            show Steps p.tables e below (T26.setTop (mkF m 234 #[.val (.int p0), .val (.int p1), .val (.int ((p0 &&& (2147483647 : Int32)) % (6 : Int32))), .val (.int (0 : Int32)), .val (.ref a_MANDATORY), .val (.int (1 : Int32)), .val (.int (0 : Int32)), .val (.ref a_REFUSED)] [])) _
            refine XS.aload X26.here hx rfl (hb hby at_234) rfl rfl ?_
            show Steps p.tables e below (T26.setTop (mkF m 236 #[.val (.int p0), .val (.int p1), .val (.int ((p0 &&& (2147483647 : Int32)) % (6 : Int32))), .val (.int (0 : Int32)), .val (.ref a_MANDATORY), .val (.int (1 : Int32)), .val (.int (0 : Int32)), .val (.ref a_REFUSED)] [(.ref a_MANDATORY)])) _
            refine XS.iloadN X26.here hx rfl (hb hby at_236) rfl ?_
            show Steps p.tables e below (T26.setTop (mkF m 237 #[.val (.int p0), .val (.int p1), .val (.int ((p0 &&& (2147483647 : Int32)) % (6 : Int32))), .val (.int (0 : Int32)), .val (.ref a_MANDATORY), .val (.int (1 : Int32)), .val (.int (0 : Int32)), .val (.ref a_REFUSED)] [(.int (0 : Int32)), (.ref a_MANDATORY)])) _
            refine st27 _ ?_
            show Steps p.tables e below (T27.setTop (mkF m 240 #[.val (.int p0), .val (.int p1), .val (.int ((p0 &&& (2147483647 : Int32)) % (6 : Int32))), .val (.int (0 : Int32)), .val (.ref a_MANDATORY), .val (.int (1 : Int32)), .val (.int (0 : Int32)), .val (.ref a_REFUSED)] [(.ref a_REFUSED)])) _
            refine XS.aload X27.here hx rfl (hb hby at_240) rfl rfl ?_
            show Steps p.tables e below (T27.setTop (mkF m 242 #[.val (.int p0), .val (.int p1), .val (.int ((p0 &&& (2147483647 : Int32)) % (6 : Int32))), .val (.int (0 : Int32)), .val (.ref a_MANDATORY), .val (.int (1 : Int32)), .val (.int (0 : Int32)), .val (.ref a_REFUSED)] [(.ref a_REFUSED), (.ref a_REFUSED)])) _
            refine Jvm.RoadKit.acmp (g := (mkF m 242 #[.val (.int p0), .val (.int p1), .val (.int ((p0 &&& (2147483647 : Int32)) % (6 : Int32))), .val (.int (0 : Int32)), .val (.ref a_MANDATORY), .val (.int (1 : Int32)), .val (.int (0 : Int32)), .val (.ref a_REFUSED)] [(.ref a_REFUSED), (.ref a_REFUSED)])) X27 hx rfl rfl rfl (pc0 := 242) (pc' := 245) (same := true) rfl (hb hby at_242) rfl (decide_eq_true rfl) (by decide) (by decide) ?_
            show Steps p.tables e below (T27.setTop (mkF m 245 #[.val (.int p0), .val (.int p1), .val (.int ((p0 &&& (2147483647 : Int32)) % (6 : Int32))), .val (.int (0 : Int32)), .val (.ref a_MANDATORY), .val (.int (1 : Int32)), .val (.int (0 : Int32)), .val (.ref a_REFUSED)] [])) _
            refine XS.iconst X27.here hx rfl (hb hby at_245) ?_
            show Steps p.tables e below (T27.setTop (mkF m 246 #[.val (.int p0), .val (.int p1), .val (.int ((p0 &&& (2147483647 : Int32)) % (6 : Int32))), .val (.int (0 : Int32)), .val (.ref a_MANDATORY), .val (.int (1 : Int32)), .val (.int (0 : Int32)), .val (.ref a_REFUSED)] [(.int (1 : Int32))])) _
            refine XS.goto X27.here hx rfl (pc0 := 246) (pc' := 250) rfl (hb hby at_246) (by decide) (by decide) ?_
            show Steps p.tables e below (T27.setTop (mkF m 250 #[.val (.int p0), .val (.int p1), .val (.int ((p0 &&& (2147483647 : Int32)) % (6 : Int32))), .val (.int (0 : Int32)), .val (.ref a_MANDATORY), .val (.int (1 : Int32)), .val (.int (0 : Int32)), .val (.ref a_REFUSED)] [(.int (1 : Int32))])) _
            exact retN X27 hx (t := .boolean) Bd.returns (by simp) (hb hby at_250) hr
          · show Q0 n0 _ T27.heap _
            rw [e27]
            exact ⟨rfl, N27⟩
        · have gp28 : ∀ t, Steps p.tables e below (s₁.setTop (mkF m 60 #[.val (.int p0), .val (.int p1), .val (.int ((p0 &&& (2147483647 : Int32)) % (6 : Int32))), .val (.int (0 : Int32)), .unset, .unset, .unset, .unset] [(.int (3 : Int32)), (.int ((p0 &&& (2147483647 : Int32)) % (6 : Int32)))])) t → Steps p.tables e below (s₁.setTop (entryFrame m #[(.int p0), (.int p1)] maxLocals)) t := fun t kt => gp19 t (by
            refine XS.icmpYes X0.here hx rfl (pc0 := 47) (pc' := 58) rfl (hb hby at_47) rfl (feq hc47).2 (by decide) (by decide) ?_
            show Steps p.tables e below (s₁.setTop (mkF m 58 #[.val (.int p0), .val (.int p1), .val (.int ((p0 &&& (2147483647 : Int32)) % (6 : Int32))), .val (.int (0 : Int32)), .unset, .unset, .unset, .unset] [])) _
            refine XS.iloadN X0.here hx rfl (hb hby at_58) rfl ?_
            show Steps p.tables e below (s₁.setTop (mkF m 59 #[.val (.int p0), .val (.int p1), .val (.int ((p0 &&& (2147483647 : Int32)) % (6 : Int32))), .val (.int (0 : Int32)), .unset, .unset, .unset, .unset] [(.int ((p0 &&& (2147483647 : Int32)) % (6 : Int32)))])) _
            refine XS.iconst X0.here hx rfl (hb hby at_59) ?_
            show Steps p.tables e below (s₁.setTop (mkF m 60 #[.val (.int p0), .val (.int p1), .val (.int ((p0 &&& (2147483647 : Int32)) % (6 : Int32))), .val (.int (0 : Int32)), .unset, .unset, .unset, .unset] [(.int (3 : Int32)), (.int ((p0 &&& (2147483647 : Int32)) % (6 : Int32)))])) _
            exact kt)
          by_cases hc60 : ((p0 &&& (2147483647 : Int32)) % (6 : Int32)) = (3 : Int32)
          · obtain ⟨T29, X29, e29, st29⟩ := getS2 X0 hx hZ hown (host := "") (Or.inl (hw _ (List.mem_of_getElem? (i := 40) rfl))) Via.refl e0 (hS.2.2.2.2.2.2.2.2.2.2.2.2.2.2.2.2.2.2.2.2.2.2.2.2.2.1.ext O0.2) (g := (mkF m 63 #[.val (.int p0), .val (.int p1), .val (.int ((p0 &&& (2147483647 : Int32)) % (6 : Int32))), .val (.int (0 : Int32)), .unset, .unset, .unset, .unset] [])) rfl (hb hby at_63)
            obtain ⟨T30, X30, e30, st30⟩ := getS2 X29 hx hZ hown (host := "") (Or.inl (hw _ (List.mem_of_getElem? (i := 1) rfl))) Via.refl e29 (hS.2.1.ext O0.2) (g := (mkF m 91 #[.val (.int p0), .val (.int p1), .val (.int ((p0 &&& (2147483647 : Int32)) % (6 : Int32))), .val (.int (0 : Int32)), .val (.ref a_NOT_SUPPORTED), .unset, .unset, .unset] [(.ref a_NOT_SUPPORTED)])) rfl (hb hby at_91)
            obtain ⟨T31, X31, e31, st31⟩ := getS2 X30 hx hZ hown (host := "") (Or.inl (hw _ (List.mem_of_getElem? (i := 25) rfl))) Via.refl e30 (hS.2.2.2.2.2.2.2.2.2.2.1.ext O0.2) (g := (mkF m 99 #[.val (.int p0), .val (.int p1), .val (.int ((p0 &&& (2147483647 : Int32)) % (6 : Int32))), .val (.int (0 : Int32)), .val (.ref a_NOT_SUPPORTED), .unset, .unset, .unset] [(.ref a_NOT_SUPPORTED)])) rfl (hb hby at_99)
            obtain ⟨T32, X32, e32, st32⟩ := getS2 X31 hx hZ hown (host := "") (Or.inl (hw _ (List.mem_of_getElem? (i := 32) rfl))) Via.refl e31 (hS.2.2.2.2.2.2.2.2.2.2.2.2.2.2.2.2.2.2.1.ext O0.2) (g := (mkF m 107 #[.val (.int p0), .val (.int p1), .val (.int ((p0 &&& (2147483647 : Int32)) % (6 : Int32))), .val (.int (0 : Int32)), .val (.ref a_NOT_SUPPORTED), .unset, .unset, .unset] [(.ref a_NOT_SUPPORTED)])) rfl (hb hby at_107)
            obtain ⟨T33, X33, e33, st33⟩ := getS2 X32 hx hZ hown (host := "") (Or.inl (hw _ (List.mem_of_getElem? (i := 1) rfl))) Via.refl e32 (hS.2.1.ext O0.2) (g := (mkF m 122 #[.val (.int p0), .val (.int p1), .val (.int ((p0 &&& (2147483647 : Int32)) % (6 : Int32))), .val (.int (0 : Int32)), .val (.ref a_NOT_SUPPORTED), .val (.int (0 : Int32)), .unset, .unset] [(.ref a_NOT_SUPPORTED)])) rfl (hb hby at_122)
            obtain ⟨T34, X34, e34, st34⟩ := getS2 X33 hx hZ hown (host := "") (Or.inl (hw _ (List.mem_of_getElem? (i := 27) rfl))) Via.refl e33 (hS.2.2.2.2.2.2.2.2.2.2.2.2.2.1.ext O0.2) (g := (mkF m 130 #[.val (.int p0), .val (.int p1), .val (.int ((p0 &&& (2147483647 : Int32)) % (6 : Int32))), .val (.int (0 : Int32)), .val (.ref a_NOT_SUPPORTED), .val (.int (0 : Int32)), .unset, .unset] [(.ref a_NOT_SUPPORTED)])) rfl (hb hby at_130)
            obtain ⟨T35, X35, e35, st35⟩ := getS2 X34 hx hZ hown (host := "") (Or.inl (hw _ (List.mem_of_getElem? (i := 25) rfl))) Via.refl e34 (hS.2.2.2.2.2.2.2.2.2.2.1.ext O0.2) (g := (mkF m 202 #[.val (.int p0), .val (.int p1), .val (.int ((p0 &&& (2147483647 : Int32)) % (6 : Int32))), .val (.int (0 : Int32)), .val (.ref a_NOT_SUPPORTED), .val (.int (0 : Int32)), .val (.int (0 : Int32)), .unset] [(.ref a_NOT_SUPPORTED)])) rfl (hb hby at_202)
            obtain ⟨T36, X36, e36, st36⟩ := getS2 X35 hx hZ hown (host := "") (Or.inl (hw _ (List.mem_of_getElem? (i := 34) rfl))) Via.refl e35 (hS.2.2.2.2.2.2.2.2.2.2.2.2.2.2.2.2.2.2.2.2.2.1.ext O0.2) (g := (mkF m 229 #[.val (.int p0), .val (.int p1), .val (.int ((p0 &&& (2147483647 : Int32)) % (6 : Int32))), .val (.int (0 : Int32)), .val (.ref a_NOT_SUPPORTED), .val (.int (0 : Int32)), .val (.int (0 : Int32)), .unset] [])) rfl (hb hby at_229)
            obtain ⟨_, _, ⟨T37, L37, k37, n37⟩, -, X37, ⟨Lc37, hQ37, l37, y37, z37⟩, st37⟩ := Jvm.LawKit.callS X36 hx (y := (⟨"com/example/demarc/demarc/Placement", "of", "(Lcom/example/demarc/demarc/TransactionAttributeType;Z)Lcom/example/demarc/demarc/Placement;"⟩ : MethodName)) hown (mvT hZ (hw _ (List.mem_of_getElem? (i := 9) rfl))) (mvT hZ (hw _ (List.mem_of_getElem? (i := 10) rfl))) (mvT hZ (hw _ (List.mem_of_getElem? (i := 7) rfl))) (mvT hZ (hw _ (List.mem_of_getElem? (i := 11) rfl))) (by decide) (backOf (W := 0) (rm_of_NOT_SUPPORTED_0 l Z a0 hw [] a_REQUIRED a_NEVER a_JOIN a__SwitchMap_com_example_demarc_demarc_TransactionAttributeType a_MANDATORY a_REQUIRES_NEW a_REFUSED a_SUPPORTS a_NONE a_NEW a_NOT_SUPPORTED k_a__SwitchMap_com_example_demarc_demarc_TransactionAttributeType hS h0 n0 O0) hZ (hw _ (List.mem_of_getElem? (i := 11) rfl)) (hw _ (List.mem_of_getElem? (i := 7) rfl)) (by decide) (by decide)) (g := (mkF m 237 #[.val (.int p0), .val (.int p1), .val (.int ((p0 &&& (2147483647 : Int32)) % (6 : Int32))), .val (.int (0 : Int32)), .val (.ref a_NOT_SUPPORTED), .val (.int (0 : Int32)), .val (.int (0 : Int32)), .val (.ref a_NONE)] [(.int (0 : Int32)), (.ref a_NOT_SUPPORTED)])) rfl (by rw [hml]; rfl) (argsL := [(.ref a_NOT_SUPPORTED), (.int (0 : Int32))]) (rest := []) (lenOf pd_1 rfl) rfl (by show 2 * 0 + _ ≤ _; exact Nat.le_of_eq rfl) (hb hby at_237) (fun _ _ => ⟨rfl, e36, (by decide : 0 + 0 ≤ _), (by decide : 0 + 0 ≤ _)⟩)
            dsimp only [Pt.U, Pt.locs, Pt.cells, Pt.slots] at X37 l37 y37 z37 st37 hQ37
            subst l37 y37 z37
            obtain ⟨rfl, N37q, e37⟩ := hQ37
            have N37 := Fr.app N0 N37q
            obtain ⟨fs, hr, hrun, hended, hW, hsame⟩ := X37.leave (v := (some (.int (1 : Int32)))) (fun h => by rw [Bd.returns] at h; cases h)
            refine ⟨_, _, gp28 _ ?_, hrun, hended, _, _, rfl, ?_, ⟨_, rfl⟩, hW, hsame.mono (by decide) (by decide)⟩
            · refine XS.icmpNo X0.here hx rfl (hb hby at_60) rfl (teq hc60).2 ?_
              show Steps p.tables e below (s₁.setTop (mkF m 63 #[.val (.int p0), .val (.int p1), .val (.int ((p0 &&& (2147483647 : Int32)) % (6 : Int32))), .val (.int (0 : Int32)), .unset, .unset, .unset, .unset] [])) _
              refine st29 _ ?_
              show Steps p.tables e below (T29.setTop (mkF m 66 #[.val (.int p0), .val (.int p1), .val (.int ((p0 &&& (2147483647 : Int32)) % (6 : Int32))), .val (.int (0 : Int32)), .unset, .unset, .unset, .unset] [(.ref a_NOT_SUPPORTED)])) _
              refine XS.astore X29.here hx rfl (hb hby at_66) rfl rfl (l' := #[.val (.int p0), .val (.int p1), .val (.int ((p0 &&& (2147483647 : Int32)) % (6 : Int32))), .val (.int (0 : Int32)), .val (.ref a_NOT_SUPPORTED), .unset, .unset, .unset]) rfl ?_
              show Steps p.tables e below (T29.setTop (mkF m 68 #[.val (.int p0), .val (.int p1), .val (.int ((p0 &&& (2147483647 : Int32)) % (6 : Int32))), .val (.int (0 : Int32)), .val (.ref a_NOT_SUPPORTED), .unset, .unset, .unset] [])) _
              refine XS.goto X29.here hx rfl (pc0 := 68) (pc' := 89) rfl (hb hby at_68) (by decide) (by decide) ?_
              show Steps p.tables e below (T29.setTop (mkF m 89 #[.val (.int p0), .val (.int p1), .val (.int ((p0 &&& (2147483647 : Int32)) % (6 : Int32))), .val (.int (0 : Int32)), .val (.ref a_NOT_SUPPORTED), .unset, .unset, .unset] [])) _
              refine XS.aload X29.here hx rfl (hb hby at_89) rfl rfl ?_
              show Steps p.tables e below (T29.setTop (mkF m 91 #[.val (.int p0), .val (.int p1), .val (.int ((p0 &&& (2147483647 : Int32)) % (6 : Int32))), .val (.int (0 : Int32)), .val (.ref a_NOT_SUPPORTED), .unset, .unset, .unset] [(.ref a_NOT_SUPPORTED)])) _
              refine st30 _ ?_
              show Steps p.tables e below (T30.setTop (mkF m 94 #[.val (.int p0), .val (.int p1), .val (.int ((p0 &&& (2147483647 : Int32)) % (6 : Int32))), .val (.int (0 : Int32)), .val (.ref a_NOT_SUPPORTED), .unset, .unset, .unset] [(.ref a_REQUIRED), (.ref a_NOT_SUPPORTED)])) _
              refine Jvm.RoadKit.acmp (g := (mkF m 94 #[.val (.int p0), .val (.int p1), .val (.int ((p0 &&& (2147483647 : Int32)) % (6 : Int32))), .val (.int (0 : Int32)), .val (.ref a_NOT_SUPPORTED), .unset, .unset, .unset] [(.ref a_REQUIRED), (.ref a_NOT_SUPPORTED)])) X30 hx rfl rfl rfl (pc0 := 94) (pc' := 97) (same := false) rfl (hb hby at_94) rfl (decide_eq_false fun q => (Fld.ne hS.2.2.2.2.2.2.2.2.2.2.2.2.2.2.2.2.2.2.2.2.2.2.2.2.2.2.1 hS.2.2.2.2.1 (fun q => absurd (Value.int.inj q) (by decide))) (Value.ref.inj q)) (by decide) (by decide) ?_
              show Steps p.tables e below (T30.setTop (mkF m 97 #[.val (.int p0), .val (.int p1), .val (.int ((p0 &&& (2147483647 : Int32)) % (6 : Int32))), .val (.int (0 : Int32)), .val (.ref a_NOT_SUPPORTED), .unset, .unset, .unset] [])) _
              refine XS.aload X30.here hx rfl (hb hby at_97) rfl rfl ?_
              show Steps p.tables e below (T30.setTop (mkF m 99 #[.val (.int p0), .val (.int p1), .val (.int ((p0 &&& (2147483647 : Int32)) % (6 : Int32))), .val (.int (0 : Int32)), .val (.ref a_NOT_SUPPORTED), .unset, .unset, .unset] [(.ref a_NOT_SUPPORTED)])) _
              refine st31 _ ?_
              show Steps p.tables e below (T31.setTop (mkF m 102 #[.val (.int p0), .val (.int p1), .val (.int ((p0 &&& (2147483647 : Int32)) % (6 : Int32))), .val (.int (0 : Int32)), .val (.ref a_NOT_SUPPORTED), .unset, .unset, .unset] [(.ref a_MANDATORY), (.ref a_NOT_SUPPORTED)])) _
              refine Jvm.RoadKit.acmp (g := (mkF m 102 #[.val (.int p0), .val (.int p1), .val (.int ((p0 &&& (2147483647 : Int32)) % (6 : Int32))), .val (.int (0 : Int32)), .val (.ref a_NOT_SUPPORTED), .unset, .unset, .unset] [(.ref a_MANDATORY), (.ref a_NOT_SUPPORTED)])) X31 hx rfl rfl rfl (pc0 := 102) (pc' := 105) (same := false) rfl (hb hby at_102) rfl (decide_eq_false fun q => (Fld.ne hS.2.2.2.2.2.2.2.2.2.2.2.2.2.2.2.2.2.2.2.2.2.2.2.2.2.2.1 hS.2.2.2.2.2.2.2.2.2.2.2.1 (fun q => absurd (Value.int.inj q) (by decide))) (Value.ref.inj q)) (by decide) (by decide) ?_
              show Steps p.tables e below (T31.setTop (mkF m 105 #[.val (.int p0), .val (.int p1), .val (.int ((p0 &&& (2147483647 : Int32)) % (6 : Int32))), .val (.int (0 : Int32)), .val (.ref a_NOT_SUPPORTED), .unset, .unset, .unset] [])) _
              refine XS.aload X31.here hx rfl (hb hby at_105) rfl rfl ?_
              show Steps p.tables e below (T31.setTop (mkF m 107 #[.val (.int p0), .val (.int p1), .val (.int ((p0 &&& (2147483647 : Int32)) % (6 : Int32))), .val (.int (0 : Int32)), .val (.ref a_NOT_SUPPORTED), .unset, .unset, .unset] [(.ref a_NOT_SUPPORTED)])) _
              refine st32 _ ?_
              show Steps p.tables e below (T32.setTop (mkF m 110 #[.val (.int p0), .val (.int p1), .val (.int ((p0 &&& (2147483647 : Int32)) % (6 : Int32))), .val (.int (0 : Int32)), .val (.ref a_NOT_SUPPORTED), .unset, .unset, .unset] [(.ref a_SUPPORTS), (.ref a_NOT_SUPPORTED)])) _
              refine Jvm.RoadKit.acmp (g := (mkF m 110 #[.val (.int p0), .val (.int p1), .val (.int ((p0 &&& (2147483647 : Int32)) % (6 : Int32))), .val (.int (0 : Int32)), .val (.ref a_NOT_SUPPORTED), .unset, .unset, .unset] [(.ref a_SUPPORTS), (.ref a_NOT_SUPPORTED)])) X32 hx rfl rfl rfl (pc0 := 110) (pc' := 117) (same := false) rfl (hb hby at_110) rfl (decide_eq_false fun q => (Fld.ne hS.2.2.2.2.2.2.2.2.2.2.2.2.2.2.2.2.2.2.2.2.2.2.2.2.2.2.1 hS.2.2.2.2.2.2.2.2.2.2.2.2.2.2.2.2.2.2.2.1 (fun q => absurd (Value.int.inj q) (by decide))) (Value.ref.inj q)) (by decide) (by decide) ?_
              show Steps p.tables e below (T32.setTop (mkF m 117 #[.val (.int p0), .val (.int p1), .val (.int ((p0 &&& (2147483647 : Int32)) % (6 : Int32))), .val (.int (0 : Int32)), .val (.ref a_NOT_SUPPORTED), .unset, .unset, .unset] [])) _
              refine XS.iconst X32.here hx rfl (hb hby at_117) ?_
              show Steps p.tables e below (T32.setTop (mkF m 118 #[.val (.int p0), .val (.int p1), .val (.int ((p0 &&& (2147483647 : Int32)) % (6 : Int32))), .val (.int (0 : Int32)), .val (.ref a_NOT_SUPPORTED), .unset, .unset, .unset] [(.int (0 : Int32))])) _
              refine XS.istore X32.here hx rfl (hb hby at_118) rfl (l' := #[.val (.int p0), .val (.int p1), .val (.int ((p0 &&& (2147483647 : Int32)) % (6 : Int32))), .val (.int (0 : Int32)), .val (.ref a_NOT_SUPPORTED), .val (.int (0 : Int32)), .unset, .unset]) rfl ?_
              show Steps p.tables e below (T32.setTop (mkF m 120 #[.val (.int p0), .val (.int p1), .val (.int ((p0 &&& (2147483647 : Int32)) % (6 : Int32))), .val (.int (0 : Int32)), .val (.ref a_NOT_SUPPORTED), .val (.int (0 : Int32)), .unset, .unset] [])) _
              refine XS.aload X32.here hx rfl (hb hby at_120) rfl rfl ?_
              show Steps p.tables e below (T32.setTop (mkF m 122 #[.val (.int p0), .val (.int p1), .val (.int ((p0 &&& (2147483647 : Int32)) % (6 : Int32))), .val (.int (0 : Int32)), .val (.ref a_NOT_SUPPORTED), .val (.int (0 : Int32)), .unset, .unset] [(.ref a_NOT_SUPPORTED)])) _
              refine st33 _ ?_
              show Steps p.tables e below (T33.setTop (mkF m 125 #[.val (.int p0), .val (.int p1), .val (.int ((p0 &&& (2147483647 : Int32)) % (6 : Int32))), .val (.int (0 : Int32)), .val (.ref a_NOT_SUPPORTED), .val (.int (0 : Int32)), .unset, .unset] [(.ref a_REQUIRED), (.ref a_NOT_SUPPORTED)])) _
              refine Jvm.RoadKit.acmp (g := (mkF m 125 #[.val (.int p0), .val (.int p1), .val (.int ((p0 &&& (2147483647 : Int32)) % (6 : Int32))), .val (.int (0 : Int32)), .val (.ref a_NOT_SUPPORTED), .val (.int (0 : Int32)), .unset, .unset] [(.ref a_REQUIRED), (.ref a_NOT_SUPPORTED)])) X33 hx rfl rfl rfl (pc0 := 125) (pc' := 128) (same := false) rfl (hb hby at_125) rfl (decide_eq_false fun q => (Fld.ne hS.2.2.2.2.2.2.2.2.2.2.2.2.2.2.2.2.2.2.2.2.2.2.2.2.2.2.1 hS.2.2.2.2.1 (fun q => absurd (Value.int.inj q) (by decide))) (Value.ref.inj q)) (by decide) (by decide) ?_
              show Steps p.tables e below (T33.setTop (mkF m 128 #[.val (.int p0), .val (.int p1), .val (.int ((p0 &&& (2147483647 : Int32)) % (6 : Int32))), .val (.int (0 : Int32)), .val (.ref a_NOT_SUPPORTED), .val (.int (0 : Int32)), .unset, .unset] [])) _
              refine XS.aload X33.here hx rfl (hb hby at_128) rfl rfl ?_
              show Steps p.tables e below (T33.setTop (mkF m 130 #[.val (.int p0), .val (.int p1), .val (.int ((p0 &&& (2147483647 : Int32)) % (6 : Int32))), .val (.int (0 : Int32)), .val (.ref a_NOT_SUPPORTED), .val (.int (0 : Int32)), .unset, .unset] [(.ref a_NOT_SUPPORTED)])) _
              refine st34 _ ?_
              show Steps p.tables e below (T34.setTop (mkF m 133 #[.val (.int p0), .val (.int p1), .val (.int ((p0 &&& (2147483647 : Int32)) % (6 : Int32))), .val (.int (0 : Int32)), .val (.ref a_NOT_SUPPORTED), .val (.int (0 : Int32)), .unset, .unset] [(.ref a_REQUIRES_NEW), (.ref a_NOT_SUPPORTED)])) _
              refine Jvm.RoadKit.acmp (g := (mkF m 133 #[.val (.int p0), .val (.int p1), .val (.int ((p0 &&& (2147483647 : Int32)) % (6 : Int32))), .val (.int (0 : Int32)), .val (.ref a_NOT_SUPPORTED), .val (.int (0 : Int32)), .unset, .unset] [(.ref a_REQUIRES_NEW), (.ref a_NOT_SUPPORTED)])) X34 hx rfl rfl rfl (pc0 := 133) (pc' := 140) (same := false) rfl (hb hby at_133) rfl (decide_eq_false fun q => (Fld.ne hS.2.2.2.2.2.2.2.2.2.2.2.2.2.2.2.2.2.2.2.2.2.2.2.2.2.2.1 hS.2.2.2.2.2.2.2.2.2.2.2.2.2.2.1 (fun q => absurd (Value.int.inj q) (by decide))) (Value.ref.inj q)) (by decide) (by decide) ?_
              show Steps p.tables e below (T34.setTop (mkF m 140 #[.val (.int p0), .val (.int p1), .val (.int ((p0 &&& (2147483647 : Int32)) % (6 : Int32))), .val (.int (0 : Int32)), .val (.ref a_NOT_SUPPORTED), .val (.int (0 : Int32)), .unset, .unset] [])) _
              refine XS.iconst X34.here hx rfl (hb hby at_140) ?_
              show Steps p.tables e below (T34.setTop (mkF m 141 #[.val (.int p0), .val (.int p1), .val (.int ((p0 &&& (2147483647 : Int32)) % (6 : Int32))), .val (.int (0 : Int32)), .val (.ref a_NOT_SUPPORTED), .val (.int (0 : Int32)), .unset, .unset] [(.int (0 : Int32))])) _
              refine XS.istore X34.here hx rfl (hb hby at_141) rfl (l' := #[.val (.int p0), .val (.int p1), .val (.int ((p0 &&& (2147483647 : Int32)) % (6 : Int32))), .val (.int (0 : Int32)), .val (.ref a_NOT_SUPPORTED), .val (.int (0 : Int32)), .val (.int (0 : Int32)), .unset]) rfl ?_
              show Steps p.tables e below (T34.setTop (mkF m 143 #[.val (.int p0), .val (.int p1), .val (.int ((p0 &&& (2147483647 : Int32)) % (6 : Int32))), .val (.int (0 : Int32)), .val (.ref a_NOT_SUPPORTED), .val (.int (0 : Int32)), .val (.int (0 : Int32)), .unset] [])) _
              refine XS.iloadN X34.here hx rfl (hb hby at_143) rfl ?_
              show Steps p.tables e below (T34.setTop (mkF m 144 #[.val (.int p0), .val (.int p1), .val (.int ((p0 &&& (2147483647 : Int32)) % (6 : Int32))), .val (.int (0 : Int32)), .val (.ref a_NOT_SUPPORTED), .val (.int (0 : Int32)), .val (.int (0 : Int32)), .unset] [(.int (0 : Int32))])) _
              refine XS.ifYes X34.here hx rfl (pc0 := 144) (pc' := 200) rfl (hb hby at_144) rfl ((if0 _ _).trans (teq (by decide : (0 : Int32) = (0 : Int32))).1) (by decide) (by decide) ?_
              show Steps p.tables e below (T34.setTop (mkF m 200 #[.val (.int p0), .val (.int p1), .val (.int ((p0 &&& (2147483647 : Int32)) % (6 : Int32))), .val (.int (0 : Int32)), .val (.ref a_NOT_SUPPORTED), .val (.int (0 : Int32)), .val (.int (0 : Int32)), .unset] [])) _
              refine XS.aload X34.here hx rfl (hb hby at_200) rfl rfl ?_
              show Steps p.tables e below (T34.setTop (mkF m 202 #[.val (.int p0), .val (.int p1), .val (.int ((p0 &&& (2147483647 : Int32)) % (6 : Int32))), .val (.int (0 : Int32)), .val (.ref a_NOT_SUPPORTED), .val (.int (0 : Int32)), .val (.int (0 : Int32)), .unset] [(.ref a_NOT_SUPPORTED)])) _
              refine st35 _ ?_
              show Steps p.tables e below (T35.setTop (mkF m 205 #[.val (.int p0), .val (.int p1), .val (.int ((p0 &&& (2147483647 : Int32)) % (6 : Int32))), .val (.int (0 : Int32)), .val (.ref a_NOT_SUPPORTED), .val (.int (0 : Int32)), .val (.int (0 : Int32)), .unset] [(.ref a_MANDATORY), (.ref a_NOT_SUPPORTED)])) _
              refine Jvm.RoadKit.acmp (g := (mkF m 205 #[.val (.int p0), .val (.int p1), .val (.int ((p0 &&& (2147483647 : Int32)) % (6 : Int32))), .val (.int (0 : Int32)), .val (.ref a_NOT_SUPPORTED), .val (.int (0 : Int32)), .val (.int (0 : Int32)), .unset] [(.ref a_MANDATORY), (.ref a_NOT_SUPPORTED)])) X35 hx rfl rfl rfl (pc0 := 205) (pc' := 216) (same := false) rfl (hb hby at_205) rfl (decide_eq_false fun q => (Fld.ne hS.2.2.2.2.2.2.2.2.2.2.2.2.2.2.2.2.2.2.2.2.2.2.2.2.2.2.1 hS.2.2.2.2.2.2.2.2.2.2.2.1 (fun q => absurd (Value.int.inj q) (by decide))) (Value.ref.inj q)) (by decide) (by decide) ?_
              show Steps p.tables e below (T35.setTop (mkF m 216 #[.val (.int p0), .val (.int p1), .val (.int ((p0 &&& (2147483647 : Int32)) % (6 : Int32))), .val (.int (0 : Int32)), .val (.ref a_NOT_SUPPORTED), .val (.int (0 : Int32)), .val (.int (0 : Int32)), .unset] [])) _
              refine XS.iload X35.here hx rfl (hb hby at_216) rfl ?_
              show Steps p.tables e below (T35.setTop (mkF m 218 #[.val (.int p0), .val (.int p1), .val (.int ((p0 &&& (2147483647 : Int32)) % (6 : Int32))), .val (.int (0 : Int32)), .val (.ref a_NOT_SUPPORTED), .val (.int (0 : Int32)), .val (.int (0 : Int32)), .unset] [(.int (0 : Int32))])) _
              refine XS.ifYes X35.here hx rfl (pc0 := 218) (pc' := 229) rfl (hb hby at_218) rfl ((if0 _ _).trans (teq (by decide : (0 : Int32) = (0 : Int32))).1) (by decide) (by decide) ?_
              show Steps p.tables e below (T35.setTop (mkF m 229 #[.val (.int p0), .val (.int p1), .val (.int ((p0 &&& (2147483647 : Int32)) % (6 : Int32))), .val (.int (0 : Int32)), .val (.ref a_NOT_SUPPORTED), .val (.int (0 : Int32)), .val (.int (0 : Int32)), .unset] [])) _
              refine st36 _ ?_
              show Steps p.tables e below (T36.setTop (mkF m 232 #[.val (.int p0), .val (.int p1), .val (.int ((p0 &&& (2147483647 : Int32)) % (6 : Int32))), .val (.int (0 : Int32)), .val (.ref a_NOT_SUPPORTED), .val (.int (0 : Int32)), .val (.int (0 : Int32)), .unset] [(.ref a_NONE)])) _
              refine XS.astore X36.here hx rfl (hb hby at_232) rfl rfl (l' := #[.val (.int p0), .val (.int p1), .val (.int ((p0 &&& (2147483647 : Int32)) % (6 : Int32))), .val (.int (0 : Int32)), .val (.ref a_NOT_SUPPORTED), .val (.int (0 : Int32)), .val (.int (0 : Int32)), .val (.ref a_NONE)]) rfl ?_
              show Steps p.tables e below (T36.setTop (mkF m 234 #[.val (.int p0), .val (.int p1), .val (.int ((p0 &&& (2147483647 : Int32)) % (6 : Int32))), .val (.int (0 : Int32)), .val (.ref a_NOT_SUPPORTED), .val (.int (0 : Int32)), .val (.int (0 : Int32)), .val (.ref a_NONE)] [])) _
              refine XS.aload X36.here hx rfl (hb hby at_234) rfl rfl ?_
              show Steps p.tables e below (T36.setTop (mkF m 236 #[.val (.int p0), .val (.int p1), .val (.int ((p0 &&& (2147483647 : Int32)) % (6 : Int32))), .val (.int (0 : Int32)), .val (.ref a_NOT_SUPPORTED), .val (.int (0 : Int32)), .val (.int (0 : Int32)), .val (.ref a_NONE)] [(.ref a_NOT_SUPPORTED)])) _
              refine XS.iloadN X36.here hx rfl (hb hby at_236) rfl ?_
              show Steps p.tables e below (T36.setTop (mkF m 237 #[.val (.int p0), .val (.int p1), .val (.int ((p0 &&& (2147483647 : Int32)) % (6 : Int32))), .val (.int (0 : Int32)), .val (.ref a_NOT_SUPPORTED), .val (.int (0 : Int32)), .val (.int (0 : Int32)), .val (.ref a_NONE)] [(.int (0 : Int32)), (.ref a_NOT_SUPPORTED)])) _
              refine st37 _ ?_
              show Steps p.tables e below (T37.setTop (mkF m 240 #[.val (.int p0), .val (.int p1), .val (.int ((p0 &&& (2147483647 : Int32)) % (6 : Int32))), .val (.int (0 : Int32)), .val (.ref a_NOT_SUPPORTED), .val (.int (0 : Int32)), .val (.int (0 : Int32)), .val (.ref a_NONE)] [(.ref a_NONE)])) _
              refine XS.aload X37.here hx rfl (hb hby at_240) rfl rfl ?_
              show Steps p.tables e below (T37.setTop (mkF m 242 #[.val (.int p0), .val (.int p1), .val (.int ((p0 &&& (2147483647 : Int32)) % (6 : Int32))), .val (.int (0 : Int32)), .val (.ref a_NOT_SUPPORTED), .val (.int (0 : Int32)), .val (.int (0 : Int32)), .val (.ref a_NONE)] [(.ref a_NONE), (.ref a_NONE)])) _
              refine Jvm.RoadKit.acmp (g := (mkF m 242 #[.val (.int p0), .val (.int p1), .val (.int ((p0 &&& (2147483647 : Int32)) % (6 : Int32))), .val (.int (0 : Int32)), .val (.ref a_NOT_SUPPORTED), .val (.int (0 : Int32)), .val (.int (0 : Int32)), .val (.ref a_NONE)] [(.ref a_NONE), (.ref a_NONE)])) X37 hx rfl rfl rfl (pc0 := 242) (pc' := 245) (same := true) rfl (hb hby at_242) rfl (decide_eq_true rfl) (by decide) (by decide) ?_
              show Steps p.tables e below (T37.setTop (mkF m 245 #[.val (.int p0), .val (.int p1), .val (.int ((p0 &&& (2147483647 : Int32)) % (6 : Int32))), .val (.int (0 : Int32)), .val (.ref a_NOT_SUPPORTED), .val (.int (0 : Int32)), .val (.int (0 : Int32)), .val (.ref a_NONE)] [])) _
              refine XS.iconst X37.here hx rfl (hb hby at_245) ?_
              show Steps p.tables e below (T37.setTop (mkF m 246 #[.val (.int p0), .val (.int p1), .val (.int ((p0 &&& (2147483647 : Int32)) % (6 : Int32))), .val (.int (0 : Int32)), .val (.ref a_NOT_SUPPORTED), .val (.int (0 : Int32)), .val (.int (0 : Int32)), .val (.ref a_NONE)] [(.int (1 : Int32))])) _
              refine XS.goto X37.here hx rfl (pc0 := 246) (pc' := 250) rfl (hb hby at_246) (by decide) (by decide) ?_
              show Steps p.tables e below (T37.setTop (mkF m 250 #[.val (.int p0), .val (.int p1), .val (.int ((p0 &&& (2147483647 : Int32)) % (6 : Int32))), .val (.int (0 : Int32)), .val (.ref a_NOT_SUPPORTED), .val (.int (0 : Int32)), .val (.int (0 : Int32)), .val (.ref a_NONE)] [(.int (1 : Int32))])) _
              exact retN X37 hx (t := .boolean) Bd.returns (by simp) (hb hby at_250) hr
            · show Q0 n0 _ T37.heap _
              rw [e37]
              exact ⟨rfl, N37⟩
          · have gp38 : ∀ t, Steps p.tables e below (s₁.setTop (mkF m 73 #[.val (.int p0), .val (.int p1), .val (.int ((p0 &&& (2147483647 : Int32)) % (6 : Int32))), .val (.int (0 : Int32)), .unset, .unset, .unset, .unset] [(.int (4 : Int32)), (.int ((p0 &&& (2147483647 : Int32)) % (6 : Int32)))])) t → Steps p.tables e below (s₁.setTop (entryFrame m #[(.int p0), (.int p1)] maxLocals)) t := fun t kt => gp28 t (by
              refine XS.icmpYes X0.here hx rfl (pc0 := 60) (pc' := 71) rfl (hb hby at_60) rfl (feq hc60).2 (by decide) (by decide) ?_
              show Steps p.tables e below (s₁.setTop (mkF m 71 #[.val (.int p0), .val (.int p1), .val (.int ((p0 &&& (2147483647 : Int32)) % (6 : Int32))), .val (.int (0 : Int32)), .unset, .unset, .unset, .unset] [])) _
              refine XS.iloadN X0.here hx rfl (hb hby at_71) rfl ?_
              show Steps p.tables e below (s₁.setTop (mkF m 72 #[.val (.int p0), .val (.int p1), .val (.int ((p0 &&& (2147483647 : Int32)) % (6 : Int32))), .val (.int (0 : Int32)), .unset, .unset, .unset, .unset] [(.int ((p0 &&& (2147483647 : Int32)) % (6 : Int32)))])) _
              refine XS.iconst X0.here hx rfl (hb hby at_72) ?_
              show Steps p.tables e below (s₁.setTop (mkF m 73 #[.val (.int p0), .val (.int p1), .val (.int ((p0 &&& (2147483647 : Int32)) % (6 : Int32))), .val (.int (0 : Int32)), .unset, .unset, .unset, .unset] [(.int (4 : Int32)), (.int ((p0 &&& (2147483647 : Int32)) % (6 : Int32)))])) _
              exact kt)
            by_cases hc73 : ((p0 &&& (2147483647 : Int32)) % (6 : Int32)) = (4 : Int32)
            · obtain ⟨T39, X39, e39, st39⟩ := getS2 X0 hx hZ hown (host := "") (Or.inl (hw _ (List.mem_of_getElem? (i := 32) rfl))) Via.refl e0 (hS.2.2.2.2.2.2.2.2.2.2.2.2.2.2.2.2.2.2.1.ext O0.2) (g := (mkF m 76 #[.val (.int p0), .val (.int p1), .val (.int ((p0 &&& (2147483647 : Int32)) % (6 : Int32))), .val (.int (0 : Int32)), .unset, .unset, .unset, .unset] [])) rfl (hb hby at_76)
              obtain ⟨T40, X40, e40, st40⟩ := getS2 X39 hx hZ hown (host := "") (Or.inl (hw _ (List.mem_of_getElem? (i := 1) rfl))) Via.refl e39 (hS.2.1.ext O0.2) (g := (mkF m 91 #[.val (.int p0), .val (.int p1), .val (.int ((p0 &&& (2147483647 : Int32)) % (6 : Int32))), .val (.int (0 : Int32)), .val (.ref a_SUPPORTS), .unset, .unset, .unset] [(.ref a_SUPPORTS)])) rfl (hb hby at_91)
              obtain ⟨T41, X41, e41, st41⟩ := getS2 X40 hx hZ hown (host := "") (Or.inl (hw _ (List.mem_of_getElem? (i := 25) rfl))) Via.refl e40 (hS.2.2.2.2.2.2.2.2.2.2.1.ext O0.2) (g := (mkF m 99 #[.val (.int p0), .val (.int p1), .val (.int ((p0 &&& (2147483647 : Int32)) % (6 : Int32))), .val (.int (0 : Int32)), .val (.ref a_SUPPORTS), .unset, .unset, .unset] [(.ref a_SUPPORTS)])) rfl (hb hby at_99)
              obtain ⟨T42, X42, e42, st42⟩ := getS2 X41 hx hZ hown (host := "") (Or.inl (hw _ (List.mem_of_getElem? (i := 32) rfl))) Via.refl e41 (hS.2.2.2.2.2.2.2.2.2.2.2.2.2.2.2.2.2.2.1.ext O0.2) (g := (mkF m 107 #[.val (.int p0), .val (.int p1), .val (.int ((p0 &&& (2147483647 : Int32)) % (6 : Int32))), .val (.int (0 : Int32)), .val (.ref a_SUPPORTS), .unset, .unset, .unset] [(.ref a_SUPPORTS)])) rfl (hb hby at_107)
              obtain ⟨T43, X43, e43, st43⟩ := getS2 X42 hx hZ hown (host := "") (Or.inl (hw _ (List.mem_of_getElem? (i := 1) rfl))) Via.refl e42 (hS.2.1.ext O0.2) (g := (mkF m 122 #[.val (.int p0), .val (.int p1), .val (.int ((p0 &&& (2147483647 : Int32)) % (6 : Int32))), .val (.int (0 : Int32)), .val (.ref a_SUPPORTS), .val (.int (1 : Int32)), .unset, .unset] [(.ref a_SUPPORTS)])) rfl (hb hby at_122)
              obtain ⟨T44, X44, e44, st44⟩ := getS2 X43 hx hZ hown (host := "") (Or.inl (hw _ (List.mem_of_getElem? (i := 27) rfl))) Via.refl e43 (hS.2.2.2.2.2.2.2.2.2.2.2.2.2.1.ext O0.2) (g := (mkF m 130 #[.val (.int p0), .val (.int p1), .val (.int ((p0 &&& (2147483647 : Int32)) % (6 : Int32))), .val (.int (0 : Int32)), .val (.ref a_SUPPORTS), .val (.int (1 : Int32)), .unset, .unset] [(.ref a_SUPPORTS)])) rfl (hb hby at_130)
              obtain ⟨T45, X45, e45, st45⟩ := getS2 X44 hx hZ hown (host := "") (Or.inl (hw _ (List.mem_of_getElem? (i := 25) rfl))) Via.refl e44 (hS.2.2.2.2.2.2.2.2.2.2.1.ext O0.2) (g := (mkF m 202 #[.val (.int p0), .val (.int p1), .val (.int ((p0 &&& (2147483647 : Int32)) % (6 : Int32))), .val (.int (0 : Int32)), .val (.ref a_SUPPORTS), .val (.int (1 : Int32)), .val (.int (0 : Int32)), .unset] [(.ref a_SUPPORTS)])) rfl (hb hby at_202)
              obtain ⟨T46, X46, e46, st46⟩ := getS2 X45 hx hZ hown (host := "") (Or.inl (hw _ (List.mem_of_getElem? (i := 34) rfl))) Via.refl e45 (hS.2.2.2.2.2.2.2.2.2.2.2.2.2.2.2.2.2.2.2.2.2.1.ext O0.2) (g := (mkF m 229 #[.val (.int p0), .val (.int p1), .val (.int ((p0 &&& (2147483647 : Int32)) % (6 : Int32))), .val (.int (0 : Int32)), .val (.ref a_SUPPORTS), .val (.int (1 : Int32)), .val (.int (0 : Int32)), .unset] [])) rfl (hb hby at_229)
              obtain ⟨_, _, ⟨T47, L47, k47, n47⟩, -, X47, ⟨Lc47, hQ47, l47, y47, z47⟩, st47⟩ := Jvm.LawKit.callS X46 hx (y := (⟨"com/example/demarc/demarc/Placement", "of", "(Lcom/example/demarc/demarc/TransactionAttributeType;Z)Lcom/example/demarc/demarc/Placement;"⟩ : MethodName)) hown (mvT hZ (hw _ (List.mem_of_getElem? (i := 9) rfl))) (mvT hZ (hw _ (List.mem_of_getElem? (i := 10) rfl))) (mvT hZ (hw _ (List.mem_of_getElem? (i := 7) rfl))) (mvT hZ (hw _ (List.mem_of_getElem? (i := 11) rfl))) (by decide) (backOf (W := 0) (rm_of_SUPPORTS_0 l Z a0 hw [] a_REQUIRED a_NEVER a_JOIN a__SwitchMap_com_example_demarc_demarc_TransactionAttributeType a_MANDATORY a_REQUIRES_NEW a_REFUSED a_SUPPORTS a_NONE a_NEW a_NOT_SUPPORTED k_a__SwitchMap_com_example_demarc_demarc_TransactionAttributeType hS h0 n0 O0) hZ (hw _ (List.mem_of_getElem? (i := 11) rfl)) (hw _ (List.mem_of_getElem? (i := 7) rfl)) (by decide) (by decide)) (g := (mkF m 237 #[.val (.int p0), .val (.int p1), .val (.int ((p0 &&& (2147483647 : Int32)) % (6 : Int32))), .val (.int (0 : Int32)), .val (.ref a_SUPPORTS), .val (.int (1 : Int32)), .val (.int (0 : Int32)), .val (.ref a_NONE)] [(.int (0 : Int32)), (.ref a_SUPPORTS)])) rfl (by rw [hml]; rfl) (argsL := [(.ref a_SUPPORTS), (.int (0 : Int32))]) (rest := []) (lenOf pd_1 rfl) rfl (by show 2 * 0 + _ ≤ _; exact Nat.le_of_eq rfl) (hb hby at_237) (fun _ _ => ⟨rfl, e46, (by decide : 0 + 0 ≤ _), (by decide : 0 + 0 ≤ _)⟩)
              dsimp only [Pt.U, Pt.locs, Pt.cells, Pt.slots] at X47 l47 y47 z47 st47 hQ47
              subst l47 y47 z47
              obtain ⟨rfl, N47q, e47⟩ := hQ47
              have N47 := Fr.app N0 N47q
              obtain ⟨fs, hr, hrun, hended, hW, hsame⟩ := X47.leave (v := (some (.int (1 : Int32)))) (fun h => by rw [Bd.returns] at h; cases h)
              refine ⟨_, _, gp38 _ ?_, hrun, hended, _, _, rfl, ?_, ⟨_, rfl⟩, hW, hsame.mono (by decide) (by decide)⟩
              · refine XS.icmpNo X0.here hx rfl (hb hby at_73) rfl (teq hc73).2 ?_
                show Steps p.tables e below (s₁.setTop (mkF m 76 #[.val (.int p0), .val (.int p1), .val (.int ((p0 &&& (2147483647 : Int32)) % (6 : Int32))), .val (.int (0 : Int32)), .unset, .unset, .unset, .unset] [])) _
                refine st39 _ ?_
                show Steps p.tables e below (T39.setTop (mkF m 79 #[.val (.int p0), .val (.int p1), .val (.int ((p0 &&& (2147483647 : Int32)) % (6 : Int32))), .val (.int (0 : Int32)), .unset, .unset, .unset, .unset] [(.ref a_SUPPORTS)])) _
                refine XS.astore X39.here hx rfl (hb hby at_79) rfl rfl (l' := #[.val (.int p0), .val (.int p1), .val (.int ((p0 &&& (2147483647 : Int32)) % (6 : Int32))), .val (.int (0 : Int32)), .val (.ref a_SUPPORTS), .unset, .unset, .unset]) rfl ?_
                show Steps p.tables e below (T39.setTop (mkF m 81 #[.val (.int p0), .val (.int p1), .val (.int ((p0 &&& (2147483647 : Int32)) % (6 : Int32))), .val (.int (0 : Int32)), .val (.ref a_SUPPORTS), .unset, .unset, .unset] [])) _
                refine XS.goto X39.here hx rfl (pc0 := 81) (pc' := 89) rfl (hb hby at_81) (by decide) (by decide) ?_
                show Steps p.tables e below (T39.setTop (mkF m 89 #[.val (.int p0), .val (.int p1), .val (.int ((p0 &&& (2147483647 : Int32)) % (6 : Int32))), .val (.int (0 : Int32)), .val (.ref a_SUPPORTS), .unset, .unset, .unset] [])) _
                refine XS.aload X39.here hx rfl (hb hby at_89) rfl rfl ?_
                show Steps p.tables e below (T39.setTop (mkF m 91 #[.val (.int p0), .val (.int p1), .val (.int ((p0 &&& (2147483647 : Int32)) % (6 : Int32))), .val (.int (0 : Int32)), .val (.ref a_SUPPORTS), .unset, .unset, .unset] [(.ref a_SUPPORTS)])) _
                refine st40 _ ?_
                show Steps p.tables e below (T40.setTop (mkF m 94 #[.val (.int p0), .val (.int p1), .val (.int ((p0 &&& (2147483647 : Int32)) % (6 : Int32))), .val (.int (0 : Int32)), .val (.ref a_SUPPORTS), .unset, .unset, .unset] [(.ref a_REQUIRED), (.ref a_SUPPORTS)])) _
                refine Jvm.RoadKit.acmp (g := (mkF m 94 #[.val (.int p0), .val (.int p1), .val (.int ((p0 &&& (2147483647 : Int32)) % (6 : Int32))), .val (.int (0 : Int32)), .val (.ref a_SUPPORTS), .unset, .unset, .unset] [(.ref a_REQUIRED), (.ref a_SUPPORTS)])) X40 hx rfl rfl rfl (pc0 := 94) (pc' := 97) (same := false) rfl (hb hby at_94) rfl (decide_eq_false fun q => (Fld.ne hS.2.2.2.2.2.2.2.2.2.2.2.2.2.2.2.2.2.2.2.1 hS.2.2.2.2.1 (fun q => absurd (Value.int.inj q) (by decide))) (Value.ref.inj q)) (by decide) (by decide) ?_
                show Steps p.tables e below (T40.setTop (mkF m 97 #[.val (.int p0), .val (.int p1), .val (.int ((p0 &&& (2147483647 : Int32)) % (6 : Int32))), .val (.int (0 : Int32)), .val (.ref a_SUPPORTS), .unset, .unset, .unset] [])) _
                refine XS.aload X40.here hx rfl (hb hby at_97) rfl rfl ?_
                show Steps p.tables e below (T40.setTop (mkF m 99 #[.val (.int p0), .val (.int p1), .val (.int ((p0 &&& (2147483647 : Int32)) % (6 : Int32))), .val (.int (0 : Int32)), .val (.ref a_SUPPORTS), .unset, .unset, .unset] [(.ref a_SUPPORTS)])) _
                refine st41 _ ?_
                show Steps p.tables e below (T41.setTop (mkF m 102 #[.val (.int p0), .val (.int p1), .val (.int ((p0 &&& (2147483647 : Int32)) % (6 : Int32))), .val (.int (0 : Int32)), .val (.ref a_SUPPORTS), .unset, .unset, .unset] [(.ref a_MANDATORY), (.ref a_SUPPORTS)])) _
                refine Jvm.RoadKit.acmp (g := (mkF m 102 #[.val (.int p0), .val (.int p1), .val (.int ((p0 &&& (2147483647 : Int32)) % (6 : Int32))), .val (.int (0 : Int32)), .val (.ref a_SUPPORTS), .unset, .unset, .unset] [(.ref a_MANDATORY), (.ref a_SUPPORTS)])) X41 hx rfl rfl rfl (pc0 := 102) (pc' := 105) (same := false) rfl (hb hby at_102) rfl (decide_eq_false fun q => (Fld.ne hS.2.2.2.2.2.2.2.2.2.2.2.2.2.2.2.2.2.2.2.1 hS.2.2.2.2.2.2.2.2.2.2.2.1 (fun q => absurd (Value.int.inj q) (by decide))) (Value.ref.inj q)) (by decide) (by decide) ?_
                show Steps p.tables e below (T41.setTop (mkF m 105 #[.val (.int p0), .val (.int p1), .val (.int ((p0 &&& (2147483647 : Int32)) % (6 : Int32))), .val (.int (0 : Int32)), .val (.ref a_SUPPORTS), .unset, .unset, .unset] [])) _
                refine XS.aload X41.here hx rfl (hb hby at_105) rfl rfl ?_
                show Steps p.tables e below (T41.setTop (mkF m 107 #[.val (.int p0), .val (.int p1), .val (.int ((p0 &&& (2147483647 : Int32)) % (6 : Int32))), .val (.int (0 : Int32)), .val (.ref a_SUPPORTS), .unset, .unset, .unset] [(.ref a_SUPPORTS)])) _
                refine st42 _ ?_
                show Steps p.tables e below (T42.setTop (mkF m 110 #[.val (.int p0), .val (.int p1), .val (.int ((p0 &&& (2147483647 : Int32)) % (6 : Int32))), .val (.int (0 : Int32)), .val (.ref a_SUPPORTS), .unset, .unset, .unset] [(.ref a_SUPPORTS), (.ref a_SUPPORTS)])) _
                refine Jvm.RoadKit.acmp (g := (mkF m 110 #[.val (.int p0), .val (.int p1), .val (.int ((p0 &&& (2147483647 : Int32)) % (6 : Int32))), .val (.int (0 : Int32)), .val (.ref a_SUPPORTS), .unset, .unset, .unset] [(.ref a_SUPPORTS), (.ref a_SUPPORTS)])) X42 hx rfl rfl rfl (pc0 := 110) (pc' := 113) (same := true) rfl (hb hby at_110) rfl (decide_eq_true rfl) (by decide) (by decide) ?_
                show Steps p.tables e below (T42.setTop (mkF m 113 #[.val (.int p0), .val (.int p1), .val (.int ((p0 &&& (2147483647 : Int32)) % (6 : Int32))), .val (.int (0 : Int32)), .val (.ref a_SUPPORTS), .unset, .unset, .unset] [])) _
                refine XS.iconst X42.here hx rfl (hb hby at_113) ?_
                show Steps p.tables e below (T42.setTop (mkF m 114 #[.val (.int p0), .val (.int p1), .val (.int ((p0 &&& (2147483647 : Int32)) % (6 : Int32))), .val (.int (0 : Int32)), .val (.ref a_SUPPORTS), .unset, .unset, .unset] [(.int (1 : Int32))])) _
                refine XS.goto X42.here hx rfl (pc0 := 114) (pc' := 118) rfl (hb hby at_114) (by decide) (by decide) ?_
                show Steps p.tables e below (T42.setTop (mkF m 118 #[.val (.int p0), .val (.int p1), .val (.int ((p0 &&& (2147483647 : Int32)) % (6 : Int32))), .val (.int (0 : Int32)), .val (.ref a_SUPPORTS), .unset, .unset, .unset] [(.int (1 : Int32))])) _
                refine XS.istore X42.here hx rfl (hb hby at_118) rfl (l' := #[.val (.int p0), .val (.int p1), .val (.int ((p0 &&& (2147483647 : Int32)) % (6 : Int32))), .val (.int (0 : Int32)), .val (.ref a_SUPPORTS), .val (.int (1 : Int32)), .unset, .unset]) rfl ?_
                show Steps p.tables e below (T42.setTop (mkF m 120 #[.val (.int p0), .val (.int p1), .val (.int ((p0 &&& (2147483647 : Int32)) % (6 : Int32))), .val (.int (0 : Int32)), .val (.ref a_SUPPORTS), .val (.int (1 : Int32)), .unset, .unset] [])) _
                refine XS.aload X42.here hx rfl (hb hby at_120) rfl rfl ?_
                show Steps p.tables e below (T42.setTop (mkF m 122 #[.val (.int p0), .val (.int p1), .val (.int ((p0 &&& (2147483647 : Int32)) % (6 : Int32))), .val (.int (0 : Int32)), .val (.ref a_SUPPORTS), .val (.int (1 : Int32)), .unset, .unset] [(.ref a_SUPPORTS)])) _
                refine st43 _ ?_
                show Steps p.tables e below (T43.setTop (mkF m 125 #[.val (.int p0), .val (.int p1), .val (.int ((p0 &&& (2147483647 : Int32)) % (6 : Int32))), .val (.int (0 : Int32)), .val (.ref a_SUPPORTS), .val (.int (1 : Int32)), .unset, .unset] [(.ref a_REQUIRED), (.ref a_SUPPORTS)])) _
                refine Jvm.RoadKit.acmp (g := (mkF m 125 #[.val (.int p0), .val (.int p1), .val (.int ((p0 &&& (2147483647 : Int32)) % (6 : Int32))), .val (.int (0 : Int32)), .val (.ref a_SUPPORTS), .val (.int (1 : Int32)), .unset, .unset] [(.ref a_REQUIRED), (.ref a_SUPPORTS)])) X43 hx rfl rfl rfl (pc0 := 125) (pc' := 128) (same := false) rfl (hb hby at_125) rfl (decide_eq_false fun q => (Fld.ne hS.2.2.2.2.2.2.2.2.2.2.2.2.2.2.2.2.2.2.2.1 hS.2.2.2.2.1 (fun q => absurd (Value.int.inj q) (by decide))) (Value.ref.inj q)) (by decide) (by decide) ?_
                show Steps p.tables e below (T43.setTop (mkF m 128 #[.val (.int p0), .val (.int p1), .val (.int ((p0 &&& (2147483647 : Int32)) % (6 : Int32))), .val (.int (0 : Int32)), .val (.ref a_SUPPORTS), .val (.int (1 : Int32)), .unset, .unset] [])) _
                refine XS.aload X43.here hx rfl (hb hby at_128) rfl rfl ?_
                show Steps p.tables e below (T43.setTop (mkF m 130 #[.val (.int p0), .val (.int p1), .val (.int ((p0 &&& (2147483647 : Int32)) % (6 : Int32))), .val (.int (0 : Int32)), .val (.ref a_SUPPORTS), .val (.int (1 : Int32)), .unset, .unset] [(.ref a_SUPPORTS)])) _
                refine st44 _ ?_
                show Steps p.tables e below (T44.setTop (mkF m 133 #[.val (.int p0), .val (.int p1), .val (.int ((p0 &&& (2147483647 : Int32)) % (6 : Int32))), .val (.int (0 : Int32)), .val (.ref a_SUPPORTS), .val (.int (1 : Int32)), .unset, .unset] [(.ref a_REQUIRES_NEW), (.ref a_SUPPORTS)])) _
                refine Jvm.RoadKit.acmp (g := (mkF m 133 #[.val (.int p0), .val (.int p1), .val (.int ((p0 &&& (2147483647 : Int32)) % (6 : Int32))), .val (.int (0 : Int32)), .val (.ref a_SUPPORTS), .val (.int (1 : Int32)), .unset, .unset] [(.ref a_REQUIRES_NEW), (.ref a_SUPPORTS)])) X44 hx rfl rfl rfl (pc0 := 133) (pc' := 140) (same := false) rfl (hb hby at_133) rfl (decide_eq_false fun q => (Fld.ne hS.2.2.2.2.2.2.2.2.2.2.2.2.2.2.2.2.2.2.2.1 hS.2.2.2.2.2.2.2.2.2.2.2.2.2.2.1 (fun q => absurd (Value.int.inj q) (by decide))) (Value.ref.inj q)) (by decide) (by decide) ?_
                show Steps p.tables e below (T44.setTop (mkF m 140 #[.val (.int p0), .val (.int p1), .val (.int ((p0 &&& (2147483647 : Int32)) % (6 : Int32))), .val (.int (0 : Int32)), .val (.ref a_SUPPORTS), .val (.int (1 : Int32)), .unset, .unset] [])) _
                refine XS.iconst X44.here hx rfl (hb hby at_140) ?_
                show Steps p.tables e below (T44.setTop (mkF m 141 #[.val (.int p0), .val (.int p1), .val (.int ((p0 &&& (2147483647 : Int32)) % (6 : Int32))), .val (.int (0 : Int32)), .val (.ref a_SUPPORTS), .val (.int (1 : Int32)), .unset, .unset] [(.int (0 : Int32))])) _
                refine XS.istore X44.here hx rfl (hb hby at_141) rfl (l' := #[.val (.int p0), .val (.int p1), .val (.int ((p0 &&& (2147483647 : Int32)) % (6 : Int32))), .val (.int (0 : Int32)), .val (.ref a_SUPPORTS), .val (.int (1 : Int32)), .val (.int (0 : Int32)), .unset]) rfl ?_
                show Steps p.tables e below (T44.setTop (mkF m 143 #[.val (.int p0), .val (.int p1), .val (.int ((p0 &&& (2147483647 : Int32)) % (6 : Int32))), .val (.int (0 : Int32)), .val (.ref a_SUPPORTS), .val (.int (1 : Int32)), .val (.int (0 : Int32)), .unset] [])) _
                refine XS.iloadN X44.here hx rfl (hb hby at_143) rfl ?_
                show Steps p.tables e below (T44.setTop (mkF m 144 #[.val (.int p0), .val (.int p1), .val (.int ((p0 &&& (2147483647 : Int32)) % (6 : Int32))), .val (.int (0 : Int32)), .val (.ref a_SUPPORTS), .val (.int (1 : Int32)), .val (.int (0 : Int32)), .unset] [(.int (0 : Int32))])) _
                refine XS.ifYes X44.here hx rfl (pc0 := 144) (pc' := 200) rfl (hb hby at_144) rfl ((if0 _ _).trans (teq (by decide : (0 : Int32) = (0 : Int32))).1) (by decide) (by decide) ?_
                show Steps p.tables e below (T44.setTop (mkF m 200 #[.val (.int p0), .val (.int p1), .val (.int ((p0 &&& (2147483647 : Int32)) % (6 : Int32))), .val (.int (0 : Int32)), .val (.ref a_SUPPORTS), .val (.int (1 : Int32)), .val (.int (0 : Int32)), .unset] [])) _
                refine XS.aload X44.here hx rfl (hb hby at_200) rfl rfl ?_
                show Steps p.tables e below (T44.setTop (mkF m 202 #[.val (.int p0), .val (.int p1), .val (.int ((p0 &&& (2147483647 : Int32)) % (6 : Int32))), .val (.int (0 : Int32)), .val (.ref a_SUPPORTS), .val (.int (1 : Int32)), .val (.int (0 : Int32)), .unset] [(.ref a_SUPPORTS)])) _
                refine st45 _ ?_
                show Steps p.tables e below (T45.setTop (mkF m 205 #[.val (.int p0), .val (.int p1), .val (.int ((p0 &&& (2147483647 : Int32)) % (6 : Int32))), .val (.int (0 : Int32)), .val (.ref a_SUPPORTS), .val (.int (1 : Int32)), .val (.int (0 : Int32)), .unset] [(.ref a_MANDATORY), (.ref a_SUPPORTS)])) _
                refine Jvm.RoadKit.acmp (g := (mkF m 205 #[.val (.int p0), .val (.int p1), .val (.int ((p0 &&& (2147483647 : Int32)) % (6 : Int32))), .val (.int (0 : Int32)), .val (.ref a_SUPPORTS), .val (.int (1 : Int32)), .val (.int (0 : Int32)), .unset] [(.ref a_MANDATORY), (.ref a_SUPPORTS)])) X45 hx rfl rfl rfl (pc0 := 205) (pc' := 216) (same := false) rfl (hb hby at_205) rfl (decide_eq_false fun q => (Fld.ne hS.2.2.2.2.2.2.2.2.2.2.2.2.2.2.2.2.2.2.2.1 hS.2.2.2.2.2.2.2.2.2.2.2.1 (fun q => absurd (Value.int.inj q) (by decide))) (Value.ref.inj q)) (by decide) (by decide) ?_
                show Steps p.tables e below (T45.setTop (mkF m 216 #[.val (.int p0), .val (.int p1), .val (.int ((p0 &&& (2147483647 : Int32)) % (6 : Int32))), .val (.int (0 : Int32)), .val (.ref a_SUPPORTS), .val (.int (1 : Int32)), .val (.int (0 : Int32)), .unset] [])) _
                refine XS.iload X45.here hx rfl (hb hby at_216) rfl ?_
                show Steps p.tables e below (T45.setTop (mkF m 218 #[.val (.int p0), .val (.int p1), .val (.int ((p0 &&& (2147483647 : Int32)) % (6 : Int32))), .val (.int (0 : Int32)), .val (.ref a_SUPPORTS), .val (.int (1 : Int32)), .val (.int (0 : Int32)), .unset] [(.int (0 : Int32))])) _
                refine XS.ifYes X45.here hx rfl (pc0 := 218) (pc' := 229) rfl (hb hby at_218) rfl ((if0 _ _).trans (teq (by decide : (0 : Int32) = (0 : Int32))).1) (by decide) (by decide) ?_
                show Steps p.tables e below (T45.setTop (mkF m 229 #[.val (.int p0), .val (.int p1), .val (.int ((p0 &&& (2147483647 : Int32)) % (6 : Int32))), .val (.int (0 : Int32)), .val (.ref a_SUPPORTS), .val (.int (1 : Int32)), .val (.int (0 : Int32)), .unset] [])) _
                refine st46 _ ?_
                show Steps p.tables e below (T46.setTop (mkF m 232 #[.val (.int p0), .val (.int p1), .val (.int ((p0 &&& (2147483647 : Int32)) % (6 : Int32))), .val (.int (0 : Int32)), .val (.ref a_SUPPORTS), .val (.int (1 : Int32)), .val (.int (0 : Int32)), .unset] [(.ref a_NONE)])) _
                refine XS.astore X46.here hx rfl (hb hby at_232) rfl rfl (l' := #[.val (.int p0), .val (.int p1), .val (.int ((p0 &&& (2147483647 : Int32)) % (6 : Int32))), .val (.int (0 : Int32)), .val (.ref a_SUPPORTS), .val (.int (1 : Int32)), .val (.int (0 : Int32)), .val (.ref a_NONE)]) rfl ?_
                show Steps p.tables e below (T46.setTop (mkF m 234 #[.val (.int p0), .val (.int p1), .val (.int ((p0 &&& (2147483647 : Int32)) % (6 : Int32))), .val (.int (0 : Int32)), .val (.ref a_SUPPORTS), .val (.int (1 : Int32)), .val (.int (0 : Int32)), .val (.ref a_NONE)] [])) _
                refine XS.aload X46.here hx rfl (hb hby at_234) rfl rfl ?_
                show Steps p.tables e below (T46.setTop (mkF m 236 #[.val (.int p0), .val (.int p1), .val (.int ((p0 &&& (2147483647 : Int32)) % (6 : Int32))), .val (.int (0 : Int32)), .val (.ref a_SUPPORTS), .val (.int (1 : Int32)), .val (.int (0 : Int32)), .val (.ref a_NONE)] [(.ref a_SUPPORTS)])) _
                refine XS.iloadN X46.here hx rfl (hb hby at_236) rfl ?_
                show Steps p.tables e below (T46.setTop (mkF m 237 #[.val (.int p0), .val (.int p1), .val (.int ((p0 &&& (2147483647 : Int32)) % (6 : Int32))), .val (.int (0 : Int32)), .val (.ref a_SUPPORTS), .val (.int (1 : Int32)), .val (.int (0 : Int32)), .val (.ref a_NONE)] [(.int (0 : Int32)), (.ref a_SUPPORTS)])) _
                refine st47 _ ?_
                show Steps p.tables e below (T47.setTop (mkF m 240 #[.val (.int p0), .val (.int p1), .val (.int ((p0 &&& (2147483647 : Int32)) % (6 : Int32))), .val (.int (0 : Int32)), .val (.ref a_SUPPORTS), .val (.int (1 : Int32)), .val (.int (0 : Int32)), .val (.ref a_NONE)] [(.ref a_NONE)])) _
                refine XS.aload X47.here hx rfl (hb hby at_240) rfl rfl ?_
                show Steps p.tables e below (T47.setTop (mkF m 242 #[.val (.int p0), .val (.int p1), .val (.int ((p0 &&& (2147483647 : Int32)) % (6 : Int32))), .val (.int (0 : Int32)), .val (.ref a_SUPPORTS), .val (.int (1 : Int32)), .val (.int (0 : Int32)), .val (.ref a_NONE)] [(.ref a_NONE), (.ref a_NONE)])) _
                refine Jvm.RoadKit.acmp (g := (mkF m 242 #[.val (.int p0), .val (.int p1), .val (.int ((p0 &&& (2147483647 : Int32)) % (6 : Int32))), .val (.int (0 : Int32)), .val (.ref a_SUPPORTS), .val (.int (1 : Int32)), .val (.int (0 : Int32)), .val (.ref a_NONE)] [(.ref a_NONE), (.ref a_NONE)])) X47 hx rfl rfl rfl (pc0 := 242) (pc' := 245) (same := true) rfl (hb hby at_242) rfl (decide_eq_true rfl) (by decide) (by decide) ?_
                show Steps p.tables e below (T47.setTop (mkF m 245 #[.val (.int p0), .val (.int p1), .val (.int ((p0 &&& (2147483647 : Int32)) % (6 : Int32))), .val (.int (0 : Int32)), .val (.ref a_SUPPORTS), .val (.int (1 : Int32)), .val (.int (0 : Int32)), .val (.ref a_NONE)] [])) _
                refine XS.iconst X47.here hx rfl (hb hby at_245) ?_
                show Steps p.tables e below (T47.setTop (mkF m 246 #[.val (.int p0), .val (.int p1), .val (.int ((p0 &&& (2147483647 : Int32)) % (6 : Int32))), .val (.int (0 : Int32)), .val (.ref a_SUPPORTS), .val (.int (1 : Int32)), .val (.int (0 : Int32)), .val (.ref a_NONE)] [(.int (1 : Int32))])) _
                refine XS.goto X47.here hx rfl (pc0 := 246) (pc' := 250) rfl (hb hby at_246) (by decide) (by decide) ?_
                show Steps p.tables e below (T47.setTop (mkF m 250 #[.val (.int p0), .val (.int p1), .val (.int ((p0 &&& (2147483647 : Int32)) % (6 : Int32))), .val (.int (0 : Int32)), .val (.ref a_SUPPORTS), .val (.int (1 : Int32)), .val (.int (0 : Int32)), .val (.ref a_NONE)] [(.int (1 : Int32))])) _
                exact retN X47 hx (t := .boolean) Bd.returns (by simp) (hb hby at_250) hr
              · show Q0 n0 _ T47.heap _
                rw [e47]
                exact ⟨rfl, N47⟩
            · obtain ⟨T48, X48, e48, st48⟩ := getS2 X0 hx hZ hown (host := "") (Or.inl (hw _ (List.mem_of_getElem? (i := 4) rfl))) Via.refl e0 (hS.2.2.2.1.ext O0.2) (g := (mkF m 84 #[.val (.int p0), .val (.int p1), .val (.int ((p0 &&& (2147483647 : Int32)) % (6 : Int32))), .val (.int (0 : Int32)), .unset, .unset, .unset, .unset] [])) rfl (hb hby at_84)
              obtain ⟨T49, X49, e49, st49⟩ := getS2 X48 hx hZ hown (host := "") (Or.inl (hw _ (List.mem_of_getElem? (i := 1) rfl))) Via.refl e48 (hS.2.1.ext O0.2) (g := (mkF m 91 #[.val (.int p0), .val (.int p1), .val (.int ((p0 &&& (2147483647 : Int32)) % (6 : Int32))), .val (.int (0 : Int32)), .val (.ref a_NEVER), .unset, .unset, .unset] [(.ref a_NEVER)])) rfl (hb hby at_91)
              obtain ⟨T50, X50, e50, st50⟩ := getS2 X49 hx hZ hown (host := "") (Or.inl (hw _ (List.mem_of_getElem? (i := 25) rfl))) Via.refl e49 (hS.2.2.2.2.2.2.2.2.2.2.1.ext O0.2) (g := (mkF m 99 #[.val (.int p0), .val (.int p1), .val (.int ((p0 &&& (2147483647 : Int32)) % (6 : Int32))), .val (.int (0 : Int32)), .val (.ref a_NEVER), .unset, .unset, .unset] [(.ref a_NEVER)])) rfl (hb hby at_99)
              obtain ⟨T51, X51, e51, st51⟩ := getS2 X50 hx hZ hown (host := "") (Or.inl (hw _ (List.mem_of_getElem? (i := 32) rfl))) Via.refl e50 (hS.2.2.2.2.2.2.2.2.2.2.2.2.2.2.2.2.2.2.1.ext O0.2) (g := (mkF m 107 #[.val (.int p0), .val (.int p1), .val (.int ((p0 &&& (2147483647 : Int32)) % (6 : Int32))), .val (.int (0 : Int32)), .val (.ref a_NEVER), .unset, .unset, .unset] [(.ref a_NEVER)])) rfl (hb hby at_107)
              obtain ⟨T52, X52, e52, st52⟩ := getS2 X51 hx hZ hown (host := "") (Or.inl (hw _ (List.mem_of_getElem? (i := 1) rfl))) Via.refl e51 (hS.2.1.ext O0.2) (g := (mkF m 122 #[.val (.int p0), .val (.int p1), .val (.int ((p0 &&& (2147483647 : Int32)) % (6 : Int32))), .val (.int (0 : Int32)), .val (.ref a_NEVER), .val (.int (0 : Int32)), .unset, .unset] [(.ref a_NEVER)])) rfl (hb hby at_122)
              obtain ⟨T53, X53, e53, st53⟩ := getS2 X52 hx hZ hown (host := "") (Or.inl (hw _ (List.mem_of_getElem? (i := 27) rfl))) Via.refl e52 (hS.2.2.2.2.2.2.2.2.2.2.2.2.2.1.ext O0.2) (g := (mkF m 130 #[.val (.int p0), .val (.int p1), .val (.int ((p0 &&& (2147483647 : Int32)) % (6 : Int32))), .val (.int (0 : Int32)), .val (.ref a_NEVER), .val (.int (0 : Int32)), .unset, .unset] [(.ref a_NEVER)])) rfl (hb hby at_130)
              obtain ⟨T54, X54, e54, st54⟩ := getS2 X53 hx hZ hown (host := "") (Or.inl (hw _ (List.mem_of_getElem? (i := 25) rfl))) Via.refl e53 (hS.2.2.2.2.2.2.2.2.2.2.1.ext O0.2) (g := (mkF m 202 #[.val (.int p0), .val (.int p1), .val (.int ((p0 &&& (2147483647 : Int32)) % (6 : Int32))), .val (.int (0 : Int32)), .val (.ref a_NEVER), .val (.int (0 : Int32)), .val (.int (0 : Int32)), .unset] [(.ref a_NEVER)])) rfl (hb hby at_202)
              obtain ⟨T55, X55, e55, st55⟩ := getS2 X54 hx hZ hown (host := "") (Or.inl (hw _ (List.mem_of_getElem? (i := 34) rfl))) Via.refl e54 (hS.2.2.2.2.2.2.2.2.2.2.2.2.2.2.2.2.2.2.2.2.2.1.ext O0.2) (g := (mkF m 229 #[.val (.int p0), .val (.int p1), .val (.int ((p0 &&& (2147483647 : Int32)) % (6 : Int32))), .val (.int (0 : Int32)), .val (.ref a_NEVER), .val (.int (0 : Int32)), .val (.int (0 : Int32)), .unset] [])) rfl (hb hby at_229)
              obtain ⟨_, _, ⟨T56, L56, k56, n56⟩, -, X56, ⟨Lc56, hQ56, l56, y56, z56⟩, st56⟩ := Jvm.LawKit.callS X55 hx (y := (⟨"com/example/demarc/demarc/Placement", "of", "(Lcom/example/demarc/demarc/TransactionAttributeType;Z)Lcom/example/demarc/demarc/Placement;"⟩ : MethodName)) hown (mvT hZ (hw _ (List.mem_of_getElem? (i := 9) rfl))) (mvT hZ (hw _ (List.mem_of_getElem? (i := 10) rfl))) (mvT hZ (hw _ (List.mem_of_getElem? (i := 7) rfl))) (mvT hZ (hw _ (List.mem_of_getElem? (i := 11) rfl))) (by decide) (backOf (W := 0) (rm_of_NEVER_0 l Z a0 hw [] a_REQUIRED a_NEVER a_JOIN a__SwitchMap_com_example_demarc_demarc_TransactionAttributeType a_MANDATORY a_REQUIRES_NEW a_REFUSED a_SUPPORTS a_NONE a_NEW a_NOT_SUPPORTED k_a__SwitchMap_com_example_demarc_demarc_TransactionAttributeType hS h0 n0 O0) hZ (hw _ (List.mem_of_getElem? (i := 11) rfl)) (hw _ (List.mem_of_getElem? (i := 7) rfl)) (by decide) (by decide)) (g := (mkF m 237 #[.val (.int p0), .val (.int p1), .val (.int ((p0 &&& (2147483647 : Int32)) % (6 : Int32))), .val (.int (0 : Int32)), .val (.ref a_NEVER), .val (.int (0 : Int32)), .val (.int (0 : Int32)), .val (.ref a_NONE)] [(.int (0 : Int32)), (.ref a_NEVER)])) rfl (by rw [hml]; rfl) (argsL := [(.ref a_NEVER), (.int (0 : Int32))]) (rest := []) (lenOf pd_1 rfl) rfl (by show 2 * 0 + _ ≤ _; exact Nat.le_of_eq rfl) (hb hby at_237) (fun _ _ => ⟨rfl, e55, (by decide : 0 + 0 ≤ _), (by decide : 0 + 0 ≤ _)⟩)
              dsimp only [Pt.U, Pt.locs, Pt.cells, Pt.slots] at X56 l56 y56 z56 st56 hQ56
              subst l56 y56 z56
              obtain ⟨rfl, N56q, e56⟩ := hQ56
              have N56 := Fr.app N0 N56q
              obtain ⟨fs, hr, hrun, hended, hW, hsame⟩ := X56.leave (v := (some (.int (1 : Int32)))) (fun h => by rw [Bd.returns] at h; cases h)
              refine ⟨_, _, gp38 _ ?_, hrun, hended, _, _, rfl, ?_, ⟨_, rfl⟩, hW, hsame.mono (by decide) (by decide)⟩
              · refine XS.icmpYes X0.here hx rfl (pc0 := 73) (pc' := 84) rfl (hb hby at_73) rfl (feq hc73).2 (by decide) (by decide) ?_
                show Steps p.tables e below (s₁.setTop (mkF m 84 #[.val (.int p0), .val (.int p1), .val (.int ((p0 &&& (2147483647 : Int32)) % (6 : Int32))), .val (.int (0 : Int32)), .unset, .unset, .unset, .unset] [])) _
                refine st48 _ ?_
                show Steps p.tables e below (T48.setTop (mkF m 87 #[.val (.int p0), .val (.int p1), .val (.int ((p0 &&& (2147483647 : Int32)) % (6 : Int32))), .val (.int (0 : Int32)), .unset, .unset, .unset, .unset] [(.ref a_NEVER)])) _
                refine XS.astore X48.here hx rfl (hb hby at_87) rfl rfl (l' := #[.val (.int p0), .val (.int p1), .val (.int ((p0 &&& (2147483647 : Int32)) % (6 : Int32))), .val (.int (0 : Int32)), .val (.ref a_NEVER), .unset, .unset, .unset]) rfl ?_
                show Steps p.tables e below (T48.setTop (mkF m 89 #[.val (.int p0), .val (.int p1), .val (.int ((p0 &&& (2147483647 : Int32)) % (6 : Int32))), .val (.int (0 : Int32)), .val (.ref a_NEVER), .unset, .unset, .unset] [])) _
                refine XS.aload X48.here hx rfl (hb hby at_89) rfl rfl ?_
                show Steps p.tables e below (T48.setTop (mkF m 91 #[.val (.int p0), .val (.int p1), .val (.int ((p0 &&& (2147483647 : Int32)) % (6 : Int32))), .val (.int (0 : Int32)), .val (.ref a_NEVER), .unset, .unset, .unset] [(.ref a_NEVER)])) _
                refine st49 _ ?_
                show Steps p.tables e below (T49.setTop (mkF m 94 #[.val (.int p0), .val (.int p1), .val (.int ((p0 &&& (2147483647 : Int32)) % (6 : Int32))), .val (.int (0 : Int32)), .val (.ref a_NEVER), .unset, .unset, .unset] [(.ref a_REQUIRED), (.ref a_NEVER)])) _
                refine Jvm.RoadKit.acmp (g := (mkF m 94 #[.val (.int p0), .val (.int p1), .val (.int ((p0 &&& (2147483647 : Int32)) % (6 : Int32))), .val (.int (0 : Int32)), .val (.ref a_NEVER), .unset, .unset, .unset] [(.ref a_REQUIRED), (.ref a_NEVER)])) X49 hx rfl rfl rfl (pc0 := 94) (pc' := 97) (same := false) rfl (hb hby at_94) rfl (decide_eq_false fun q => (Fld.ne hS.2.2.2.2.2.1 hS.2.2.2.2.1 (fun q => absurd (Value.int.inj q) (by decide))) (Value.ref.inj q)) (by decide) (by decide) ?_
                show Steps p.tables e below (T49.setTop (mkF m 97 #[.val (.int p0), .val (.int p1), .val (.int ((p0 &&& (2147483647 : Int32)) % (6 : Int32))), .val (.int (0 : Int32)), .val (.ref a_NEVER), .unset, .unset, .unset] [])) _
                refine XS.aload X49.here hx rfl (hb hby at_97) rfl rfl ?_
                show Steps p.tables e below (T49.setTop (mkF m 99 #[.val (.int p0), .val (.int p1), .val (.int ((p0 &&& (2147483647 : Int32)) % (6 : Int32))), .val (.int (0 : Int32)), .val (.ref a_NEVER), .unset, .unset, .unset] [(.ref a_NEVER)])) _
                refine st50 _ ?_
                show Steps p.tables e below (T50.setTop (mkF m 102 #[.val (.int p0), .val (.int p1), .val (.int ((p0 &&& (2147483647 : Int32)) % (6 : Int32))), .val (.int (0 : Int32)), .val (.ref a_NEVER), .unset, .unset, .unset] [(.ref a_MANDATORY), (.ref a_NEVER)])) _
                refine Jvm.RoadKit.acmp (g := (mkF m 102 #[.val (.int p0), .val (.int p1), .val (.int ((p0 &&& (2147483647 : Int32)) % (6 : Int32))), .val (.int (0 : Int32)), .val (.ref a_NEVER), .unset, .unset, .unset] [(.ref a_MANDATORY), (.ref a_NEVER)])) X50 hx rfl rfl rfl (pc0 := 102) (pc' := 105) (same := false) rfl (hb hby at_102) rfl (decide_eq_false fun q => (Fld.ne hS.2.2.2.2.2.1 hS.2.2.2.2.2.2.2.2.2.2.2.1 (fun q => absurd (Value.int.inj q) (by decide))) (Value.ref.inj q)) (by decide) (by decide) ?_
                show Steps p.tables e below (T50.setTop (mkF m 105 #[.val (.int p0), .val (.int p1), .val (.int ((p0 &&& (2147483647 : Int32)) % (6 : Int32))), .val (.int (0 : Int32)), .val (.ref a_NEVER), .unset, .unset, .unset] [])) _
                refine XS.aload X50.here hx rfl (hb hby at_105) rfl rfl ?_
                show Steps p.tables e below (T50.setTop (mkF m 107 #[.val (.int p0), .val (.int p1), .val (.int ((p0 &&& (2147483647 : Int32)) % (6 : Int32))), .val (.int (0 : Int32)), .val (.ref a_NEVER), .unset, .unset, .unset] [(.ref a_NEVER)])) _
                refine st51 _ ?_
                show Steps p.tables e below (T51.setTop (mkF m 110 #[.val (.int p0), .val (.int p1), .val (.int ((p0 &&& (2147483647 : Int32)) % (6 : Int32))), .val (.int (0 : Int32)), .val (.ref a_NEVER), .unset, .unset, .unset] [(.ref a_SUPPORTS), (.ref a_NEVER)])) _
                refine Jvm.RoadKit.acmp (g := (mkF m 110 #[.val (.int p0), .val (.int p1), .val (.int ((p0 &&& (2147483647 : Int32)) % (6 : Int32))), .val (.int (0 : Int32)), .val (.ref a_NEVER), .unset, .unset, .unset] [(.ref a_SUPPORTS), (.ref a_NEVER)])) X51 hx rfl rfl rfl (pc0 := 110) (pc' := 117) (same := false) rfl (hb hby at_110) rfl (decide_eq_false fun q => (Fld.ne hS.2.2.2.2.2.1 hS.2.2.2.2.2.2.2.2.2.2.2.2.2.2.2.2.2.2.2.1 (fun q => absurd (Value.int.inj q) (by decide))) (Value.ref.inj q)) (by decide) (by decide) ?_
                show Steps p.tables e below (T51.setTop (mkF m 117 #[.val (.int p0), .val (.int p1), .val (.int ((p0 &&& (2147483647 : Int32)) % (6 : Int32))), .val (.int (0 : Int32)), .val (.ref a_NEVER), .unset, .unset, .unset] [])) _
                refine XS.iconst X51.here hx rfl (hb hby at_117) ?_
                show Steps p.tables e below (T51.setTop (mkF m 118 #[.val (.int p0), .val (.int p1), .val (.int ((p0 &&& (2147483647 : Int32)) % (6 : Int32))), .val (.int (0 : Int32)), .val (.ref a_NEVER), .unset, .unset, .unset] [(.int (0 : Int32))])) _
                refine XS.istore X51.here hx rfl (hb hby at_118) rfl (l' := #[.val (.int p0), .val (.int p1), .val (.int ((p0 &&& (2147483647 : Int32)) % (6 : Int32))), .val (.int (0 : Int32)), .val (.ref a_NEVER), .val (.int (0 : Int32)), .unset, .unset]) rfl ?_
                show Steps p.tables e below (T51.setTop (mkF m 120 #[.val (.int p0), .val (.int p1), .val (.int ((p0 &&& (2147483647 : Int32)) % (6 : Int32))), .val (.int (0 : Int32)), .val (.ref a_NEVER), .val (.int (0 : Int32)), .unset, .unset] [])) _
                refine XS.aload X51.here hx rfl (hb hby at_120) rfl rfl ?_
                show Steps p.tables e below (T51.setTop (mkF m 122 #[.val (.int p0), .val (.int p1), .val (.int ((p0 &&& (2147483647 : Int32)) % (6 : Int32))), .val (.int (0 : Int32)), .val (.ref a_NEVER), .val (.int (0 : Int32)), .unset, .unset] [(.ref a_NEVER)])) _
                refine st52 _ ?_
                show Steps p.tables e below (T52.setTop (mkF m 125 #[.val (.int p0), .val (.int p1), .val (.int ((p0 &&& (2147483647 : Int32)) % (6 : Int32))), .val (.int (0 : Int32)), .val (.ref a_NEVER), .val (.int (0 : Int32)), .unset, .unset] [(.ref a_REQUIRED), (.ref a_NEVER)])) _
                refine Jvm.RoadKit.acmp (g := (mkF m 125 #[.val (.int p0), .val (.int p1), .val (.int ((p0 &&& (2147483647 : Int32)) % (6 : Int32))), .val (.int (0 : Int32)), .val (.ref a_NEVER), .val (.int (0 : Int32)), .unset, .unset] [(.ref a_REQUIRED), (.ref a_NEVER)])) X52 hx rfl rfl rfl (pc0 := 125) (pc' := 128) (same := false) rfl (hb hby at_125) rfl (decide_eq_false fun q => (Fld.ne hS.2.2.2.2.2.1 hS.2.2.2.2.1 (fun q => absurd (Value.int.inj q) (by decide))) (Value.ref.inj q)) (by decide) (by decide) ?_
                show Steps p.tables e below (T52.setTop (mkF m 128 #[.val (.int p0), .val (.int p1), .val (.int ((p0 &&& (2147483647 : Int32)) % (6 : Int32))), .val (.int (0 : Int32)), .val (.ref a_NEVER), .val (.int (0 : Int32)), .unset, .unset] [])) _
                refine XS.aload X52.here hx rfl (hb hby at_128) rfl rfl ?_
                show Steps p.tables e below (T52.setTop (mkF m 130 #[.val (.int p0), .val (.int p1), .val (.int ((p0 &&& (2147483647 : Int32)) % (6 : Int32))), .val (.int (0 : Int32)), .val (.ref a_NEVER), .val (.int (0 : Int32)), .unset, .unset] [(.ref a_NEVER)])) _
                refine st53 _ ?_
                show Steps p.tables e below (T53.setTop (mkF m 133 #[.val (.int p0), .val (.int p1), .val (.int ((p0 &&& (2147483647 : Int32)) % (6 : Int32))), .val (.int (0 : Int32)), .val (.ref a_NEVER), .val (.int (0 : Int32)), .unset, .unset] [(.ref a_REQUIRES_NEW), (.ref a_NEVER)])) _
                refine Jvm.RoadKit.acmp (g := (mkF m 133 #[.val (.int p0), .val (.int p1), .val (.int ((p0 &&& (2147483647 : Int32)) % (6 : Int32))), .val (.int (0 : Int32)), .val (.ref a_NEVER), .val (.int (0 : Int32)), .unset, .unset] [(.ref a_REQUIRES_NEW), (.ref a_NEVER)])) X53 hx rfl rfl rfl (pc0 := 133) (pc' := 140) (same := false) rfl (hb hby at_133) rfl (decide_eq_false fun q => (Fld.ne hS.2.2.2.2.2.1 hS.2.2.2.2.2.2.2.2.2.2.2.2.2.2.1 (fun q => absurd (Value.int.inj q) (by decide))) (Value.ref.inj q)) (by decide) (by decide) ?_
                show Steps p.tables e below (T53.setTop (mkF m 140 #[.val (.int p0), .val (.int p1), .val (.int ((p0 &&& (2147483647 : Int32)) % (6 : Int32))), .val (.int (0 : Int32)), .val (.ref a_NEVER), .val (.int (0 : Int32)), .unset, .unset] [])) _
                refine XS.iconst X53.here hx rfl (hb hby at_140) ?_
                show Steps p.tables e below (T53.setTop (mkF m 141 #[.val (.int p0), .val (.int p1), .val (.int ((p0 &&& (2147483647 : Int32)) % (6 : Int32))), .val (.int (0 : Int32)), .val (.ref a_NEVER), .val (.int (0 : Int32)), .unset, .unset] [(.int (0 : Int32))])) _
                refine XS.istore X53.here hx rfl (hb hby at_141) rfl (l' := #[.val (.int p0), .val (.int p1), .val (.int ((p0 &&& (2147483647 : Int32)) % (6 : Int32))), .val (.int (0 : Int32)), .val (.ref a_NEVER), .val (.int (0 : Int32)), .val (.int (0 : Int32)), .unset]) rfl ?_
                show Steps p.tables e below (T53.setTop (mkF m 143 #[.val (.int p0), .val (.int p1), .val (.int ((p0 &&& (2147483647 : Int32)) % (6 : Int32))), .val (.int (0 : Int32)), .val (.ref a_NEVER), .val (.int (0 : Int32)), .val (.int (0 : Int32)), .unset] [])) _
                refine XS.iloadN X53.here hx rfl (hb hby at_143) rfl ?_
                show Steps p.tables e below (T53.setTop (mkF m 144 #[.val (.int p0), .val (.int p1), .val (.int ((p0 &&& (2147483647 : Int32)) % (6 : Int32))), .val (.int (0 : Int32)), .val (.ref a_NEVER), .val (.int (0 : Int32)), .val (.int (0 : Int32)), .unset] [(.int (0 : Int32))])) _
                refine XS.ifYes X53.here hx rfl (pc0 := 144) (pc' := 200) rfl (hb hby at_144) rfl ((if0 _ _).trans (teq (by decide : (0 : Int32) = (0 : Int32))).1) (by decide) (by decide) ?_
                show Steps p.tables e below (T53.setTop (mkF m 200 #[.val (.int p0), .val (.int p1), .val (.int ((p0 &&& (2147483647 : Int32)) % (6 : Int32))), .val (.int (0 : Int32)), .val (.ref a_NEVER), .val (.int (0 : Int32)), .val (.int (0 : Int32)), .unset] [])) _
                refine XS.aload X53.here hx rfl (hb hby at_200) rfl rfl ?_
                show Steps p.tables e below (T53.setTop (mkF m 202 #[.val (.int p0), .val (.int p1), .val (.int ((p0 &&& (2147483647 : Int32)) % (6 : Int32))), .val (.int (0 : Int32)), .val (.ref a_NEVER), .val (.int (0 : Int32)), .val (.int (0 : Int32)), .unset] [(.ref a_NEVER)])) _
                refine st54 _ ?_
                show Steps p.tables e below (T54.setTop (mkF m 205 #[.val (.int p0), .val (.int p1), .val (.int ((p0 &&& (2147483647 : Int32)) % (6 : Int32))), .val (.int (0 : Int32)), .val (.ref a_NEVER), .val (.int (0 : Int32)), .val (.int (0 : Int32)), .unset] [(.ref a_MANDATORY), (.ref a_NEVER)])) _
                refine Jvm.RoadKit.acmp (g := (mkF m 205 #[.val (.int p0), .val (.int p1), .val (.int ((p0 &&& (2147483647 : Int32)) % (6 : Int32))), .val (.int (0 : Int32)), .val (.ref a_NEVER), .val (.int (0 : Int32)), .val (.int (0 : Int32)), .unset] [(.ref a_MANDATORY), (.ref a_NEVER)])) X54 hx rfl rfl rfl (pc0 := 205) (pc' := 216) (same := false) rfl (hb hby at_205) rfl (decide_eq_false fun q => (Fld.ne hS.2.2.2.2.2.1 hS.2.2.2.2.2.2.2.2.2.2.2.1 (fun q => absurd (Value.int.inj q) (by decide))) (Value.ref.inj q)) (by decide) (by decide) ?_
                show Steps p.tables e below (T54.setTop (mkF m 216 #[.val (.int p0), .val (.int p1), .val (.int ((p0 &&& (2147483647 : Int32)) % (6 : Int32))), .val (.int (0 : Int32)), .val (.ref a_NEVER), .val (.int (0 : Int32)), .val (.int (0 : Int32)), .unset] [])) _
                refine XS.iload X54.here hx rfl (hb hby at_216) rfl ?_
                show Steps p.tables e below (T54.setTop (mkF m 218 #[.val (.int p0), .val (.int p1), .val (.int ((p0 &&& (2147483647 : Int32)) % (6 : Int32))), .val (.int (0 : Int32)), .val (.ref a_NEVER), .val (.int (0 : Int32)), .val (.int (0 : Int32)), .unset] [(.int (0 : Int32))])) _
                refine XS.ifYes X54.here hx rfl (pc0 := 218) (pc' := 229) rfl (hb hby at_218) rfl ((if0 _ _).trans (teq (by decide : (0 : Int32) = (0 : Int32))).1) (by decide) (by decide) ?_
                show Steps p.tables e below (T54.setTop (mkF m 229 #[.val (.int p0), .val (.int p1), .val (.int ((p0 &&& (2147483647 : Int32)) % (6 : Int32))), .val (.int (0 : Int32)), .val (.ref a_NEVER), .val (.int (0 : Int32)), .val (.int (0 : Int32)), .unset] [])) _
                refine st55 _ ?_
                show Steps p.tables e below (T55.setTop (mkF m 232 #[.val (.int p0), .val (.int p1), .val (.int ((p0 &&& (2147483647 : Int32)) % (6 : Int32))), .val (.int (0 : Int32)), .val (.ref a_NEVER), .val (.int (0 : Int32)), .val (.int (0 : Int32)), .unset] [(.ref a_NONE)])) _
                refine XS.astore X55.here hx rfl (hb hby at_232) rfl rfl (l' := #[.val (.int p0), .val (.int p1), .val (.int ((p0 &&& (2147483647 : Int32)) % (6 : Int32))), .val (.int (0 : Int32)), .val (.ref a_NEVER), .val (.int (0 : Int32)), .val (.int (0 : Int32)), .val (.ref a_NONE)]) rfl ?_
                show Steps p.tables e below (T55.setTop (mkF m 234 #[.val (.int p0), .val (.int p1), .val (.int ((p0 &&& (2147483647 : Int32)) % (6 : Int32))), .val (.int (0 : Int32)), .val (.ref a_NEVER), .val (.int (0 : Int32)), .val (.int (0 : Int32)), .val (.ref a_NONE)] [])) _
                refine XS.aload X55.here hx rfl (hb hby at_234) rfl rfl ?_
                show Steps p.tables e below (T55.setTop (mkF m 236 #[.val (.int p0), .val (.int p1), .val (.int ((p0 &&& (2147483647 : Int32)) % (6 : Int32))), .val (.int (0 : Int32)), .val (.ref a_NEVER), .val (.int (0 : Int32)), .val (.int (0 : Int32)), .val (.ref a_NONE)] [(.ref a_NEVER)])) _
                refine XS.iloadN X55.here hx rfl (hb hby at_236) rfl ?_
                show Steps p.tables e below (T55.setTop (mkF m 237 #[.val (.int p0), .val (.int p1), .val (.int ((p0 &&& (2147483647 : Int32)) % (6 : Int32))), .val (.int (0 : Int32)), .val (.ref a_NEVER), .val (.int (0 : Int32)), .val (.int (0 : Int32)), .val (.ref a_NONE)] [(.int (0 : Int32)), (.ref a_NEVER)])) _
                refine st56 _ ?_
                show Steps p.tables e below (T56.setTop (mkF m 240 #[.val (.int p0), .val (.int p1), .val (.int ((p0 &&& (2147483647 : Int32)) % (6 : Int32))), .val (.int (0 : Int32)), .val (.ref a_NEVER), .val (.int (0 : Int32)), .val (.int (0 : Int32)), .val (.ref a_NONE)] [(.ref a_NONE)])) _
                refine XS.aload X56.here hx rfl (hb hby at_240) rfl rfl ?_
                show Steps p.tables e below (T56.setTop (mkF m 242 #[.val (.int p0), .val (.int p1), .val (.int ((p0 &&& (2147483647 : Int32)) % (6 : Int32))), .val (.int (0 : Int32)), .val (.ref a_NEVER), .val (.int (0 : Int32)), .val (.int (0 : Int32)), .val (.ref a_NONE)] [(.ref a_NONE), (.ref a_NONE)])) _
                refine Jvm.RoadKit.acmp (g := (mkF m 242 #[.val (.int p0), .val (.int p1), .val (.int ((p0 &&& (2147483647 : Int32)) % (6 : Int32))), .val (.int (0 : Int32)), .val (.ref a_NEVER), .val (.int (0 : Int32)), .val (.int (0 : Int32)), .val (.ref a_NONE)] [(.ref a_NONE), (.ref a_NONE)])) X56 hx rfl rfl rfl (pc0 := 242) (pc' := 245) (same := true) rfl (hb hby at_242) rfl (decide_eq_true rfl) (by decide) (by decide) ?_
                show Steps p.tables e below (T56.setTop (mkF m 245 #[.val (.int p0), .val (.int p1), .val (.int ((p0 &&& (2147483647 : Int32)) % (6 : Int32))), .val (.int (0 : Int32)), .val (.ref a_NEVER), .val (.int (0 : Int32)), .val (.int (0 : Int32)), .val (.ref a_NONE)] [])) _
                refine XS.iconst X56.here hx rfl (hb hby at_245) ?_
                show Steps p.tables e below (T56.setTop (mkF m 246 #[.val (.int p0), .val (.int p1), .val (.int ((p0 &&& (2147483647 : Int32)) % (6 : Int32))), .val (.int (0 : Int32)), .val (.ref a_NEVER), .val (.int (0 : Int32)), .val (.int (0 : Int32)), .val (.ref a_NONE)] [(.int (1 : Int32))])) _
                refine XS.goto X56.here hx rfl (pc0 := 246) (pc' := 250) rfl (hb hby at_246) (by decide) (by decide) ?_
                show Steps p.tables e below (T56.setTop (mkF m 250 #[.val (.int p0), .val (.int p1), .val (.int ((p0 &&& (2147483647 : Int32)) % (6 : Int32))), .val (.int (0 : Int32)), .val (.ref a_NEVER), .val (.int (0 : Int32)), .val (.int (0 : Int32)), .val (.ref a_NONE)] [(.int (1 : Int32))])) _
                exact retN X56 hx (t := .boolean) Bd.returns (by simp) (hb hby at_250) hr
              · show Q0 n0 _ T56.heap _
                rw [e56]
                exact ⟨rfl, N56⟩
  · have gp57 : ∀ t, Steps p.tables e below (s₁.setTop (mkF m 21 #[.val (.int p0), .val (.int p1), .val (.int ((p0 &&& (2147483647 : Int32)) % (6 : Int32))), .val (.int (1 : Int32)), .unset, .unset, .unset, .unset] [(.int ((p0 &&& (2147483647 : Int32)) % (6 : Int32)))])) t → Steps p.tables e below (s₁.setTop (entryFrame m #[(.int p0), (.int p1)] maxLocals)) t := fun t kt => gp1 t (by
      refine XS.ifNo X0.here hx rfl (hb hby at_11) rfl ((if0 _ _).trans (feq hc11).1) ?_
      show Steps p.tables e below (s₁.setTop (mkF m 14 #[.val (.int p0), .val (.int p1), .val (.int ((p0 &&& (2147483647 : Int32)) % (6 : Int32))), .unset, .unset, .unset, .unset, .unset] [])) _
      refine XS.iconst X0.here hx rfl (hb hby at_14) ?_
      show Steps p.tables e below (s₁.setTop (mkF m 15 #[.val (.int p0), .val (.int p1), .val (.int ((p0 &&& (2147483647 : Int32)) % (6 : Int32))), .unset, .unset, .unset, .unset, .unset] [(.int (1 : Int32))])) _
      refine XS.goto X0.here hx rfl (pc0 := 15) (pc' := 19) rfl (hb hby at_15) (by decide) (by decide) ?_
      show Steps p.tables e below (s₁.setTop (mkF m 19 #[.val (.int p0), .val (.int p1), .val (.int ((p0 &&& (2147483647 : Int32)) % (6 : Int32))), .unset, .unset, .unset, .unset, .unset] [(.int (1 : Int32))])) _
      refine XS.istoreN X0.here hx rfl (hb hby at_19) rfl (l' := #[.val (.int p0), .val (.int p1), .val (.int ((p0 &&& (2147483647 : Int32)) % (6 : Int32))), .val (.int (1 : Int32)), .unset, .unset, .unset, .unset]) rfl ?_
      show Steps p.tables e below (s₁.setTop (mkF m 20 #[.val (.int p0), .val (.int p1), .val (.int ((p0 &&& (2147483647 : Int32)) % (6 : Int32))), .val (.int (1 : Int32)), .unset, .unset, .unset, .unset] [])) _
      refine XS.iloadN X0.here hx rfl (hb hby at_20) rfl ?_
      show Steps p.tables e below (s₁.setTop (mkF m 21 #[.val (.int p0), .val (.int p1), .val (.int ((p0 &&& (2147483647 : Int32)) % (6 : Int32))), .val (.int (1 : Int32)), .unset, .unset, .unset, .unset] [(.int ((p0 &&& (2147483647 : Int32)) % (6 : Int32)))])) _
      exact kt)
    by_cases hc21 : ((p0 &&& (2147483647 : Int32)) % (6 : Int32)) = (0 : Int32)
    · obtain ⟨T58, X58, e58, st58⟩ := getS2 X0 hx hZ hown (host := "") (Or.inl (hw _ (List.mem_of_getElem? (i := 1) rfl))) Via.refl e0 (hS.2.1.ext O0.2) (g := (mkF m 24 #[.val (.int p0), .val (.int p1), .val (.int ((p0 &&& (2147483647 : Int32)) % (6 : Int32))), .val (.int (1 : Int32)), .unset, .unset, .unset, .unset] [])) rfl (hb hby at_24)
      obtain ⟨T59, X59, e59, st59⟩ := getS2 X58 hx hZ hown (host := "") (Or.inl (hw _ (List.mem_of_getElem? (i := 1) rfl))) Via.refl e58 (hS.2.1.ext O0.2) (g := (mkF m 91 #[.val (.int p0), .val (.int p1), .val (.int ((p0 &&& (2147483647 : Int32)) % (6 : Int32))), .val (.int (1 : Int32)), .val (.ref a_REQUIRED), .unset, .unset, .unset] [(.ref a_REQUIRED)])) rfl (hb hby at_91)
      obtain ⟨T60, X60, e60, st60⟩ := getS2 X59 hx hZ hown (host := "") (Or.inl (hw _ (List.mem_of_getElem? (i := 1) rfl))) Via.refl e59 (hS.2.1.ext O0.2) (g := (mkF m 122 #[.val (.int p0), .val (.int p1), .val (.int ((p0 &&& (2147483647 : Int32)) % (6 : Int32))), .val (.int (1 : Int32)), .val (.ref a_REQUIRED), .val (.int (1 : Int32)), .unset, .unset] [(.ref a_REQUIRED)])) rfl (hb hby at_122)
      obtain ⟨T61, X61, e61, st61⟩ := getS2 X60 hx hZ hown (host := "") (Or.inl (hw _ (List.mem_of_getElem? (i := 4) rfl))) Via.refl e60 (hS.2.2.2.1.ext O0.2) (g := (mkF m 149 #[.val (.int p0), .val (.int p1), .val (.int ((p0 &&& (2147483647 : Int32)) % (6 : Int32))), .val (.int (1 : Int32)), .val (.ref a_REQUIRED), .val (.int (1 : Int32)), .val (.int (1 : Int32)), .unset] [(.ref a_REQUIRED)])) rfl (hb hby at_149)
      obtain ⟨T62, X62, e62, st62⟩ := getS2 X61 hx hZ hown (host := "") (Or.inl (hw _ (List.mem_of_getElem? (i := 6) rfl))) Via.refl e61 (hS.2.2.2.2.2.2.2.1.ext O0.2) (g := (mkF m 168 #[.val (.int p0), .val (.int p1), .val (.int ((p0 &&& (2147483647 : Int32)) % (6 : Int32))), .val (.int (1 : Int32)), .val (.ref a_REQUIRED), .val (.int (1 : Int32)), .val (.int (1 : Int32)), .unset] [])) rfl (hb hby at_168)
      obtain ⟨_, _, ⟨T63, L63, k63, n63⟩, -, X63, ⟨Lc63, hQ63, l63, y63, z63⟩, st63⟩ := Jvm.LawKit.callS X62 hx (y := (⟨"com/example/demarc/demarc/Placement", "of", "(Lcom/example/demarc/demarc/TransactionAttributeType;Z)Lcom/example/demarc/demarc/Placement;"⟩ : MethodName)) hown (mvT hZ (hw _ (List.mem_of_getElem? (i := 9) rfl))) (mvT hZ (hw _ (List.mem_of_getElem? (i := 10) rfl))) (mvT hZ (hw _ (List.mem_of_getElem? (i := 7) rfl))) (mvT hZ (hw _ (List.mem_of_getElem? (i := 11) rfl))) (by decide) (backOf (W := 0) (rm_of_REQUIRED_1 l Z a0 hw [] a_REQUIRED a_NEVER a_JOIN a__SwitchMap_com_example_demarc_demarc_TransactionAttributeType a_MANDATORY a_REQUIRES_NEW a_REFUSED a_SUPPORTS a_NONE a_NEW a_NOT_SUPPORTED k_a__SwitchMap_com_example_demarc_demarc_TransactionAttributeType hS h0 n0 O0) hZ (hw _ (List.mem_of_getElem? (i := 11) rfl)) (hw _ (List.mem_of_getElem? (i := 7) rfl)) (by decide) (by decide)) (g := (mkF m 237 #[.val (.int p0), .val (.int p1), .val (.int ((p0 &&& (2147483647 : Int32)) % (6 : Int32))), .val (.int (1 : Int32)), .val (.ref a_REQUIRED), .val (.int (1 : Int32)), .val (.int (1 : Int32)), .val (.ref a_JOIN)] [(.int (1 : Int32)), (.ref a_REQUIRED)])) rfl (by rw [hml]; rfl) (argsL := [(.ref a_REQUIRED), (.int (1 : Int32))]) (rest := []) (lenOf pd_1 rfl) rfl (by show 2 * 0 + _ ≤ _; exact Nat.le_of_eq rfl) (hb hby at_237) (fun _ _ => ⟨rfl, e62, (by decide : 0 + 0 ≤ _), (by decide : 0 + 0 ≤ _)⟩)
      dsimp only [Pt.U, Pt.locs, Pt.cells, Pt.slots] at X63 l63 y63 z63 st63 hQ63
      subst l63 y63 z63
      obtain ⟨rfl, N63q, e63⟩ := hQ63
      have N63 := Fr.app N0 N63q
      obtain ⟨fs, hr, hrun, hended, hW, hsame⟩ := X63.leave (v := (some (.int (1 : Int32)))) (fun h => by rw [Bd.returns] at h; cases h)
      refine ⟨_, _, gp57 _ ?_, hrun, hended, _, _, rfl, ?_, ⟨_, rfl⟩, hW, hsame.mono (by decide) (by decide)⟩
      · refine XS.ifNo X0.here hx rfl (hb hby at_21) rfl ((if0 _ _).trans (teq hc21).2) ?_
        show Steps p.tables e below (s₁.setTop (mkF m 24 #[.val (.int p0), .val (.int p1), .val (.int ((p0 &&& (2147483647 : Int32)) % (6 : Int32))), .val (.int (1 : Int32)), .unset, .unset, .unset, .unset] [])) _
        refine st58 _ ?_
        show Steps p.tables e below (T58.setTop (mkF m 27 #[.val (.int p0), .val (.int p1), .val (.int ((p0 &&& (2147483647 : Int32)) % (6 : Int32))), .val (.int (1 : Int32)), .unset, .unset, .unset, .unset] [(.ref a_REQUIRED)])) _
        refine XS.astore X58.here hx rfl (hb hby at_27) rfl rfl (l' := #[.val (.int p0), .val (.int p1), .val (.int ((p0 &&& (2147483647 : Int32)) % (6 : Int32))), .val (.int (1 : Int32)), .val (.ref a_REQUIRED), .unset, .unset, .unset]) rfl ?_
        show Steps p.tables e below (T58.setTop (mkF m 29 #[.val (.int p0), .val (.int p1), .val (.int ((p0 &&& (2147483647 : Int32)) % (6 : Int32))), .val (.int (1 : Int32)), .val (.ref a_REQUIRED), .unset, .unset, .unset] [])) _
        refine XS.goto X58.here hx rfl (pc0 := 29) (pc' := 89) rfl (hb hby at_29) (by decide) (by decide) ?_
        show Steps p.tables e below (T58.setTop (mkF m 89 #[.val (.int p0), .val (.int p1), .val (.int ((p0 &&& (2147483647 : Int32)) % (6 : Int32))), .val (.int (1 : Int32)), .val (.ref a_REQUIRED), .unset, .unset, .unset] [])) _
        refine XS.aload X58.here hx rfl (hb hby at_89) rfl rfl ?_
        show Steps p.tables e below (T58.setTop (mkF m 91 #[.val (.int p0), .val (.int p1), .val (.int ((p0 &&& (2147483647 : Int32)) % (6 : Int32))), .val (.int (1 : Int32)), .val (.ref a_REQUIRED), .unset, .unset, .unset] [(.ref a_REQUIRED)])) _
        refine st59 _ ?_
        show Steps p.tables e below (T59.setTop (mkF m 94 #[.val (.int p0), .val (.int p1), .val (.int ((p0 &&& (2147483647 : Int32)) % (6 : Int32))), .val (.int (1 : Int32)), .val (.ref a_REQUIRED), .unset, .unset, .unset] [(.ref a_REQUIRED), (.ref a_REQUIRED)])) _
        refine Jvm.RoadKit.acmp (g := (mkF m 94 #[.val (.int p0), .val (.int p1), .val (.int ((p0 &&& (2147483647 : Int32)) % (6 : Int32))), .val (.int (1 : Int32)), .val (.ref a_REQUIRED), .unset, .unset, .unset] [(.ref a_REQUIRED), (.ref a_REQUIRED)])) X59 hx rfl rfl rfl (pc0 := 94) (pc' := 113) (same := true) rfl (hb hby at_94) rfl (decide_eq_true rfl) (by decide) (by decide) ?_
        show Steps p.tables e below (T59.setTop (mkF m 113 #[.val (.int p0), .val (.int p1), .val (.int ((p0 &&& (2147483647 : Int32)) % (6 : Int32))), .val (.int (1 : Int32)), .val (.ref a_REQUIRED), .unset, .unset, .unset] [])) _
        refine XS.iconst X59.here hx rfl (hb hby at_113) ?_
        show Steps p.tables e below (T59.setTop (mkF m 114 #[.val (.int p0), .val (.int p1), .val (.int ((p0 &&& (2147483647 : Int32)) % (6 : Int32))), .val (.int (1 : Int32)), .val (.ref a_REQUIRED), .unset, .unset, .unset] [(.int (1 : Int32))])) _
        refine XS.goto X59.here hx rfl (pc0 := 114) (pc' := 118) rfl (hb hby at_114) (by decide) (by decide) ?_
        show Steps p.tables e below (T59.setTop (mkF m 118 #[.val (.int p0), .val (.int p1), .val (.int ((p0 &&& (2147483647 : Int32)) % (6 : Int32))), .val (.int (1 : Int32)), .val (.ref a_REQUIRED), .unset, .unset, .unset] [(.int (1 : Int32))])) _
        refine XS.istore X59.here hx rfl (hb hby at_118) rfl (l' := #[.val (.int p0), .val (.int p1), .val (.int ((p0 &&& (2147483647 : Int32)) % (6 : Int32))), .val (.int (1 : Int32)), .val (.ref a_REQUIRED), .val (.int (1 : Int32)), .unset, .unset]) rfl ?_
        show Steps p.tables e below (T59.setTop (mkF m 120 #[.val (.int p0), .val (.int p1), .val (.int ((p0 &&& (2147483647 : Int32)) % (6 : Int32))), .val (.int (1 : Int32)), .val (.ref a_REQUIRED), .val (.int (1 : Int32)), .unset, .unset] [])) _
        refine XS.aload X59.here hx rfl (hb hby at_120) rfl rfl ?_
        show Steps p.tables e below (T59.setTop (mkF m 122 #[.val (.int p0), .val (.int p1), .val (.int ((p0 &&& (2147483647 : Int32)) % (6 : Int32))), .val (.int (1 : Int32)), .val (.ref a_REQUIRED), .val (.int (1 : Int32)), .unset, .unset] [(.ref a_REQUIRED)])) _
        refine st60 _ ?_
        show Steps p.tables e below (T60.setTop (mkF m 125 #[.val (.int p0), .val (.int p1), .val (.int ((p0 &&& (2147483647 : Int32)) % (6 : Int32))), .val (.int (1 : Int32)), .val (.ref a_REQUIRED), .val (.int (1 : Int32)), .unset, .unset] [(.ref a_REQUIRED), (.ref a_REQUIRED)])) _
        refine Jvm.RoadKit.acmp (g := (mkF m 125 #[.val (.int p0), .val (.int p1), .val (.int ((p0 &&& (2147483647 : Int32)) % (6 : Int32))), .val (.int (1 : Int32)), .val (.ref a_REQUIRED), .val (.int (1 : Int32)), .unset, .unset] [(.ref a_REQUIRED), (.ref a_REQUIRED)])) X60 hx rfl rfl rfl (pc0 := 125) (pc' := 136) (same := true) rfl (hb hby at_125) rfl (decide_eq_true rfl) (by decide) (by decide) ?_
        show Steps p.tables e below (T60.setTop (mkF m 136 #[.val (.int p0), .val (.int p1), .val (.int ((p0 &&& (2147483647 : Int32)) % (6 : Int32))), .val (.int (1 : Int32)), .val (.ref a_REQUIRED), .val (.int (1 : Int32)), .unset, .unset] [])) _
        refine XS.iconst X60.here hx rfl (hb hby at_136) ?_
        show Steps p.tables e below (T60.setTop (mkF m 137 #[.val (.int p0), .val (.int p1), .val (.int ((p0 &&& (2147483647 : Int32)) % (6 : Int32))), .val (.int (1 : Int32)), .val (.ref a_REQUIRED), .val (.int (1 : Int32)), .unset, .unset] [(.int (1 : Int32))])) _
        refine XS.goto X60.here hx rfl (pc0 := 137) (pc' := 141) rfl (hb hby at_137) (by decide) (by decide) ?_
        show Steps p.tables e below (T60.setTop (mkF m 141 #[.val (.int p0), .val (.int p1), .val (.int ((p0 &&& (2147483647 : Int32)) % (6 : Int32))), .val (.int (1 : Int32)), .val (.ref a_REQUIRED), .val (.int (1 : Int32)), .unset, .unset] [(.int (1 : Int32))])) _
        refine XS.istore X60.here hx rfl (hb hby at_141) rfl (l' := #[.val (.int p0), .val (.int p1), .val (.int ((p0 &&& (2147483647 : Int32)) % (6 : Int32))), .val (.int (1 : Int32)), .val (.ref a_REQUIRED), .val (.int (1 : Int32)), .val (.int (1 : Int32)), .unset]) rfl ?_
        show Steps p.tables e below (T60.setTop (mkF m 143 #[.val (.int p0), .val (.int p1), .val (.int ((p0 &&& (2147483647 : Int32)) % (6 : Int32))), .val (.int (1 : Int32)), .val (.ref a_REQUIRED), .val (.int (1 : Int32)), .val (.int (1 : Int32)), .unset] [])) _
        refine XS.iloadN X60.here hx rfl (hb hby at_143) rfl ?_
        show Steps p.tables e below (T60.setTop (mkF m 144 #[.val (.int p0), .val (.int p1), .val (.int ((p0 &&& (2147483647 : Int32)) % (6 : Int32))), .val (.int (1 : Int32)), .val (.ref a_REQUIRED), .val (.int (1 : Int32)), .val (.int (1 : Int32)), .unset] [(.int (1 : Int32))])) _
        refine XS.ifNo X60.here hx rfl (hb hby at_144) rfl ((if0 _ _).trans (feq (by decide : ¬ ((1 : Int32) = (0 : Int32)))).1) ?_
        show Steps p.tables e below (T60.setTop (mkF m 147 #[.val (.int p0), .val (.int p1), .val (.int ((p0 &&& (2147483647 : Int32)) % (6 : Int32))), .val (.int (1 : Int32)), .val (.ref a_REQUIRED), .val (.int (1 : Int32)), .val (.int (1 : Int32)), .unset] [])) _
        refine XS.aload X60.here hx rfl (hb hby at_147) rfl rfl ?_
        show Steps p.tables e below (T60.setTop (mkF m 149 #[.val (.int p0), .val (.int p1), .val (.int ((p0 &&& (2147483647 : Int32)) % (6 : Int32))), .val (.int (1 : Int32)), .val (.ref a_REQUIRED), .val (.int (1 : Int32)), .val (.int (1 : Int32)), .unset] [(.ref a_REQUIRED)])) _
        refine st61 _ ?_
        show Steps p.tables e below (T61.setTop (mkF m 152 #[.val (.int p0), .val (.int p1), .val (.int ((p0 &&& (2147483647 : Int32)) % (6 : Int32))), .val (.int (1 : Int32)), .val (.ref a_REQUIRED), .val (.int (1 : Int32)), .val (.int (1 : Int32)), .unset] [(.ref a_NEVER), (.ref a_REQUIRED)])) _
        refine Jvm.RoadKit.acmp (g := (mkF m 152 #[.val (.int p0), .val (.int p1), .val (.int ((p0 &&& (2147483647 : Int32)) % (6 : Int32))), .val (.int (1 : Int32)), .val (.ref a_REQUIRED), .val (.int (1 : Int32)), .val (.int (1 : Int32)), .unset] [(.ref a_NEVER), (.ref a_REQUIRED)])) X61 hx rfl rfl rfl (pc0 := 152) (pc' := 163) (same := false) rfl (hb hby at_152) rfl (decide_eq_false fun q => (Fld.ne hS.2.2.2.2.1 hS.2.2.2.2.2.1 (fun q => absurd (Value.int.inj q) (by decide))) (Value.ref.inj q)) (by decide) (by decide) ?_
        show Steps p.tables e below (T61.setTop (mkF m 163 #[.val (.int p0), .val (.int p1), .val (.int ((p0 &&& (2147483647 : Int32)) % (6 : Int32))), .val (.int (1 : Int32)), .val (.ref a_REQUIRED), .val (.int (1 : Int32)), .val (.int (1 : Int32)), .unset] [])) _
        refine XS.iload X61.here hx rfl (hb hby at_163) rfl ?_
        show Steps p.tables e below (T61.setTop (mkF m 165 #[.val (.int p0), .val (.int p1), .val (.int ((p0 &&& (2147483647 : Int32)) % (6 : Int32))), .val (.int (1 : Int32)), .val (.ref a_REQUIRED), .val (.int (1 : Int32)), .val (.int (1 : Int32)), .unset] [(.int (1 : Int32))])) _
        refine XS.ifNo X61.here hx rfl (hb hby at_165) rfl ((if0 _ _).trans (feq (by decide : ¬ ((1 : Int32) = (0 : Int32)))).1) ?_
        show Steps p.tables e below (T61.setTop (mkF m 168 #[.val (.int p0), .val (.int p1), .val (.int ((p0 &&& (2147483647 : Int32)) % (6 : Int32))), .val (.int (1 : Int32)), .val (.ref a_REQUIRED), .val (.int (1 : Int32)), .val (.int (1 : Int32)), .unset] [])) _
        refine st62 _ ?_
        show Steps p.tables e below (T62.setTop (mkF m 171 #[.val (.int p0), .val (.int p1), .val (.int ((p0 &&& (2147483647 : Int32)) % (6 : Int32))), .val (.int (1 : Int32)), .val (.ref a_REQUIRED), .val (.int (1 : Int32)), .val (.int (1 : Int32)), .unset] [(.ref a_JOIN)])) _
        refine XS.astore X62.here hx rfl (hb hby at_171) rfl rfl (l' := #[.val (.int p0), .val (.int p1), .val (.int ((p0 &&& (2147483647 : Int32)) % (6 : Int32))), .val (.int (1 : Int32)), .val (.ref a_REQUIRED), .val (.int (1 : Int32)), .val (.int (1 : Int32)), .val (.ref a_JOIN)]) rfl ?_
        show Steps p.tables e below (T62.setTop (mkF m 173 #[.val (.int p0), .val (.int p1), .val (.int ((p0 &&& (2147483647 : Int32)) % (6 : Int32))), .val (.int (1 : Int32)), .val (.ref a_REQUIRED), .val (.int (1 : Int32)), .val (.int (1 : Int32)), .val (.ref a_JOIN)] [])) _
        refine XS.goto X62.here hx rfl (pc0 := 173) (pc' := 234) rfl (hb hby at_173) (by decide) (by decide) ?_
        show Steps p.tables e below (T62.setTop (mkF m 234 #[.val (.int p0), .val (.int p1), .val (.int ((p0 &&& (2147483647 : Int32)) % (6 : Int32))), .val (.int (1 : Int32)), .val (.ref a_REQUIRED), .val (.int (1 : Int32)), .val (.int (1 : Int32)), .val (.ref a_JOIN)] [])) _
        refine XS.aload X62.here hx rfl (hb hby at_234) rfl rfl ?_
        show Steps p.tables e below (T62.setTop (mkF m 236 #[.val (.int p0), .val (.int p1), .val (.int ((p0 &&& (2147483647 : Int32)) % (6 : Int32))), .val (.int (1 : Int32)), .val (.ref a_REQUIRED), .val (.int (1 : Int32)), .val (.int (1 : Int32)), .val (.ref a_JOIN)] [(.ref a_REQUIRED)])) _
        refine XS.iloadN X62.here hx rfl (hb hby at_236) rfl ?_
        show Steps p.tables e below (T62.setTop (mkF m 237 #[.val (.int p0), .val (.int p1), .val (.int ((p0 &&& (2147483647 : Int32)) % (6 : Int32))), .val (.int (1 : Int32)), .val (.ref a_REQUIRED), .val (.int (1 : Int32)), .val (.int (1 : Int32)), .val (.ref a_JOIN)] [(.int (1 : Int32)), (.ref a_REQUIRED)])) _
        refine st63 _ ?_
        show Steps p.tables e below (T63.setTop (mkF m 240 #[.val (.int p0), .val (.int p1), .val (.int ((p0 &&& (2147483647 : Int32)) % (6 : Int32))), .val (.int (1 : Int32)), .val (.ref a_REQUIRED), .val (.int (1 : Int32)), .val (.int (1 : Int32)), .val (.ref a_JOIN)] [(.ref a_JOIN)])) _
        refine XS.aload X63.here hx rfl (hb hby at_240) rfl rfl ?_
        show Steps p.tables e below (T63.setTop (mkF m 242 #[.val (.int p0), .val (.int p1), .val (.int ((p0 &&& (2147483647 : Int32)) % (6 : Int32))), .val (.int (1 : Int32)), .val (.ref a_REQUIRED), .val (.int (1 : Int32)), .val (.int (1 : Int32)), .val (.ref a_JOIN)] [(.ref a_JOIN), (.ref a_JOIN)])) _
        refine Jvm.RoadKit.acmp (g := (mkF m 242 #[.val (.int p0), .val (.int p1), .val (.int ((p0 &&& (2147483647 : Int32)) % (6 : Int32))), .val (.int (1 : Int32)), .val (.ref a_REQUIRED), .val (.int (1 : Int32)), .val (.int (1 : Int32)), .val (.ref a_JOIN)] [(.ref a_JOIN), (.ref a_JOIN)])) X63 hx rfl rfl rfl (pc0 := 242) (pc' := 245) (same := true) rfl (hb hby at_242) rfl (decide_eq_true rfl) (by decide) (by decide) ?_
        show Steps p.tables e below (T63.setTop (mkF m 245 #[.val (.int p0), .val (.int p1), .val (.int ((p0 &&& (2147483647 : Int32)) % (6 : Int32))), .val (.int (1 : Int32)), .val (.ref a_REQUIRED), .val (.int (1 : Int32)), .val (.int (1 : Int32)), .val (.ref a_JOIN)] [])) _
        refine XS.iconst X63.here hx rfl (hb hby at_245) ?_
        show Steps p.tables e below (T63.setTop (mkF m 246 #[.val (.int p0), .val (.int p1), .val (.int ((p0 &&& (2147483647 : Int32)) % (6 : Int32))), .val (.int (1 : Int32)), .val (.ref a_REQUIRED), .val (.int (1 : Int32)), .val (.int (1 : Int32)), .val (.ref a_JOIN)] [(.int (1 : Int32))])) _
        refine XS.goto X63.here hx rfl (pc0 := 246) (pc' := 250) rfl (hb hby at_246) (by decide) (by decide) ?_
        show Steps p.tables e below (T63.setTop (mkF m 250 #[.val (.int p0), .val (.int p1), .val (.int ((p0 &&& (2147483647 : Int32)) % (6 : Int32))), .val (.int (1 : Int32)), .val (.ref a_REQUIRED), .val (.int (1 : Int32)), .val (.int (1 : Int32)), .val (.ref a_JOIN)] [(.int (1 : Int32))])) _
        exact retN X63 hx (t := .boolean) Bd.returns (by simp) (hb hby at_250) hr
      · show Q0 n0 _ T63.heap _
        rw [e63]
        exact ⟨rfl, N63⟩
    · have gp64 : ∀ t, Steps p.tables e below (s₁.setTop (mkF m 34 #[.val (.int p0), .val (.int p1), .val (.int ((p0 &&& (2147483647 : Int32)) % (6 : Int32))), .val (.int (1 : Int32)), .unset, .unset, .unset, .unset] [(.int (1 : Int32)), (.int ((p0 &&& (2147483647 : Int32)) % (6 : Int32)))])) t → Steps p.tables e below (s₁.setTop (entryFrame m #[(.int p0), (.int p1)] maxLocals)) t := fun t kt => gp57 t (by
        refine XS.ifYes X0.here hx rfl (pc0 := 21) (pc' := 32) rfl (hb hby at_21) rfl ((if0 _ _).trans (feq hc21).2) (by decide) (by decide) ?_
        show Steps p.tables e below (s₁.setTop (mkF m 32 #[.val (.int p0), .val (.int p1), .val (.int ((p0 &&& (2147483647 : Int32)) % (6 : Int32))), .val (.int (1 : Int32)), .unset, .unset, .unset, .unset] [])) _
        refine XS.iloadN X0.here hx rfl (hb hby at_32) rfl ?_
        show Steps p.tables e below (s₁.setTop (mkF m 33 #[.val (.int p0), .val (.int p1), .val (.int ((p0 &&& (2147483647 : Int32)) % (6 : Int32))), .val (.int (1 : Int32)), .unset, .unset, .unset, .unset] [(.int ((p0 &&& (2147483647 : Int32)) % (6 : Int32)))])) _
        refine XS.iconst X0.here hx rfl (hb hby at_33) ?_
        show Steps p.tables e below (s₁.setTop (mkF m 34 #[.val (.int p0), .val (.int p1), .val (.int ((p0 &&& (2147483647 : Int32)) % (6 : Int32))), .val (.int (1 : Int32)), .unset, .unset, .unset, .unset] [(.int (1 : Int32)), (.int ((p0 &&& (2147483647 : Int32)) % (6 : Int32)))])) _
        exact kt)
      by_cases hc34 : ((p0 &&& (2147483647 : Int32)) % (6 : Int32)) = (1 : Int32)
      · obtain ⟨T65, X65, e65, st65⟩ := getS2 X0 hx hZ hown (host := "") (Or.inl (hw _ (List.mem_of_getElem? (i := 27) rfl))) Via.refl e0 (hS.2.2.2.2.2.2.2.2.2.2.2.2.2.1.ext O0.2) (g := (mkF m 37 #[.val (.int p0), .val (.int p1), .val (.int ((p0 &&& (2147483647 : Int32)) % (6 : Int32))), .val (.int (1 : Int32)), .unset, .unset, .unset, .unset] [])) rfl (hb hby at_37)
        obtain ⟨T66, X66, e66, st66⟩ := getS2 X65 hx hZ hown (host := "") (Or.inl (hw _ (List.mem_of_getElem? (i := 1) rfl))) Via.refl e65 (hS.2.1.ext O0.2) (g := (mkF m 91 #[.val (.int p0), .val (.int p1), .val (.int ((p0 &&& (2147483647 : Int32)) % (6 : Int32))), .val (.int (1 : Int32)), .val (.ref a_REQUIRES_NEW), .unset, .unset, .unset] [(.ref a_REQUIRES_NEW)])) rfl (hb hby at_91)
        obtain ⟨T67, X67, e67, st67⟩ := getS2 X66 hx hZ hown (host := "") (Or.inl (hw _ (List.mem_of_getElem? (i := 25) rfl))) Via.refl e66 (hS.2.2.2.2.2.2.2.2.2.2.1.ext O0.2) (g := (mkF m 99 #[.val (.int p0), .val (.int p1), .val (.int ((p0 &&& (2147483647 : Int32)) % (6 : Int32))), .val (.int (1 : Int32)), .val (.ref a_REQUIRES_NEW), .unset, .unset, .unset] [(.ref a_REQUIRES_NEW)])) rfl (hb hby at_99)
        obtain ⟨T68, X68, e68, st68⟩ := getS2 X67 hx hZ hown (host := "") (Or.inl (hw _ (List.mem_of_getElem? (i := 32) rfl))) Via.refl e67 (hS.2.2.2.2.2.2.2.2.2.2.2.2.2.2.2.2.2.2.1.ext O0.2) (g := (mkF m 107 #[.val (.int p0), .val (.int p1), .val (.int ((p0 &&& (2147483647 : Int32)) % (6 : Int32))), .val (.int (1 : Int32)), .val (.ref a_REQUIRES_NEW), .unset, .unset, .unset] [(.ref a_REQUIRES_NEW)])) rfl (hb hby at_107)
        obtain ⟨T69, X69, e69, st69⟩ := getS2 X68 hx hZ hown (host := "") (Or.inl (hw _ (List.mem_of_getElem? (i := 1) rfl))) Via.refl e68 (hS.2.1.ext O0.2) (g := (mkF m 122 #[.val (.int p0), .val (.int p1), .val (.int ((p0 &&& (2147483647 : Int32)) % (6 : Int32))), .val (.int (1 : Int32)), .val (.ref a_REQUIRES_NEW), .val (.int (0 : Int32)), .unset, .unset] [(.ref a_REQUIRES_NEW)])) rfl (hb hby at_122)
        obtain ⟨T70, X70, e70, st70⟩ := getS2 X69 hx hZ hown (host := "") (Or.inl (hw _ (List.mem_of_getElem? (i := 27) rfl))) Via.refl e69 (hS.2.2.2.2.2.2.2.2.2.2.2.2.2.1.ext O0.2) (g := (mkF m 130 #[.val (.int p0), .val (.int p1), .val (.int ((p0 &&& (2147483647 : Int32)) % (6 : Int32))), .val (.int (1 : Int32)), .val (.ref a_REQUIRES_NEW), .val (.int (0 : Int32)), .unset, .unset] [(.ref a_REQUIRES_NEW)])) rfl (hb hby at_130)
        obtain ⟨T71, X71, e71, st71⟩ := getS2 X70 hx hZ hown (host := "") (Or.inl (hw _ (List.mem_of_getElem? (i := 4) rfl))) Via.refl e70 (hS.2.2.2.1.ext O0.2) (g := (mkF m 149 #[.val (.int p0), .val (.int p1), .val (.int ((p0 &&& (2147483647 : Int32)) % (6 : Int32))), .val (.int (1 : Int32)), .val (.ref a_REQUIRES_NEW), .val (.int (0 : Int32)), .val (.int (1 : Int32)), .unset] [(.ref a_REQUIRES_NEW)])) rfl (hb hby at_149)
        obtain ⟨T72, X72, e72, st72⟩ := getS2 X71 hx hZ hown (host := "") (Or.inl (hw _ (List.mem_of_getElem? (i := 27) rfl))) Via.refl e71 (hS.2.2.2.2.2.2.2.2.2.2.2.2.2.1.ext O0.2) (g := (mkF m 178 #[.val (.int p0), .val (.int p1), .val (.int ((p0 &&& (2147483647 : Int32)) % (6 : Int32))), .val (.int (1 : Int32)), .val (.ref a_REQUIRES_NEW), .val (.int (0 : Int32)), .val (.int (1 : Int32)), .unset] [(.ref a_REQUIRES_NEW)])) rfl (hb hby at_178)
        obtain ⟨T73, X73, e73, st73⟩ := getS2 X72 hx hZ hown (host := "") (Or.inl (hw _ (List.mem_of_getElem? (i := 37) rfl))) Via.refl e72 (hS.2.2.2.2.2.2.2.2.2.2.2.2.2.2.2.2.2.2.2.2.2.2.2.1.ext O0.2) (g := (mkF m 184 #[.val (.int p0), .val (.int p1), .val (.int ((p0 &&& (2147483647 : Int32)) % (6 : Int32))), .val (.int (1 : Int32)), .val (.ref a_REQUIRES_NEW), .val (.int (0 : Int32)), .val (.int (1 : Int32)), .unset] [])) rfl (hb hby at_184)
        obtain ⟨_, _, ⟨T74, L74, k74, n74⟩, -, X74, ⟨Lc74, hQ74, l74, y74, z74⟩, st74⟩ := Jvm.LawKit.callS X73 hx (y := (⟨"com/example/demarc/demarc/Placement", "of", "(Lcom/example/demarc/demarc/TransactionAttributeType;Z)Lcom/example/demarc/demarc/Placement;"⟩ : MethodName)) hown (mvT hZ (hw _ (List.mem_of_getElem? (i := 9) rfl))) (mvT hZ (hw _ (List.mem_of_getElem? (i := 10) rfl))) (mvT hZ (hw _ (List.mem_of_getElem? (i := 7) rfl))) (mvT hZ (hw _ (List.mem_of_getElem? (i := 11) rfl))) (by decide) (backOf (W := 0) (rm_of_REQUIRES_NEW_1 l Z a0 hw [] a_REQUIRED a_NEVER a_JOIN a__SwitchMap_com_example_demarc_demarc_TransactionAttributeType a_MANDATORY a_REQUIRES_NEW a_REFUSED a_SUPPORTS a_NONE a_NEW a_NOT_SUPPORTED k_a__SwitchMap_com_example_demarc_demarc_TransactionAttributeType hS h0 n0 O0) hZ (hw _ (List.mem_of_getElem? (i := 11) rfl)) (hw _ (List.mem_of_getElem? (i := 7) rfl)) (by decide) (by decide)) (g := (mkF m 237 #[.val (.int p0), .val (.int p1), .val (.int ((p0 &&& (2147483647 : Int32)) % (6 : Int32))), .val (.int (1 : Int32)), .val (.ref a_REQUIRES_NEW), .val (.int (0 : Int32)), .val (.int (1 : Int32)), .val (.ref a_NEW)] [(.int (1 : Int32)), (.ref a_REQUIRES_NEW)])) rfl (by rw [hml]; rfl) (argsL := [(.ref a_REQUIRES_NEW), (.int (1 : Int32))]) (rest := []) (lenOf pd_1 rfl) rfl (by show 2 * 0 + _ ≤ _; exact Nat.le_of_eq rfl) (hb hby at_237) (fun _ _ => ⟨rfl, e73, (by decide : 0 + 0 ≤ _), (by decide : 0 + 0 ≤ _)⟩)
        dsimp only [Pt.U, Pt.locs, Pt.cells, Pt.slots] at X74 l74 y74 z74 st74 hQ74
        subst l74 y74 z74
        obtain ⟨rfl, N74q, e74⟩ := hQ74
        have N74 := Fr.app N0 N74q
        obtain ⟨fs, hr, hrun, hended, hW, hsame⟩ := X74.leave (v := (some (.int (1 : Int32)))) (fun h => by rw [Bd.returns] at h; cases h)
        refine ⟨_, _, gp64 _ ?_, hrun, hended, _, _, rfl, ?_, ⟨_, rfl⟩, hW, hsame.mono (by decide) (by decide)⟩
        · refine XS.icmpNo X0.here hx rfl (hb hby at_34) rfl (teq hc34).2 ?_
          show Steps p.tables e below (s₁.setTop (mkF m 37 #[.val (.int p0), .val (.int p1), .val (.int ((p0 &&& (2147483647 : Int32)) % (6 : Int32))), .val (.int (1 : Int32)), .unset, .unset, .unset, .unset] [])) _
          refine st65 _ ?_
          show Steps p.tables e below (T65.setTop (mkF m 40 #[.val (.int p0), .val (.int p1), .val (.int ((p0 &&& (2147483647 : Int32)) % (6 : Int32))), .val (.int (1 : Int32)), .unset, .unset, .unset, .unset] [(.ref a_REQUIRES_NEW)])) _
          refine XS.astore X65.here hx rfl (hb hby at_40) rfl rfl (l' := #[.val (.int p0), .val (.int p1), .val (.int ((p0 &&& (2147483647 : Int32)) % (6 : Int32))), .val (.int (1 : Int32)), .val (.ref a_REQUIRES_NEW), .unset, .unset, .unset]) rfl ?_
          show Steps p.tables e below (T65.setTop (mkF m 42 #[.val (.int p0), .val (.int p1), .val (.int ((p0 &&& (2147483647 : Int32)) % (6 : Int32))), .val (.int (1 : Int32)), .val (.ref a_REQUIRES_NEW), .unset, .unset, .unset] [])) _
          refine XS.goto X65.here hx rfl (pc0 := 42) (pc' := 89) rfl (hb hby at_42) (by decide) (by decide) ?_
          show Steps p.tables e below (T65.setTop (mkF m 89 #[.val (.int p0), .val (.int p1), .val (.int ((p0 &&& (2147483647 : Int32)) % (6 : Int32))), .val (.int (1 : Int32)), .val (.ref a_REQUIRES_NEW), .unset, .unset, .unset] [])) _
          refine XS.aload X65.here hx rfl (hb hby at_89) rfl rfl ?_
          show Steps p.tables e below (T65.setTop (mkF m 91 #[.val (.int p0), .val (.int p1), .val (.int ((p0 &&& (2147483647 : Int32)) % (6 : Int32))), .val (.int (1 : Int32)), .val (.ref a_REQUIRES_NEW), .unset, .unset, .unset] [(.ref a_REQUIRES_NEW)])) _
          refine st66 _ ?_
          show Steps p.tables e below (T66.setTop (mkF m 94 #[.val (.int p0), .val (.int p1), .val (.int ((p0 &&& (2147483647 : Int32)) % (6 : Int32))), .val (.int (1 : Int32)), .val (.ref a_REQUIRES_NEW), .unset, .unset, .unset] [(.ref a_REQUIRED), (.ref a_REQUIRES_NEW)])) _
          refine Jvm.RoadKit.acmp (g := (mkF m 94 #[.val (.int p0), .val (.int p1), .val (.int ((p0 &&& (2147483647 : Int32)) % (6 : Int32))), .val (.int (1 : Int32)), .val (.ref a_REQUIRES_NEW), .unset, .unset, .unset] [(.ref a_REQUIRED), (.ref a_REQUIRES_NEW)])) X66 hx rfl rfl rfl (pc0 := 94) (pc' := 97) (same := false) rfl (hb hby at_94) rfl (decide_eq_false fun q => (Fld.ne hS.2.2.2.2.2.2.2.2.2.2.2.2.2.2.1 hS.2.2.2.2.1 (fun q => absurd (Value.int.inj q) (by decide))) (Value.ref.inj q)) (by decide) (by decide) ?_
          show Steps p.tables e below (T66.setTop (mkF m 97 #[.val (.int p0), .val (.int p1), .val (.int ((p0 &&& (2147483647 : Int32)) % (6 : Int32))), .val (.int (1 : Int32)), .val (.ref a_REQUIRES_NEW), .unset, .unset, .unset] [])) _
          refine XS.aload X66.here hx rfl (hb hby at_97) rfl rfl ?_
          show Steps p.tables e below (T66.setTop (mkF m 99 #[.val (.int p0), .val (.int p1), .val (.int ((p0 &&& (2147483647 : Int32)) % (6 : Int32))), .val (.int (1 : Int32)), .val (.ref a_REQUIRES_NEW), .unset, .unset, .unset] [(.ref a_REQUIRES_NEW)])) _
          refine st67 _ ?_
          show Steps p.tables e below (T67.setTop (mkF m 102 #[.val (.int p0), .val (.int p1), .val (.int ((p0 &&& (2147483647 : Int32)) % (6 : Int32))), .val (.int (1 : Int32)), .val (.ref a_REQUIRES_NEW), .unset, .unset, .unset] [(.ref a_MANDATORY), (.ref a_REQUIRES_NEW)])) _
          refine Jvm.RoadKit.acmp (g := (mkF m 102 #[.val (.int p0), .val (.int p1), .val (.int ((p0 &&& (2147483647 : Int32)) % (6 : Int32))), .val (.int (1 : Int32)), .val (.ref a_REQUIRES_NEW), .unset, .unset, .unset] [(.ref a_MANDATORY), (.ref a_REQUIRES_NEW)])) X67 hx rfl rfl rfl (pc0 := 102) (pc' := 105) (same := false) rfl (hb hby at_102) rfl (decide_eq_false fun q => (Fld.ne hS.2.2.2.2.2.2.2.2.2.2.2.2.2.2.1 hS.2.2.2.2.2.2.2.2.2.2.2.1 (fun q => absurd (Value.int.inj q) (by decide))) (Value.ref.inj q)) (by decide) (by decide) ?_
          show Steps p.tables e below (T67.setTop (mkF m 105 #[.val (.int p0), .val (.int p1), .val (.int ((p0 &&& (2147483647 : Int32)) % (6 : Int32))), .val (.int (1 : Int32)), .val (.ref a_REQUIRES_NEW), .unset, .unset, .unset] [])) _
          refine XS.aload X67.here hx rfl (hb hby at_105) rfl rfl ?_
          show Steps p.tables e below (T67.setTop (mkF m 107 #[.val (.int p0), .val (.int p1), .val (.int ((p0 &&& (2147483647 : Int32)) % (6 : Int32))), .val (.int (1 : Int32)), .val (.ref a_REQUIRES_NEW), .unset, .unset, .unset] [(.ref a_REQUIRES_NEW)])) _
          refine st68 _ ?_
          show Steps p.tables e below (T68.setTop (mkF m 110 #[.val (.int p0), .val (.int p1), .val (.int ((p0 &&& (2147483647 : Int32)) % (6 : Int32))), .val (.int (1 : Int32)), .val (.ref a_REQUIRES_NEW), .unset, .unset, .unset] [(.ref a_SUPPORTS), (.ref a_REQUIRES_NEW)])) _
          refine Jvm.RoadKit.acmp (g := (mkF m 110 #[.val (.int p0), .val (.int p1), .val (.int ((p0 &&& (2147483647 : Int32)) % (6 : Int32))), .val (.int (1 : Int32)), .val (.ref a_REQUIRES_NEW), .unset, .unset, .unset] [(.ref a_SUPPORTS), (.ref a_REQUIRES_NEW)])) X68 hx rfl rfl rfl (pc0 := 110) (pc' := 117) (same := false) rfl (hb hby at_110) rfl (decide_eq_false fun q => (Fld.ne hS.2.2.2.2.2.2.2.2.2.2.2.2.2.2.1 hS.2.2.2.2.2.2.2.2.2.2.2.2.2.2.2.2.2.2.2.1 (fun q => absurd (Value.int.inj q) (by decide))) (Value.ref.inj q)) (by decide) (by decide) ?_
          show Steps p.tables e below (T68.setTop (mkF m 117 #[.val (.int p0), .val (.int p1), .val (.int ((p0 &&& (2147483647 : Int32)) % (6 : Int32))), .val (.int (1 : Int32)), .val (.ref a_REQUIRES_NEW), .unset, .unset, .unset] [])) _
          refine XS.iconst X68.here hx rfl (hb hby at_117) ?_
          show Steps p.tables e below (T68.setTop (mkF m 118 #[.val (.int p0), .val (.int p1), .val (.int ((p0 &&& (2147483647 : Int32)) % (6 : Int32))), .val (.int (1 : Int32)), .val (.ref a_REQUIRES_NEW), .unset, .unset, .unset] [(.int (0 : Int32))])) _
          refine XS.istore X68.here hx rfl (hb hby at_118) rfl (l' := #[.val (.int p0), .val (.int p1), .val (.int ((p0 &&& (2147483647 : Int32)) % (6 : Int32))), .val (.int (1 : Int32)), .val (.ref a_REQUIRES_NEW), .val (.int (0 : Int32)), .unset, .unset]) rfl ?_
          show Steps p.tables e below (T68.setTop (mkF m 120 #[.val (.int p0), .val (.int p1), .val (.int ((p0 &&& (2147483647 : Int32)) % (6 : Int32))), .val (.int (1 : Int32)), .val (.ref a_REQUIRES_NEW), .val (.int (0 : Int32)), .unset, .unset] [])) _
          refine XS.aload X68.here hx rfl (hb hby at_120) rfl rfl ?_
          show Steps p.tables e below (T68.setTop (mkF m 122 #[.val (.int p0), .val (.int p1), .val (.int ((p0 &&& (2147483647 : Int32)) % (6 : Int32))), .val (.int (1 : Int32)), .val (.ref a_REQUIRES_NEW), .val (.int (0 : Int32)), .unset, .unset] [(.ref a_REQUIRES_NEW)])) _
          refine st69 _ ?_
          show Steps p.tables e below (T69.setTop (mkF m 125 #[.val (.int p0), .val (.int p1), .val (.int ((p0 &&& (2147483647 : Int32)) % (6 : Int32))), .val (.int (1 : Int32)), .val (.ref a_REQUIRES_NEW), .val (.int (0 : Int32)), .unset, .unset] [(.ref a_REQUIRED), (.ref a_REQUIRES_NEW)])) _
          refine Jvm.RoadKit.acmp (g := (mkF m 125 #[.val (.int p0), .val (.int p1), .val (.int ((p0 &&& (2147483647 : Int32)) % (6 : Int32))), .val (.int (1 : Int32)), .val (.ref a_REQUIRES_NEW), .val (.int (0 : Int32)), .unset, .unset] [(.ref a_REQUIRED), (.ref a_REQUIRES_NEW)])) X69 hx rfl rfl rfl (pc0 := 125) (pc' := 128) (same := false) rfl (hb hby at_125) rfl (decide_eq_false fun q => (Fld.ne hS.2.2.2.2.2.2.2.2.2.2.2.2.2.2.1 hS.2.2.2.2.1 (fun q => absurd (Value.int.inj q) (by decide))) (Value.ref.inj q)) (by decide) (by decide) ?_
          show Steps p.tables e below (T69.setTop (mkF m 128 #[.val (.int p0), .val (.int p1), .val (.int ((p0 &&& (2147483647 : Int32)) % (6 : Int32))), .val (.int (1 : Int32)), .val (.ref a_REQUIRES_NEW), .val (.int (0 : Int32)), .unset, .unset] [])) _
          refine XS.aload X69.here hx rfl (hb hby at_128) rfl rfl ?_
          show Steps p.tables e below (T69.setTop (mkF m 130 #[.val (.int p0), .val (.int p1), .val (.int ((p0 &&& (2147483647 : Int32)) % (6 : Int32))), .val (.int (1 : Int32)), .val (.ref a_REQUIRES_NEW), .val (.int (0 : Int32)), .unset, .unset] [(.ref a_REQUIRES_NEW)])) _
          refine st70 _ ?_
          show Steps p.tables e below (T70.setTop (mkF m 133 #[.val (.int p0), .val (.int p1), .val (.int ((p0 &&& (2147483647 : Int32)) % (6 : Int32))), .val (.int (1 : Int32)), .val (.ref a_REQUIRES_NEW), .val (.int (0 : Int32)), .unset, .unset] [(.ref a_REQUIRES_NEW), (.ref a_REQUIRES_NEW)])) _
          refine Jvm.RoadKit.acmp (g := (mkF m 133 #[.val (.int p0), .val (.int p1), .val (.int ((p0 &&& (2147483647 : Int32)) % (6 : Int32))), .val (.int (1 : Int32)), .val (.ref a_REQUIRES_NEW), .val (.int (0 : Int32)), .unset, .unset] [(.ref a_REQUIRES_NEW), (.ref a_REQUIRES_NEW)])) X70 hx rfl rfl rfl (pc0 := 133) (pc' := 136) (same := true) rfl (hb hby at_133) rfl (decide_eq_true rfl) (by decide) (by decide) ?_
          show Steps p.tables e below (T70.setTop (mkF m 136 #[.val (.int p0), .val (.int p1), .val (.int ((p0 &&& (2147483647 : Int32)) % (6 : Int32))), .val (.int (1 : Int32)), .val (.ref a_REQUIRES_NEW), .val (.int (0 : Int32)), .unset, .unset] [])) _
          refine XS.iconst X70.here hx rfl (hb hby at_136) ?_
          show Steps p.tables e below (T70.setTop (mkF m 137 #[.val (.int p0), .val (.int p1), .val (.int ((p0 &&& (2147483647 : Int32)) % (6 : Int32))), .val (.int (1 : Int32)), .val (.ref a_REQUIRES_NEW), .val (.int (0 : Int32)), .unset, .unset] [(.int (1 : Int32))])) _
          refine XS.goto X70.here hx rfl (pc0 := 137) (pc' := 141) rfl (hb hby at_137) (by decide) (by decide) ?_
          show Steps p.tables e below (T70.setTop (mkF m 141 #[.val (.int p0), .val (.int p1), .val (.int ((p0 &&& (2147483647 : Int32)) % (6 : Int32))), .val (.int (1 : Int32)), .val (.ref a_REQUIRES_NEW), .val (.int (0 : Int32)), .unset, .unset] [(.int (1 : Int32))])) _
          refine XS.istore X70.here hx rfl (hb hby at_141) rfl (l' := #[.val (.int p0), .val (.int p1), .val (.int ((p0 &&& (2147483647 : Int32)) % (6 : Int32))), .val (.int (1 : Int32)), .val (.ref a_REQUIRES_NEW), .val (.int (0 : Int32)), .val (.int (1 : Int32)), .unset]) rfl ?_
          show Steps p.tables e below (T70.setTop (mkF m 143 #[.val (.int p0), .val (.int p1), .val (.int ((p0 &&& (2147483647 : Int32)) % (6 : Int32))), .val (.int (1 : Int32)), .val (.ref a_REQUIRES_NEW), .val (.int (0 : Int32)), .val (.int (1 : Int32)), .unset] [])) _
          refine XS.iloadN X70.here hx rfl (hb hby at_143) rfl ?_
          show Steps p.tables e below (T70.setTop (mkF m 144 #[.val (.int p0), .val (.int p1), .val (.int ((p0 &&& (2147483647 : Int32)) % (6 : Int32))), .val (.int (1 : Int32)), .val (.ref a_REQUIRES_NEW), .val (.int (0 : Int32)), .val (.int (1 : Int32)), .unset] [(.int (1 : Int32))])) _
          refine XS.ifNo X70.here hx rfl (hb hby at_144) rfl ((if0 _ _).trans (feq (by decide : ¬ ((1 : Int32) = (0 : Int32)))).1) ?_
          show Steps p.tables e below (T70.setTop (mkF m 147 #[.val (.int p0), .val (.int p1), .val (.int ((p0 &&& (2147483647 : Int32)) % (6 : Int32))), .val (.int (1 : Int32)), .val (.ref a_REQUIRES_NEW), .val (.int (0 : Int32)), .val (.int (1 : Int32)), .unset] [])) _
          refine XS.aload X70.here hx rfl (hb hby at_147) rfl rfl ?_
          show Steps p.tables e below (T70.setTop (mkF m 149 #[.val (.int p0), .val (.int p1), .val (.int ((p0 &&& (2147483647 : Int32)) % (6 : Int32))), .val (.int (1 : Int32)), .val (.ref a_REQUIRES_NEW), .val (.int (0 : Int32)), .val (.int (1 : Int32)), .unset] [(.ref a_REQUIRES_NEW)])) _
          refine st71 _ ?_
          show Steps p.tables e below (T71.setTop (mkF m 152 #[.val (.int p0), .val (.int p1), .val (.int ((p0 &&& (2147483647 : Int32)) % (6 : Int32))), .val (.int (1 : Int32)), .val (.ref a_REQUIRES_NEW), .val (.int (0 : Int32)), .val (.int (1 : Int32)), .unset] [(.ref a_NEVER), (.ref a_REQUIRES_NEW)])) _
          refine Jvm.RoadKit.acmp (g := (mkF m 152 #[.val (.int p0), .val (.int p1), .val (.int ((p0 &&& (2147483647 : Int32)) % (6 : Int32))), .val (.int (1 : Int32)), .val (.ref a_REQUIRES_NEW), .val (.int (0 : Int32)), .val (.int (1 : Int32)), .unset] [(.ref a_NEVER), (.ref a_REQUIRES_NEW)])) X71 hx rfl rfl rfl (pc0 := 152) (pc' := 163) (same := false) rfl (hb hby at_152) rfl (decide_eq_false fun q => (Fld.ne hS.2.2.2.2.2.2.2.2.2.2.2.2.2.2.1 hS.2.2.2.2.2.1 (fun q => absurd (Value.int.inj q) (by decide))) (Value.ref.inj q)) (by decide) (by decide) ?_
          show Steps p.tables e below (T71.setTop (mkF m 163 #[.val (.int p0), .val (.int p1), .val (.int ((p0 &&& (2147483647 : Int32)) % (6 : Int32))), .val (.int (1 : Int32)), .val (.ref a_REQUIRES_NEW), .val (.int (0 : Int32)), .val (.int (1 : Int32)), .unset] [])) _
          refine XS.iload X71.here hx rfl (hb hby at_163) rfl ?_
          show Steps p.tables e below (T71.setTop (mkF m 165 #[.val (.int p0), .val (.int p1), .val (.int ((p0 &&& (2147483647 : Int32)) % (6 : Int32))), .val (.int (1 : Int32)), .val (.ref a_REQUIRES_NEW), .val (.int (0 : Int32)), .val (.int (1 : Int32)), .unset] [(.int (0 : Int32))])) _
          refine XS.ifYes X71.here hx rfl (pc0 := 165) (pc' := 176) rfl (hb hby at_165) rfl ((if0 _ _).trans (teq (by decide : (0 : Int32) = (0 : Int32))).1) (by decide) (by decide) ?_
          show Steps p.tables e below (T71.setTop (mkF m 176 #[.val (.int p0), .val (.int p1), .val (.int ((p0 &&& (2147483647 : Int32)) % (6 : Int32))), .val (.int (1 : Int32)), .val (.ref a_REQUIRES_NEW), .val (.int (0 : Int32)), .val (.int (1 : Int32)), .unset] [])) _
          refine XS.aload X71.here hx rfl (hb hby at_176) rfl rfl ?_
          show Steps p.tables e below (T71.setTop (mkF m 178 #[.val (.int p0), .val (.int p1), .val (.int ((p0 &&& (2147483647 : Int32)) % (6 : Int32))), .val (.int (1 : Int32)), .val (.ref a_REQUIRES_NEW), .val (.int (0 : Int32)), .val (.int (1 : Int32)), .unset] [(.ref a_REQUIRES_NEW)])) _
          refine st72 _ ?_
          show Steps p.tables e below (T72.setTop (mkF m 181 #[.val (.int p0), .val (.int p1), .val (.int ((p0 &&& (2147483647 : Int32)) % (6 : Int32))), .val (.int (1 : Int32)), .val (.ref a_REQUIRES_NEW), .val (.int (0 : Int32)), .val (.int (1 : Int32)), .unset] [(.ref a_REQUIRES_NEW), (.ref a_REQUIRES_NEW)])) _
          refine Jvm.RoadKit.acmp (g := (mkF m 181 #[.val (.int p0), .val (.int p1), .val (.int ((p0 &&& (2147483647 : Int32)) % (6 : Int32))), .val (.int (1 : Int32)), .val (.ref a_REQUIRES_NEW), .val (.int (0 : Int32)), .val (.int (1 : Int32)), .unset] [(.ref a_REQUIRES_NEW), (.ref a_REQUIRES_NEW)])) X72 hx rfl rfl rfl (pc0 := 181) (pc' := 184) (same := true) rfl (hb hby at_181) rfl (decide_eq_true rfl) (by decide) (by decide) ?_
          show Steps p.tables e below (T72.setTop (mkF m 184 #[.val (.int p0), .val (.int p1), .val (.int ((p0 &&& (2147483647 : Int32)) % (6 : Int32))), .val (.int (1 : Int32)), .val (.ref a_REQUIRES_NEW), .val (.int (0 : Int32)), .val (.int (1 : Int32)), .unset] [])) _
          refine st73 _ ?_
          show Steps p.tables e below (T73.setTop (mkF m 187 #[.val (.int p0), .val (.int p1), .val (.int ((p0 &&& (2147483647 : Int32)) % (6 : Int32))), .val (.int (1 : Int32)), .val (.ref a_REQUIRES_NEW), .val (.int (0 : Int32)), .val (.int (1 : Int32)), .unset] [(.ref a_NEW)])) _
          refine XS.astore X73.here hx rfl (hb hby at_187) rfl rfl (l' := #[.val (.int p0), .val (.int p1), .val (.int ((p0 &&& (2147483647 : Int32)) % (6 : Int32))), .val (.int (1 : Int32)), .val (.ref a_REQUIRES_NEW), .val (.int (0 : Int32)), .val (.int (1 : Int32)), .val (.ref a_NEW)]) rfl ?_
          show Steps p.tables e below (T73.setTop (mkF m 189 #[.val (.int p0), .val (.int p1), .val (.int ((p0 &&& (2147483647 : Int32)) % (6 : Int32))), .val (.int (1 : Int32)), .val (.ref a_REQUIRES_NEW), .val (.int (0 : Int32)), .val (.int (1 : Int32)), .val (.ref a_NEW)] [])) _
          refine XS.goto X73.here hx rfl (pc0 := 189) (pc' := 234) rfl (hb hby at_189) (by decide) (by decide) ?_
          show Steps p.tables e below (T73.setTop (mkF m 234 #[.val (.int p0), .val (.int p1), .val (.int ((p0 &&& (2147483647 : Int32)) % (6 : Int32))), .val (.int (1 : Int32)), .val (.ref a_REQUIRES_NEW), .val (.int (0 : Int32)), .val (.int (1 : Int32)), .val (.ref a_NEW)] [])) _
          refine XS.aload X73.here hx rfl (hb hby at_234) rfl rfl ?_
          show Steps p.tables e below (T73.setTop (mkF m 236 #[.val (.int p0), .val (.int p1), .val (.int ((p0 &&& (2147483647 : Int32)) % (6 : Int32))), .val (.int (1 : Int32)), .val (.ref a_REQUIRES_NEW), .val (.int (0 : Int32)), .val (.int (1 : Int32)), .val (.ref a_NEW)] [(.ref a_REQUIRES_NEW)])) _
          refine XS.iloadN X73.here hx rfl (hb hby at_236) rfl ?_
          show Steps p.tables e below (T73.setTop (mkF m 237 #[.val (.int p0), .val (.int p1), .val (.int ((p0 &&& (2147483647 : Int32)) % (6 : Int32))), .val (.int (1 : Int32)), .val (.ref a_REQUIRES_NEW), .val (.int (0 : Int32)), .val (.int (1 : Int32)), .val (.ref a_NEW)] [(.int (1 : Int32)), (.ref a_REQUIRES_NEW)])) _
          refine st74 _ ?_
          show Steps p.tables e below (T74.setTop (mkF m 240 #[.val (.int p0), .val (.int p1), .val (.int ((p0 &&& (2147483647 : Int32)) % (6 : Int32))), .val (.int (1 : Int32)), .val (.ref a_REQUIRES_NEW), .val (.int (0 : Int32)), .val (.int (1 : Int32)), .val (.ref a_NEW)] [(.ref a_NEW)])) _
          refine XS.aload X74.here hx rfl (hb hby at_240) rfl rfl ?_
          show Steps p.tables e below (T74.setTop (mkF m 242 #[.val (.int p0), .val (.int p1), .val (.int ((p0 &&& (2147483647 : Int32)) % (6 : Int32))), .val (.int (1 : Int32)), .val (.ref a_REQUIRES_NEW), .val (.int (0 : Int32)), .val (.int (1 : Int32)), .val (.ref a_NEW)] [(.ref a_NEW), (.ref a_NEW)])) _
          refine Jvm.RoadKit.acmp (g := (mkF m 242 #[.val (.int p0), .val (.int p1), .val (.int ((p0 &&& (2147483647 : Int32)) % (6 : Int32))), .val (.int (1 : Int32)), .val (.ref a_REQUIRES_NEW), .val (.int (0 : Int32)), .val (.int (1 : Int32)), .val (.ref a_NEW)] [(.ref a_NEW), (.ref a_NEW)])) X74 hx rfl rfl rfl (pc0 := 242) (pc' := 245) (same := true) rfl (hb hby at_242) rfl (decide_eq_true rfl) (by decide) (by decide) ?_
          show Steps p.tables e below (T74.setTop (mkF m 245 #[.val (.int p0), .val (.int p1), .val (.int ((p0 &&& (2147483647 : Int32)) % (6 : Int32))), .val (.int (1 : Int32)), .val (.ref a_REQUIRES_NEW), .val (.int (0 : Int32)), .val (.int (1 : Int32)), .val (.ref a_NEW)] [])) _
          refine XS.iconst X74.here hx rfl (hb hby at_245) ?_
          show Steps p.tables e below (T74.setTop (mkF m 246 #[.val (.int p0), .val (.int p1), .val (.int ((p0 &&& (2147483647 : Int32)) % (6 : Int32))), .val (.int (1 : Int32)), .val (.ref a_REQUIRES_NEW), .val (.int (0 : Int32)), .val (.int (1 : Int32)), .val (.ref a_NEW)] [(.int (1 : Int32))])) _
          refine XS.goto X74.here hx rfl (pc0 := 246) (pc' := 250) rfl (hb hby at_246) (by decide) (by decide) ?_
          show Steps p.tables e below (T74.setTop (mkF m 250 #[.val (.int p0), .val (.int p1), .val (.int ((p0 &&& (2147483647 : Int32)) % (6 : Int32))), .val (.int (1 : Int32)), .val (.ref a_REQUIRES_NEW), .val (.int (0 : Int32)), .val (.int (1 : Int32)), .val (.ref a_NEW)] [(.int (1 : Int32))])) _
          exact retN X74 hx (t := .boolean) Bd.returns (by simp) (hb hby at_250) hr
        · show Q0 n0 _ T74.heap _
          rw [e74]
          exact ⟨rfl, N74⟩
      · have gp75 : ∀ t, Steps p.tables e below (s₁.setTop (mkF m 47 #[.val (.int p0), .val (.int p1), .val (.int ((p0 &&& (2147483647 : Int32)) % (6 : Int32))), .val (.int (1 : Int32)), .unset, .unset, .unset, .unset] [(.int (2 : Int32)), (.int ((p0 &&& (2147483647 : Int32)) % (6 : Int32)))])) t → Steps p.tables e below (s₁.setTop (entryFrame m #[(.int p0), (.int p1)] maxLocals)) t := fun t kt => gp64 t (by
          refine XS.icmpYes X0.here hx rfl (pc0 := 34) (pc' := 45) rfl (hb hby at_34) rfl (feq hc34).2 (by decide) (by decide) ?_
          show Steps p.tables e below (s₁.setTop (mkF m 45 #[.val (.int p0), .val (.int p1), .val (.int ((p0 &&& (2147483647 : Int32)) % (6 : Int32))), .val (.int (1 : Int32)), .unset, .unset, .unset, .unset] [])) _
          refine XS.iloadN X0.here hx rfl (hb hby at_45) rfl ?_
          show Steps p.tables e below (s₁.setTop (mkF m 46 #[.val (.int p0), .val (.int p1), .val (.int ((p0 &&& (2147483647 : Int32)) % (6 : Int32))), .val (.int (1 : Int32)), .unset, .unset, .unset, .unset] [(.int ((p0 &&& (2147483647 : Int32)) % (6 : Int32)))])) _
          refine XS.iconst X0.here hx rfl (hb hby at_46) ?_
          show Steps p.tables e below (s₁.setTop (mkF m 47 #[.val (.int p0), .val (.int p1), .val (.int ((p0 &&& (2147483647 : Int32)) % (6 : Int32))), .val (.int (1 : Int32)), .unset, .unset, .unset, .unset] [(.int (2 : Int32)), (.int ((p0 &&& (2147483647 : Int32)) % (6 : Int32)))])) _
          exact kt)
        by_cases hc47 : ((p0 &&& (2147483647 : Int32)) % (6 : Int32)) = (2 : Int32)
        · obtain ⟨T76, X76, e76, st76⟩ := getS2 X0 hx hZ hown (host := "") (Or.inl (hw _ (List.mem_of_getElem? (i := 25) rfl))) Via.refl e0 (hS.2.2.2.2.2.2.2.2.2.2.1.ext O0.2) (g := (mkF m 50 #[.val (.int p0), .val (.int p1), .val (.int ((p0 &&& (2147483647 : Int32)) % (6 : Int32))), .val (.int (1 : Int32)), .unset, .unset, .unset, .unset] [])) rfl (hb hby at_50)
          obtain ⟨T77, X77, e77, st77⟩ := getS2 X76 hx hZ hown (host := "") (Or.inl (hw _ (List.mem_of_getElem? (i := 1) rfl))) Via.refl e76 (hS.2.1.ext O0.2) (g := (mkF m 91 #[.val (.int p0), .val (.int p1), .val (.int ((p0 &&& (2147483647 : Int32)) % (6 : Int32))), .val (.int (1 : Int32)), .val (.ref a_MANDATORY), .unset, .unset, .unset] [(.ref a_MANDATORY)])) rfl (hb hby at_91)
          obtain ⟨T78, X78, e78, st78⟩ := getS2 X77 hx hZ hown (host := "") (Or.inl (hw _ (List.mem_of_getElem? (i := 25) rfl))) Via.refl e77 (hS.2.2.2.2.2.2.2.2.2.2.1.ext O0.2) (g := (mkF m 99 #[.val (.int p0), .val (.int p1), .val (.int ((p0 &&& (2147483647 : Int32)) % (6 : Int32))), .val (.int (1 : Int32)), .val (.ref a_MANDATORY), .unset, .unset, .unset] [(.ref a_MANDATORY)])) rfl (hb hby at_99)
          obtain ⟨T79, X79, e79, st79⟩ := getS2 X78 hx hZ hown (host := "") (Or.inl (hw _ (List.mem_of_getElem? (i := 1) rfl))) Via.refl e78 (hS.2.1.ext O0.2) (g := (mkF m 122 #[.val (.int p0), .val (.int p1), .val (.int ((p0 &&& (2147483647 : Int32)) % (6 : Int32))), .val (.int (1 : Int32)), .val (.ref a_MANDATORY), .val (.int (1 : Int32)), .unset, .unset] [(.ref a_MANDATORY)])) rfl (hb hby at_122)
          obtain ⟨T80, X80, e80, st80⟩ := getS2 X79 hx hZ hown (host := "") (Or.inl (hw _ (List.mem_of_getElem? (i := 27) rfl))) Via.refl e79 (hS.2.2.2.2.2.2.2.2.2.2.2.2.2.1.ext O0.2) (g := (mkF m 130 #[.val (.int p0), .val (.int p1), .val (.int ((p0 &&& (2147483647 : Int32)) % (6 : Int32))), .val (.int (1 : Int32)), .val (.ref a_MANDATORY), .val (.int (1 : Int32)), .unset, .unset] [(.ref a_MANDATORY)])) rfl (hb hby at_130)
          obtain ⟨T81, X81, e81, st81⟩ := getS2 X80 hx hZ hown (host := "") (Or.inl (hw _ (List.mem_of_getElem? (i := 4) rfl))) Via.refl e80 (hS.2.2.2.1.ext O0.2) (g := (mkF m 149 #[.val (.int p0), .val (.int p1), .val (.int ((p0 &&& (2147483647 : Int32)) % (6 : Int32))), .val (.int (1 : Int32)), .val (.ref a_MANDATORY), .val (.int (1 : Int32)), .val (.int (0 : Int32)), .unset] [(.ref a_MANDATORY)])) rfl (hb hby at_149)
          obtain ⟨T82, X82, e82, st82⟩ := getS2 X81 hx hZ hown (host := "") (Or.inl (hw _ (List.mem_of_getElem? (i := 6) rfl))) Via.refl e81 (hS.2.2.2.2.2.2.2.1.ext O0.2) (g := (mkF m 168 #[.val (.int p0), .val (.int p1), .val (.int ((p0 &&& (2147483647 : Int32)) % (6 : Int32))), .val (.int (1 : Int32)), .val (.ref a_MANDATORY), .val (.int (1 : Int32)), .val (.int (0 : Int32)), .unset] [])) rfl (hb hby at_168)
          obtain ⟨_, _, ⟨T83, L83, k83, n83⟩, -, X83, ⟨Lc83, hQ83, l83, y83, z83⟩, st83⟩ := Jvm.LawKit.callS X82 hx (y := (⟨"com/example/demarc/demarc/Placement", "of", "(Lcom/example/demarc/demarc/TransactionAttributeType;Z)Lcom/example/demarc/demarc/Placement;"⟩ : MethodName)) hown (mvT hZ (hw _ (List.mem_of_getElem? (i := 9) rfl))) (mvT hZ (hw _ (List.mem_of_getElem? (i := 10) rfl))) (mvT hZ (hw _ (List.mem_of_getElem? (i := 7) rfl))) (mvT hZ (hw _ (List.mem_of_getElem? (i := 11) rfl))) (by decide) (backOf (W := 0) (rm_of_MANDATORY_1 l Z a0 hw [] a_REQUIRED a_NEVER a_JOIN a__SwitchMap_com_example_demarc_demarc_TransactionAttributeType a_MANDATORY a_REQUIRES_NEW a_REFUSED a_SUPPORTS a_NONE a_NEW a_NOT_SUPPORTED k_a__SwitchMap_com_example_demarc_demarc_TransactionAttributeType hS h0 n0 O0) hZ (hw _ (List.mem_of_getElem? (i := 11) rfl)) (hw _ (List.mem_of_getElem? (i := 7) rfl)) (by decide) (by decide)) (g := (mkF m 237 #[.val (.int p0), .val (.int p1), .val (.int ((p0 &&& (2147483647 : Int32)) % (6 : Int32))), .val (.int (1 : Int32)), .val (.ref a_MANDATORY), .val (.int (1 : Int32)), .val (.int (0 : Int32)), .val (.ref a_JOIN)] [(.int (1 : Int32)), (.ref a_MANDATORY)])) rfl (by rw [hml]; rfl) (argsL := [(.ref a_MANDATORY), (.int (1 : Int32))]) (rest := []) (lenOf pd_1 rfl) rfl (by show 2 * 0 + _ ≤ _; exact Nat.le_of_eq rfl) (hb hby at_237) (fun _ _ => ⟨rfl, e82, (by decide : 0 + 0 ≤ _), (by decide : 0 + 0 ≤ _)⟩)
          dsimp only [Pt.U, Pt.locs, Pt.cells, Pt.slots] at X83 l83 y83 z83 st83 hQ83
          subst l83 y83 z83
          obtain ⟨rfl, N83q, e83⟩ := hQ83
          have N83 := Fr.app N0 N83q
          obtain ⟨fs, hr, hrun, hended, hW, hsame⟩ := X83.leave (v := (some (.int (1 : Int32)))) (fun h => by rw [Bd.returns] at h; cases h)
          refine ⟨_, _, gp75 _ ?_, hrun, hended, _, _, rfl, ?_, ⟨_, rfl⟩, hW, hsame.mono (by decide) (by decide)⟩
          · refine XS.icmpNo X0.here hx rfl (hb hby at_47) rfl (teq hc47).2 ?_
            show Steps p.tables e below (s₁.setTop (mkF m 50 #[.val (.int p0), .val (.int p1), .val (.int ((p0 &&& (2147483647 : Int32)) % (6 : Int32))), .val (.int (1 : Int32)), .unset, .unset, .unset, .unset] [])) _
            refine st76 _ ?_
            show Steps p.tables e below (T76.setTop (mkF m 53 #[.val (.int p0), .val (.int p1), .val (.int ((p0 &&& (2147483647 : Int32)) % (6 : Int32))), .val (.int (1 : Int32)), .unset, .unset, .unset, .unset] [(.ref a_MANDATORY)])) _
            refine XS.astore X76.here hx rfl (hb hby at_53) rfl rfl (l' := #[.val (.int p0), .val (.int p1), .val (.int ((p0 &&& (2147483647 : Int32)) % (6 : Int32))), .val (.int (1 : Int32)), .val (.ref a_MANDATORY), .unset, .unset, .unset]) rfl ?_
            show Steps p.tables e below (T76.setTop (mkF m 55 #[.val (.int p0), .val (.int p1), .val (.int ((p0 &&& (2147483647 : Int32)) % (6 : Int32))), .val (.int (1 : Int32)), .val (.ref a_MANDATORY), .unset, .unset, .unset] [])) _
            refine XS.goto X76.here hx rfl (pc0 := 55) (pc' := 89) rfl (hb hby at_55) (by decide) (by decide) ?_
            show Steps p.tables e below (T76.setTop (mkF m 89 #[.val (.int p0), .val (.int p1), .val (.int ((p0 &&& (2147483647 : Int32)) % (6 : Int32))), .val (.int (1 : Int32)), .val (.ref a_MANDATORY), .unset, .unset, .unset] [])) _
            refine XS.aload X76.here hx rfl (hb hby at_89) rfl rfl ?_
            show Steps p.tables e below (T76.setTop (mkF m 91 #[.val (.int p0), .val (.int p1), .val (.int ((p0 &&& (2147483647 : Int32)) % (6 : Int32))), .val (.int (1 : Int32)), .val (.ref a_MANDATORY), .unset, .unset, .unset] [(.ref a_MANDATORY)])) _
            refine st77 _ ?_
            show Steps p.tables e below (T77.setTop (mkF m 94 #[.val (.int p0), .val (.int p1), .val (.int ((p0 &&& (2147483647 : Int32)) % (6 : Int32))), .val (.int (1 : Int32)), .val (.ref a_MANDATORY), .unset, .unset, .unset] [(.ref a_REQUIRED), (.ref a_MANDATORY)])) _
            refine Jvm.RoadKit.acmp (g := (mkF m 94 #[.val (.int p0), .val (.int p1), .val (.int ((p0 &&& (2147483647 : Int32)) % (6 : Int32))), .val (.int (1 : Int32)), .val (.ref a_MANDATORY), .unset, .unset, .unset] [(.ref a_REQUIRED), (.ref a_MANDATORY)])) X77 hx rfl rfl rfl (pc0 := 94) (pc' := 97) (same := false) rfl (hb hby at_94) rfl (decide_eq_false fun q => (Fld.ne hS.2.2.2.2.2.2.2.2.2.2.2.1 hS.2.2.2.2.1 (fun q => absurd (Value.int.inj q) (by decide))) (Value.ref.inj q)) (by decide) (by decide) ?_
            show Steps p.tables e below (T77.setTop (mkF m 97 #[.val (.int p0), .val (.int p1), .val (.int ((p0 &&& (2147483647 : Int32)) % (6 : Int32))), .val (.int (1 : Int32)), .val (.ref a_MANDATORY), .unset, .unset, .unset] [])) _
            refine XS.aload X77.here hx rfl (hb hby at_97) rfl rfl ?_
            show Steps p.tables e below (T77.setTop (mkF m 99 #[.val (.int p0), .val (.int p1), .val (.int ((p0 &&& (2147483647 : Int32)) % (6 : Int32))), .val (.int (1 : Int32)), .val (.ref a_MANDATORY), .unset, .unset, .unset] [(.ref a_MANDATORY)])) _
            refine st78 _ ?_
            show Steps p.tables e below (T78.setTop (mkF m 102 #[.val (.int p0), .val (.int p1), .val (.int ((p0 &&& (2147483647 : Int32)) % (6 : Int32))), .val (.int (1 : Int32)), .val (.ref a_MANDATORY), .unset, .unset, .unset] [(.ref a_MANDATORY), (.ref a_MANDATORY)])) _
            refine Jvm.RoadKit.acmp (g := (mkF m 102 #[.val (.int p0), .val (.int p1), .val (.int ((p0 &&& (2147483647 : Int32)) % (6 : Int32))), .val (.int (1 : Int32)), .val (.ref a_MANDATORY), .unset, .unset, .unset] [(.ref a_MANDATORY), (.ref a_MANDATORY)])) X78 hx rfl rfl rfl (pc0 := 102) (pc' := 113) (same := true) rfl (hb hby at_102) rfl (decide_eq_true rfl) (by decide) (by decide) ?_
            show Steps p.tables e below (T78.setTop (mkF m 113 #[.val (.int p0), .val (.int p1), .val (.int ((p0 &&& (2147483647 : Int32)) % (6 : Int32))), .val (.int (1 : Int32)), .val (.ref a_MANDATORY), .unset, .unset, .unset] [])) _
            refine XS.iconst X78.here hx rfl (hb hby at_113) ?_
            show Steps p.tables e below (T78.setTop (mkF m 114 #[.val (.int p0), .val (.int p1), .val (.int ((p0 &&& (2147483647 : Int32)) % (6 : Int32))), .val (.int (1 : Int32)), .val (.ref a_MANDATORY), .unset, .unset, .unset] [(.int (1 : Int32))])) _
            refine XS.goto X78.here hx rfl (pc0 := 114) (pc' := 118) rfl (hb hby at_114) (by decide) (by decide) ?_
            show Steps p.tables e below (T78.setTop (mkF m 118 #[.val (.int p0), .val (.int p1), .val (.int ((p0 &&& (2147483647 : Int32)) % (6 : Int32))), .val (.int (1 : Int32)), .val (.ref a_MANDATORY), .unset, .unset, .unset] [(.int (1 : Int32))])) _
            refine XS.istore X78.here hx rfl (hb hby at_118) rfl (l' := #[.val (.int p0), .val (.int p1), .val (.int ((p0 &&& (2147483647 : Int32)) % (6 : Int32))), .val (.int (1 : Int32)), .val (.ref a_MANDATORY), .val (.int (1 : Int32)), .unset, .unset]) rfl ?_
            show Steps p.tables e below (T78.setTop (mkF m 120 #[.val (.int p0), .val (.int p1), .val (.int ((p0 &&& (2147483647 : Int32)) % (6 : Int32))), .val (.int (1 : Int32)), .val (.ref a_MANDATORY), .val (.int (1 : Int32)), .unset, .unset] [])) _
            refine XS.aload X78.here hx rfl (hb hby at_120) rfl rfl ?_
            show Steps p.tables e below (T78.setTop (mkF m 122 #[.val (.int p0), .val (.int p1), .val (.int ((p0 &&& (2147483647 : Int32)) % (6 : Int32))), .val (.int (1 : Int32)), .val (.ref a_MANDATORY), .val (.int (1 : Int32)), .unset, .unset] [(.ref a_MANDATORY)])) _
            refine st79 _ ?_
            show Steps p.tables e below (T79.setTop (mkF m 125 #[.val (.int p0), .val (.int p1), .val (.int ((p0 &&& (2147483647 : Int32)) % (6 : Int32))), .val (.int (1 : Int32)), .val (.ref a_MANDATORY), .val (.int (1 : Int32)), .unset, .unset] [(.ref a_REQUIRED), (.ref a_MANDATORY)])) _
            refine Jvm.RoadKit.acmp (g := (mkF m 125 #[.val (.int p0), .val (.int p1), .val (.int ((p0 &&& (2147483647 : Int32)) % (6 : Int32))), .val (.int (1 : Int32)), .val (.ref a_MANDATORY), .val (.int (1 : Int32)), .unset, .unset] [(.ref a_REQUIRED), (.ref a_MANDATORY)])) X79 hx rfl rfl rfl (pc0 := 125) (pc' := 128) (same := false) rfl (hb hby at_125) rfl (decide_eq_false fun q => (Fld.ne hS.2.2.2.2.2.2.2.2.2.2.2.1 hS.2.2.2.2.1 (fun q => absurd (Value.int.inj q) (by decide))) (Value.ref.inj q)) (by decide) (by decide) ?_
            show Steps p.tables e below (T79.setTop (mkF m 128 #[.val (.int p0), .val (.int p1), .val (.int ((p0 &&& (2147483647 : Int32)) % (6 : Int32))), .val (.int (1 : Int32)), .val (.ref a_MANDATORY), .val (.int (1 : Int32)), .unset, .unset] [])) _
            refine XS.aload X79.here hx rfl (hb hby at_128) rfl rfl ?_
            show Steps p.tables e below (T79.setTop (mkF m 130 #[.val (.int p0), .val (.int p1), .val (.int ((p0 &&& (2147483647 : Int32)) % (6 : Int32))), .val (.int (1 : Int32)), .val (.ref a_MANDATORY), .val (.int (1 : Int32)), .unset, .unset] [(.ref a_MANDATORY)])) _
            refine st80 _ ?_
            show Steps p.tables e below (T80.setTop (mkF m 133 #[.val (.int p0), .val (.int p1), .val (.int ((p0 &&& (2147483647 : Int32)) % (6 : Int32))), .val (.int (1 : Int32)), .val (.ref a_MANDATORY), .val (.int (1 : Int32)), .unset, .unset] [(.ref a_REQUIRES_NEW), (.ref a_MANDATORY)])) _
            refine Jvm.RoadKit.acmp (g := (mkF m 133 #[.val (.int p0), .val (.int p1), .val (.int ((p0 &&& (2147483647 : Int32)) % (6 : Int32))), .val (.int (1 : Int32)), .val (.ref a_MANDATORY), .val (.int (1 : Int32)), .unset, .unset] [(.ref a_REQUIRES_NEW), (.ref a_MANDATORY)])) X80 hx rfl rfl rfl (pc0 := 133) (pc' := 140) (same := false) rfl (hb hby at_133) rfl (decide_eq_false fun q => (Fld.ne hS.2.2.2.2.2.2.2.2.2.2.2.1 hS.2.2.2.2.2.2.2.2.2.2.2.2.2.2.1 (fun q => absurd (Value.int.inj q) (by decide))) (Value.ref.inj q)) (by decide) (by decide) ?_
            show Steps p.tables e below (T80.setTop (mkF m 140 #[.val (.int p0), .val (.int p1), .val (.int ((p0 &&& (2147483647 : Int32)) % (6 : Int32))), .val (.int (1 : Int32)), .val (.ref a_MANDATORY), .val (.int (1 : Int32)), .unset, .unset] [])) _
            refine XS.iconst X80.here hx rfl (hb hby at_140) ?_
            show Steps p.tables e below (T80.setTop (mkF m 141 #[.val (.int p0), .val (.int p1), .val (.int ((p0 &&& (2147483647 : Int32)) % (6 : Int32))), .val (.int (1 : Int32)), .val (.ref a_MANDATORY), .val (.int (1 : Int32)), .unset, .unset] [(.int (0 : Int32))])) _
            refine XS.istore X80.here hx rfl (hb hby at_141) rfl (l' := #[.val (.int p0), .val (.int p1), .val (.int ((p0 &&& (2147483647 : Int32)) % (6 : Int32))), .val (.int (1 : Int32)), .val (.ref a_MANDATORY), .val (.int (1 : Int32)), .val (.int (0 : Int32)), .unset]) rfl ?_
            show Steps p.tables e below (T80.setTop (mkF m 143 #[.val (.int p0), .val (.int p1), .val (.int ((p0 &&& (2147483647 : Int32)) % (6 : Int32))), .val (.int (1 : Int32)), .val (.ref a_MANDATORY), .val (.int (1 : Int32)), .val (.int (0 : Int32)), .unset] [])) _
            refine XS.iloadN X80.here hx rfl (hb hby at_143) rfl ?_
            show Steps p.tables e below (T80.setTop (mkF m 144 #[.val (.int p0), .val (.int p1), .val (.int ((p0 &&& (2147483647 : Int32)) % (6 : Int32))), .val (.int (1 : Int32)), .val (.ref a_MANDATORY), .val (.int (1 : Int32)), .val (.int (0 : Int32)), .unset] [(.int (1 : Int32))])) _
            refine XS.ifNo X80.here hx rfl (hb hby at_144) rfl ((if0 _ _).trans (feq (by decide : ¬ ((1 : Int32) = (0 : Int32)))).1) ?_
            show Steps p.tables e below (T80.setTop (mkF m 147 #[.val (.int p0), .val (.int p1), .val (.int ((p0 &&& (2147483647 : Int32)) % (6 : Int32))), .val (.int (1 : Int32)), .val (.ref a_MANDATORY), .val (.int (1 : Int32)), .val (.int (0 : Int32)), .unset] [])) _
            refine XS.aload X80.here hx rfl (hb hby at_147) rfl rfl ?_
            show Steps p.tables e below (T80.setTop (mkF m 149 #[.val (.int p0), .val (.int p1), .val (.int ((p0 &&& (2147483647 : Int32)) % (6 : Int32))), .val (.int (1 : Int32)), .val (.ref a_MANDATORY), .val (.int (1 : Int32)), .val (.int (0 : Int32)), .unset] [(.ref a_MANDATORY)])) _
            refine st81 _ ?_
            show Steps p.tables e below (T81.setTop (mkF m 152 #[.val (.int p0), .val (.int p1), .val (.int ((p0 &&& (2147483647 : Int32)) % (6 : Int32))), .val (.int (1 : Int32)), .val (.ref a_MANDATORY), .val (.int (1 : Int32)), .val (.int (0 : Int32)), .unset] [(.ref a_NEVER), (.ref a_MANDATORY)])) _
            refine Jvm.RoadKit.acmp (g := (mkF m 152 #[.val (.int p0), .val (.int p1), .val (.int ((p0 &&& (2147483647 : Int32)) % (6 : Int32))), .val (.int (1 : Int32)), .val (.ref a_MANDATORY), .val (.int (1 : Int32)), .val (.int (0 : Int32)), .unset] [(.ref a_NEVER), (.ref a_MANDATORY)])) X81 hx rfl rfl rfl (pc0 := 152) (pc' := 163) (same := false) rfl (hb hby at_152) rfl (decide_eq_false fun q => (Fld.ne hS.2.2.2.2.2.2.2.2.2.2.2.1 hS.2.2.2.2.2.1 (fun q => absurd (Value.int.inj q) (by decide))) (Value.ref.inj q)) (by decide) (by decide) ?_
            show Steps p.tables e below (T81.setTop (mkF m 163 #[.val (.int p0), .val (.int p1), .val (.int ((p0 &&& (2147483647 : Int32)) % (6 : Int32))), .val (.int (1 : Int32)), .val (.ref a_MANDATORY), .val (.int (1 : Int32)), .val (.int (0 : Int32)), .unset] [])) _
            refine XS.iload X81.here hx rfl (hb hby at_163) rfl ?_
            show Steps p.tables e below (T81.setTop (mkF m 165 #[.val (.int p0), .val (.int p1), .val (.int ((p0 &&& (2147483647 : Int32)) % (6 : Int32))), .val (.int (1 : Int32)), .val (.ref a_MANDATORY), .val (.int (1 : Int32)), .val (.int (0 : Int32)), .unset] [(.int (1 : Int32))])) _
            refine XS.ifNo X81.here hx rfl (hb hby at_165) rfl ((if0 _ _).trans (feq (by decide : ¬ ((1 : Int32) = (0 : Int32)))).1) ?_
            show Steps p.tables e below (T81.setTop (mkF m 168 #[.val (.int p0), .val (.int p1), .val (.int ((p0 &&& (2147483647 : Int32)) % (6 : Int32))), .val (.int (1 : Int32)), .val (.ref a_MANDATORY), .val (.int (1 : Int32)), .val (.int (0 : Int32)), .unset] [])) _
            refine st82 _ ?_
            show Steps p.tables e below (T82.setTop (mkF m 171 #[.val (.int p0), .val (.int p1), .val (.int ((p0 &&& (2147483647 : Int32)) % (6 : Int32))), .val (.int (1 : Int32)), .val (.ref a_MANDATORY), .val (.int (1 : Int32)), .val (.int (0 : Int32)), .unset] [(.ref a_JOIN)])) _
            refine XS.astore X82.here hx rfl (hb hby at_171) rfl rfl (l' := #[.val (.int p0), .val (.int p1), .val (.int ((p0 &&& (2147483647 : Int32)) % (6 : Int32))), .val (.int (1 : Int32)), .val (.ref a_MANDATORY), .val (.int (1 : Int32)), .val (.int (0 : Int32)), .val (.ref a_JOIN)]) rfl ?_
            show Steps p.tables e below (T82.setTop (mkF m 173 #[.val (.int p0), .val (.int p1), .val (.int ((p0 &&& (2147483647 : Int32)) % (6 : Int32))), .val (.int (1 : Int32)), .val (.ref a_MANDATORY), .val (.int (1 : Int32)), .val (.int (0 : Int32)), .val (.ref a_JOIN)] [])) _
            refine XS.goto X82.here hx rfl (pc0 := 173) (pc' := 234) rfl (hb hby at_173) (by decide) (by decide) ?_
            show Steps p.tables e below (T82.setTop (mkF m 234 #[.val (.int p0), .val (.int p1), .val (.int ((p0 &&& (2147483647 : Int32)) % (6 : Int32))), .val (.int (1 : Int32)), .val (.ref a_MANDATORY), .val (.int (1 : Int32)), .val (.int (0 : Int32)), .val (.ref a_JOIN)] [])) _
            refine XS.aload X82.here hx rfl (hb hby at_234) rfl rfl ?_
            show Steps p.tables e below (T82.setTop (mkF m 236 #[.val (.int p0), .val (.int p1), .val (.int ((p0 &&& (2147483647 : Int32)) % (6 : Int32))), .val (.int (1 : Int32)), .val (.ref a_MANDATORY), .val (.int (1 : Int32)), .val (.int (0 : Int32)), .val (.ref a_JOIN)] [(.ref a_MANDATORY)])) _
            refine XS.iloadN X82.here hx rfl (hb hby at_236) rfl ?_
            show Steps p.tables e below (T82.setTop (mkF m 237 #[.val (.int p0), .val (.int p1), .val (.int ((p0 &&& (2147483647 : Int32)) % (6 : Int32))), .val (.int (1 : Int32)), .val (.ref a_MANDATORY), .val (.int (1 : Int32)), .val (.int (0 : Int32)), .val (.ref a_JOIN)] [(.int (1 : Int32)), (.ref a_MANDATORY)])) _
            refine st83 _ ?_
            show Steps p.tables e below (T83.setTop (mkF m 240 #[.val (.int p0), .val (.int p1), .val (.int ((p0 &&& (2147483647 : Int32)) % (6 : Int32))), .val (.int (1 : Int32)), .val (.ref a_MANDATORY), .val (.int (1 : Int32)), .val (.int (0 : Int32)), .val (.ref a_JOIN)] [(.ref a_JOIN)])) _
            refine XS.aload X83.here hx rfl (hb hby at_240) rfl rfl ?_
            show Steps p.tables e below (T83.setTop (mkF m 242 #[.val (.int p0), .val (.int p1), .val (.int ((p0 &&& (2147483647 : Int32)) % (6 : Int32))), .val (.int (1 : Int32)), .val (.ref a_MANDATORY), .val (.int (1 : Int32)), .val (.int (0 : Int32)), .val (.ref a_JOIN)] [(.ref a_JOIN), (.ref a_JOIN)])) _
            refine Jvm.RoadKit.acmp (g := (mkF m 242 #[.val (.int p0), .val (.int p1), .val (.int ((p0 &&& (2147483647 : Int32)) % (6 : Int32))), .val (.int (1 : Int32)), .val (.ref a_MANDATORY), .val (.int (1 : Int32)), .val (.int (0 : Int32)), .val (.ref a_JOIN)] [(.ref a_JOIN), (.ref a_JOIN)])) X83 hx rfl rfl rfl (pc0 := 242) (pc' := 245) (same := true) rfl (hb hby at_242) rfl (decide_eq_true rfl) (by decide) (by decide) ?_
            show Steps p.tables e below (T83.setTop (mkF m 245 #[.val (.int p0), .val (.int p1), .val (.int ((p0 &&& (2147483647 : Int32)) % (6 : Int32))), .val (.int (1 : Int32)), .val (.ref a_MANDATORY), .val (.int (1 : Int32)), .val (.int (0 : Int32)), .val (.ref a_JOIN)] [])) _
            refine XS.iconst X83.here hx rfl (hb hby at_245) ?_
            show Steps p.tables e below (T83.setTop (mkF m 246 #[.val (.int p0), .val (.int p1), .val (.int ((p0 &&& (2147483647 : Int32)) % (6 : Int32))), .val (.int (1 : Int32)), .val (.ref a_MANDATORY), .val (.int (1 : Int32)), .val (.int (0 : Int32)), .val (.ref a_JOIN)] [(.int (1 : Int32))])) _
            refine XS.goto X83.here hx rfl (pc0 := 246) (pc' := 250) rfl (hb hby at_246) (by decide) (by decide) ?_
            show Steps p.tables e below (T83.setTop (mkF m 250 #[.val (.int p0), .val (.int p1), .val (.int ((p0 &&& (2147483647 : Int32)) % (6 : Int32))), .val (.int (1 : Int32)), .val (.ref a_MANDATORY), .val (.int (1 : Int32)), .val (.int (0 : Int32)), .val (.ref a_JOIN)] [(.int (1 : Int32))])) _
            exact retN X83 hx (t := .boolean) Bd.returns (by simp) (hb hby at_250) hr
          · show Q0 n0 _ T83.heap _
            rw [e83]
            exact ⟨rfl, N83⟩
        · have gp84 : ∀ t, Steps p.tables e below (s₁.setTop (mkF m 60 #[.val (.int p0), .val (.int p1), .val (.int ((p0 &&& (2147483647 : Int32)) % (6 : Int32))), .val (.int (1 : Int32)), .unset, .unset, .unset, .unset] [(.int (3 : Int32)), (.int ((p0 &&& (2147483647 : Int32)) % (6 : Int32)))])) t → Steps p.tables e below (s₁.setTop (entryFrame m #[(.int p0), (.int p1)] maxLocals)) t := fun t kt => gp75 t (by
            refine XS.icmpYes X0.here hx rfl (pc0 := 47) (pc' := 58) rfl (hb hby at_47) rfl (feq hc47).2 (by decide) (by decide) ?_
            show Steps p.tables e below (s₁.setTop (mkF m 58 #[.val (.int p0), .val (.int p1), .val (.int ((p0 &&& (2147483647 : Int32)) % (6 : Int32))), .val (.int (1 : Int32)), .unset, .unset, .unset, .unset] [])) _
            refine XS.iloadN X0.here hx rfl (hb hby at_58) rfl ?_
            show Steps p.tables e below (s₁.setTop (mkF m 59 #[.val (.int p0), .val (.int p1), .val (.int ((p0 &&& (2147483647 : Int32)) % (6 : Int32))), .val (.int (1 : Int32)), .unset, .unset, .unset, .unset] [(.int ((p0 &&& (2147483647 : Int32)) % (6 : Int32)))])) _
            refine XS.iconst X0.here hx rfl (hb hby at_59) ?_
            show Steps p.tables e below (s₁.setTop (mkF m 60 #[.val (.int p0), .val (.int p1), .val (.int ((p0 &&& (2147483647 : Int32)) % (6 : Int32))), .val (.int (1 : Int32)), .unset, .unset, .unset, .unset] [(.int (3 : Int32)), (.int ((p0 &&& (2147483647 : Int32)) % (6 : Int32)))])) _
            exact kt)
          by_cases hc60 : ((p0 &&& (2147483647 : Int32)) % (6 : Int32)) = (3 : Int32)
          · obtain ⟨T85, X85, e85, st85⟩ := getS2 X0 hx hZ hown (host := "") (Or.inl (hw _ (List.mem_of_getElem? (i := 40) rfl))) Via.refl e0 (hS.2.2.2.2.2.2.2.2.2.2.2.2.2.2.2.2.2.2.2.2.2.2.2.2.2.1.ext O0.2) (g := (mkF m 63 #[.val (.int p0), .val (.int p1), .val (.int ((p0 &&& (2147483647 : Int32)) % (6 : Int32))), .val (.int (1 : Int32)), .unset, .unset, .unset, .unset] [])) rfl (hb hby at_63)
            obtain ⟨T86, X86, e86, st86⟩ := getS2 X85 hx hZ hown (host := "") (Or.inl (hw _ (List.mem_of_getElem? (i := 1) rfl))) Via.refl e85 (hS.2.1.ext O0.2) (g := (mkF m 91 #[.val (.int p0), .val (.int p1), .val (.int ((p0 &&& (2147483647 : Int32)) % (6 : Int32))), .val (.int (1 : Int32)), .val (.ref a_NOT_SUPPORTED), .unset, .unset, .unset] [(.ref a_NOT_SUPPORTED)])) rfl (hb hby at_91)
            obtain ⟨T87, X87, e87, st87⟩ := getS2 X86 hx hZ hown (host := "") (Or.inl (hw _ (List.mem_of_getElem? (i := 25) rfl))) Via.refl e86 (hS.2.2.2.2.2.2.2.2.2.2.1.ext O0.2) (g := (mkF m 99 #[.val (.int p0), .val (.int p1), .val (.int ((p0 &&& (2147483647 : Int32)) % (6 : Int32))), .val (.int (1 : Int32)), .val (.ref a_NOT_SUPPORTED), .unset, .unset, .unset] [(.ref a_NOT_SUPPORTED)])) rfl (hb hby at_99)
            obtain ⟨T88, X88, e88, st88⟩ := getS2 X87 hx hZ hown (host := "") (Or.inl (hw _ (List.mem_of_getElem? (i := 32) rfl))) Via.refl e87 (hS.2.2.2.2.2.2.2.2.2.2.2.2.2.2.2.2.2.2.1.ext O0.2) (g := (mkF m 107 #[.val (.int p0), .val (.int p1), .val (.int ((p0 &&& (2147483647 : Int32)) % (6 : Int32))), .val (.int (1 : Int32)), .val (.ref a_NOT_SUPPORTED), .unset, .unset, .unset] [(.ref a_NOT_SUPPORTED)])) rfl (hb hby at_107)
            obtain ⟨T89, X89, e89, st89⟩ := getS2 X88 hx hZ hown (host := "") (Or.inl (hw _ (List.mem_of_getElem? (i := 1) rfl))) Via.refl e88 (hS.2.1.ext O0.2) (g := (mkF m 122 #[.val (.int p0), .val (.int p1), .val (.int ((p0 &&& (2147483647 : Int32)) % (6 : Int32))), .val (.int (1 : Int32)), .val (.ref a_NOT_SUPPORTED), .val (.int (0 : Int32)), .unset, .unset] [(.ref a_NOT_SUPPORTED)])) rfl (hb hby at_122)
            obtain ⟨T90, X90, e90, st90⟩ := getS2 X89 hx hZ hown (host := "") (Or.inl (hw _ (List.mem_of_getElem? (i := 27) rfl))) Via.refl e89 (hS.2.2.2.2.2.2.2.2.2.2.2.2.2.1.ext O0.2) (g := (mkF m 130 #[.val (.int p0), .val (.int p1), .val (.int ((p0 &&& (2147483647 : Int32)) % (6 : Int32))), .val (.int (1 : Int32)), .val (.ref a_NOT_SUPPORTED), .val (.int (0 : Int32)), .unset, .unset] [(.ref a_NOT_SUPPORTED)])) rfl (hb hby at_130)
            obtain ⟨T91, X91, e91, st91⟩ := getS2 X90 hx hZ hown (host := "") (Or.inl (hw _ (List.mem_of_getElem? (i := 4) rfl))) Via.refl e90 (hS.2.2.2.1.ext O0.2) (g := (mkF m 149 #[.val (.int p0), .val (.int p1), .val (.int ((p0 &&& (2147483647 : Int32)) % (6 : Int32))), .val (.int (1 : Int32)), .val (.ref a_NOT_SUPPORTED), .val (.int (0 : Int32)), .val (.int (0 : Int32)), .unset] [(.ref a_NOT_SUPPORTED)])) rfl (hb hby at_149)
            obtain ⟨T92, X92, e92, st92⟩ := getS2 X91 hx hZ hown (host := "") (Or.inl (hw _ (List.mem_of_getElem? (i := 27) rfl))) Via.refl e91 (hS.2.2.2.2.2.2.2.2.2.2.2.2.2.1.ext O0.2) (g := (mkF m 178 #[.val (.int p0), .val (.int p1), .val (.int ((p0 &&& (2147483647 : Int32)) % (6 : Int32))), .val (.int (1 : Int32)), .val (.ref a_NOT_SUPPORTED), .val (.int (0 : Int32)), .val (.int (0 : Int32)), .unset] [(.ref a_NOT_SUPPORTED)])) rfl (hb hby at_178)
            obtain ⟨T93, X93, e93, st93⟩ := getS2 X92 hx hZ hown (host := "") (Or.inl (hw _ (List.mem_of_getElem? (i := 34) rfl))) Via.refl e92 (hS.2.2.2.2.2.2.2.2.2.2.2.2.2.2.2.2.2.2.2.2.2.1.ext O0.2) (g := (mkF m 192 #[.val (.int p0), .val (.int p1), .val (.int ((p0 &&& (2147483647 : Int32)) % (6 : Int32))), .val (.int (1 : Int32)), .val (.ref a_NOT_SUPPORTED), .val (.int (0 : Int32)), .val (.int (0 : Int32)), .unset] [])) rfl (hb hby at_192)
            obtain ⟨_, _, ⟨T94, L94, k94, n94⟩, -, X94, ⟨Lc94, hQ94, l94, y94, z94⟩, st94⟩ := Jvm.LawKit.callS X93 hx (y := (⟨"com/example/demarc/demarc/Placement", "of", "(Lcom/example/demarc/demarc/TransactionAttributeType;Z)Lcom/example/demarc/demarc/Placement;"⟩ : MethodName)) hown (mvT hZ (hw _ (List.mem_of_getElem? (i := 9) rfl))) (mvT hZ (hw _ (List.mem_of_getElem? (i := 10) rfl))) (mvT hZ (hw _ (List.mem_of_getElem? (i := 7) rfl))) (mvT hZ (hw _ (List.mem_of_getElem? (i := 11) rfl))) (by decide) (backOf (W := 0) (rm_of_NOT_SUPPORTED_1 l Z a0 hw [] a_REQUIRED a_NEVER a_JOIN a__SwitchMap_com_example_demarc_demarc_TransactionAttributeType a_MANDATORY a_REQUIRES_NEW a_REFUSED a_SUPPORTS a_NONE a_NEW a_NOT_SUPPORTED k_a__SwitchMap_com_example_demarc_demarc_TransactionAttributeType hS h0 n0 O0) hZ (hw _ (List.mem_of_getElem? (i := 11) rfl)) (hw _ (List.mem_of_getElem? (i := 7) rfl)) (by decide) (by decide)) (g := (mkF m 237 #[.val (.int p0), .val (.int p1), .val (.int ((p0 &&& (2147483647 : Int32)) % (6 : Int32))), .val (.int (1 : Int32)), .val (.ref a_NOT_SUPPORTED), .val (.int (0 : Int32)), .val (.int (0 : Int32)), .val (.ref a_NONE)] [(.int (1 : Int32)), (.ref a_NOT_SUPPORTED)])) rfl (by rw [hml]; rfl) (argsL := [(.ref a_NOT_SUPPORTED), (.int (1 : Int32))]) (rest := []) (lenOf pd_1 rfl) rfl (by show 2 * 0 + _ ≤ _; exact Nat.le_of_eq rfl) (hb hby at_237) (fun _ _ => ⟨rfl, e93, (by decide : 0 + 0 ≤ _), (by decide : 0 + 0 ≤ _)⟩)
            dsimp only [Pt.U, Pt.locs, Pt.cells, Pt.slots] at X94 l94 y94 z94 st94 hQ94
            subst l94 y94 z94
            obtain ⟨rfl, N94q, e94⟩ := hQ94
            have N94 := Fr.app N0 N94q
            obtain ⟨fs, hr, hrun, hended, hW, hsame⟩ := X94.leave (v := (some (.int (1 : Int32)))) (fun h => by rw [Bd.returns] at h; cases h)
            refine ⟨_, _, gp84 _ ?_, hrun, hended, _, _, rfl, ?_, ⟨_, rfl⟩, hW, hsame.mono (by decide) (by decide)⟩
            · refine XS.icmpNo X0.here hx rfl (hb hby at_60) rfl (teq hc60).2 ?_
              show Steps p.tables e below (s₁.setTop (mkF m 63 #[.val (.int p0), .val (.int p1), .val (.int ((p0 &&& (2147483647 : Int32)) % (6 : Int32))), .val (.int (1 : Int32)), .unset, .unset, .unset, .unset] [])) _
              refine st85 _ ?_
              show Steps p.tables e below (T85.setTop (mkF m 66 #[.val (.int p0), .val (.int p1), .val (.int ((p0 &&& (2147483647 : Int32)) % (6 : Int32))), .val (.int (1 : Int32)), .unset, .unset, .unset, .unset] [(.ref a_NOT_SUPPORTED)])) _
              refine XS.astore X85.here hx rfl (hb hby at_66) rfl rfl (l' := #[.val (.int p0), .val (.int p1), .val (.int ((p0 &&& (2147483647 : Int32)) % (6 : Int32))), .val (.int (1 : Int32)), .val (.ref a_NOT_SUPPORTED), .unset, .unset, .unset]) rfl ?_
              show Steps p.tables e below (T85.setTop (mkF m 68 #[.val (.int p0), .val (.int p1), .val (.int ((p0 &&& (2147483647 : Int32)) % (6 : Int32))), .val (.int (1 : Int32)), .val (.ref a_NOT_SUPPORTED), .unset, .unset, .unset] [])) _
              refine XS.goto X85.here hx rfl (pc0 := 68) (pc' := 89) rfl (hb hby at_68) (by decide) (by decide) ?_
              show Steps p.tables e below (T85.setTop (mkF m 89 #[.val (.int p0), .val (.int p1), .val (.int ((p0 &&& (2147483647 : Int32)) % (6 : Int32))), .val (.int (1 : Int32)), .val (.ref a_NOT_SUPPORTED), .unset, .unset, .unset] [])) _
              refine XS.aload X85.here hx rfl (hb hby at_89) rfl rfl ?_
              show Steps p.tables e below (T85.setTop (mkF m 91 #[.val (.int p0), .val (.int p1), .val (.int ((p0 &&& (2147483647 : Int32)) % (6 : Int32))), .val (.int (1 : Int32)), .val (.ref a_NOT_SUPPORTED), .unset, .unset, .unset] [(.ref a_NOT_SUPPORTED)])) _
              refine st86 _ ?_
              show Steps p.tables e below (T86.setTop (mkF m 94 #[.val (.int p0), .val (.int p1), .val (.int ((p0 &&& (2147483647 : Int32)) % (6 : Int32))), .val (.int (1 : Int32)), .val (.ref a_NOT_SUPPORTED), .unset, .unset, .unset] [(.ref a_REQUIRED), (.ref a_NOT_SUPPORTED)])) _
              refine Jvm.RoadKit.acmp (g := (mkF m 94 #[.val (.int p0), .val (.int p1), .val (.int ((p0 &&& (2147483647 : Int32)) % (6 : Int32))), .val (.int (1 : Int32)), .val (.ref a_NOT_SUPPORTED), .unset, .unset, .unset] [(.ref a_REQUIRED), (.ref a_NOT_SUPPORTED)])) X86 hx rfl rfl rfl (pc0 := 94) (pc' := 97) (same := false) rfl (hb hby at_94) rfl (decide_eq_false fun q => (Fld.ne hS.2.2.2.2.2.2.2.2.2.2.2.2.2.2.2.2.2.2.2.2.2.2.2.2.2.2.1 hS.2.2.2.2.1 (fun q => absurd (Value.int.inj q) (by decide))) (Value.ref.inj q)) (by decide) (by decide) ?_
              show Steps p.tables e below (T86.setTop (mkF m 97 #[.val (.int p0), .val (.int p1), .val (.int ((p0 &&& (2147483647 : Int32)) % (6 : Int32))), .val (.int (1 : Int32)), .val (.ref a_NOT_SUPPORTED), .unset, .unset, .unset] [])) _
              refine XS.aload X86.here hx rfl (hb hby at_97) rfl rfl ?_
              show Steps p.tables e below (T86.setTop (mkF m 99 #[.val (.int p0), .val (.int p1), .val (.int ((p0 &&& (2147483647 : Int32)) % (6 : Int32))), .val (.int (1 : Int32)), .val (.ref a_NOT_SUPPORTED), .unset, .unset, .unset] [(.ref a_NOT_SUPPORTED)])) _
              refine st87 _ ?_
              show Steps p.tables e below (T87.setTop (mkF m 102 #[.val (.int p0), .val (.int p1), .val (.int ((p0 &&& (2147483647 : Int32)) % (6 : Int32))), .val (.int (1 : Int32)), .val (.ref a_NOT_SUPPORTED), .unset, .unset, .unset] [(.ref a_MANDATORY), (.ref a_NOT_SUPPORTED)])) _
              refine Jvm.RoadKit.acmp (g := (mkF m 102 #[.val (.int p0), .val (.int p1), .val (.int ((p0 &&& (2147483647 : Int32)) % (6 : Int32))), .val (.int (1 : Int32)), .val (.ref a_NOT_SUPPORTED), .unset, .unset, .unset] [(.ref a_MANDATORY), (.ref a_NOT_SUPPORTED)])) X87 hx rfl rfl rfl (pc0 := 102) (pc' := 105) (same := false) rfl (hb hby at_102) rfl (decide_eq_false fun q => (Fld.ne hS.2.2.2.2.2.2.2.2.2.2.2.2.2.2.2.2.2.2.2.2.2.2.2.2.2.2.1 hS.2.2.2.2.2.2.2.2.2.2.2.1 (fun q => absurd (Value.int.inj q) (by decide))) (Value.ref.inj q)) (by decide) (by decide) ?_
              show Steps p.tables e below (T87.setTop (mkF m 105 #[.val (.int p0), .val (.int p1), .val (.int ((p0 &&& (2147483647 : Int32)) % (6 : Int32))), .val (.int (1 : Int32)), .val (.ref a_NOT_SUPPORTED), .unset, .unset, .unset] [])) _
              refine XS.aload X87.here hx rfl (hb hby at_105) rfl rfl ?_
              show Steps p.tables e below (T87.setTop (mkF m 107 #[.val (.int p0), .val (.int p1), .val (.int ((p0 &&& (2147483647 : Int32)) % (6 : Int32))), .val (.int (1 : Int32)), .val (.ref a_NOT_SUPPORTED), .unset, .unset, .unset] [(.ref a_NOT_SUPPORTED)])) _
              refine st88 _ ?_
              show Steps p.tables e below (T88.setTop (mkF m 110 #[.val (.int p0), .val (.int p1), .val (.int ((p0 &&& (2147483647 : Int32)) % (6 : Int32))), .val (.int (1 : Int32)), .val (.ref a_NOT_SUPPORTED), .unset, .unset, .unset] [(.ref a_SUPPORTS), (.ref a_NOT_SUPPORTED)])) _
              refine Jvm.RoadKit.acmp (g := (mkF m 110 #[.val (.int p0), .val (.int p1), .val (.int ((p0 &&& (2147483647 : Int32)) % (6 : Int32))), .val (.int (1 : Int32)), .val (.ref a_NOT_SUPPORTED), .unset, .unset, .unset] [(.ref a_SUPPORTS), (.ref a_NOT_SUPPORTED)])) X88 hx rfl rfl rfl (pc0 := 110) (pc' := 117) (same := false) rfl (hb hby at_110) rfl (decide_eq_false fun q => (Fld.ne hS.2.2.2.2.2.2.2.2.2.2.2.2.2.2.2.2.2.2.2.2.2.2.2.2.2.2.1 hS.2.2.2.2.2.2.2.2.2.2.2.2.2.2.2.2.2.2.2.1 (fun q => absurd (Value.int.inj q) (by decide))) (Value.ref.inj q)) (by decide) (by decide) ?_
              show Steps p.tables e below (T88.setTop (mkF m 117 #[.val (.int p0), .val (.int p1), .val (.int ((p0 &&& (2147483647 : Int32)) % (6 : Int32))), .val (.int (1 : Int32)), .val (.ref a_NOT_SUPPORTED), .unset, .unset, .unset] [])) _
              refine XS.iconst X88.here hx rfl (hb hby at_117) ?_
              show Steps p.tables e below (T88.setTop (mkF m 118 #[.val (.int p0), .val (.int p1), .val (.int ((p0 &&& (2147483647 : Int32)) % (6 : Int32))), .val (.int (1 : Int32)), .val (.ref a_NOT_SUPPORTED), .unset, .unset, .unset] [(.int (0 : Int32))])) _
              refine XS.istore X88.here hx rfl (hb hby at_118) rfl (l' := #[.val (.int p0), .val (.int p1), .val (.int ((p0 &&& (2147483647 : Int32)) % (6 : Int32))), .val (.int (1 : Int32)), .val (.ref a_NOT_SUPPORTED), .val (.int (0 : Int32)), .unset, .unset]) rfl ?_
              show Steps p.tables e below (T88.setTop (mkF m 120 #[.val (.int p0), .val (.int p1), .val (.int ((p0 &&& (2147483647 : Int32)) % (6 : Int32))), .val (.int (1 : Int32)), .val (.ref a_NOT_SUPPORTED), .val (.int (0 : Int32)), .unset, .unset] [])) _
              refine XS.aload X88.here hx rfl (hb hby at_120) rfl rfl ?_
              show Steps p.tables e below (T88.setTop (mkF m 122 #[.val (.int p0), .val (.int p1), .val (.int ((p0 &&& (2147483647 : Int32)) % (6 : Int32))), .val (.int (1 : Int32)), .val (.ref a_NOT_SUPPORTED), .val (.int (0 : Int32)), .unset, .unset] [(.ref a_NOT_SUPPORTED)])) _
              refine st89 _ ?_
              show Steps p.tables e below (T89.setTop (mkF m 125 #[.val (.int p0), .val (.int p1), .val (.int ((p0 &&& (2147483647 : Int32)) % (6 : Int32))), .val (.int (1 : Int32)), .val (.ref a_NOT_SUPPORTED), .val (.int (0 : Int32)), .unset, .unset] [(.ref a_REQUIRED), (.ref a_NOT_SUPPORTED)])) _
              refine Jvm.RoadKit.acmp (g := (mkF m 125 #[.val (.int p0), .val (.int p1), .val (.int ((p0 &&& (2147483647 : Int32)) % (6 : Int32))), .val (.int (1 : Int32)), .val (.ref a_NOT_SUPPORTED), .val (.int (0 : Int32)), .unset, .unset] [(.ref a_REQUIRED), (.ref a_NOT_SUPPORTED)])) X89 hx rfl rfl rfl (pc0 := 125) (pc' := 128) (same := false) rfl (hb hby at_125) rfl (decide_eq_false fun q => (Fld.ne hS.2.2.2.2.2.2.2.2.2.2.2.2.2.2.2.2.2.2.2.2.2.2.2.2.2.2.1 hS.2.2.2.2.1 (fun q => absurd (Value.int.inj q) (by decide))) (Value.ref.inj q)) (by decide) (by decide) ?_
              show Steps p.tables e below (T89.setTop (mkF m 128 #[.val (.int p0), .val (.int p1), .val (.int ((p0 &&& (2147483647 : Int32)) % (6 : Int32))), .val (.int (1 : Int32)), .val (.ref a_NOT_SUPPORTED), .val (.int (0 : Int32)), .unset, .unset] [])) _
              refine XS.aload X89.here hx rfl (hb hby at_128) rfl rfl ?_
              show Steps p.tables e below (T89.setTop (mkF m 130 #[.val (.int p0), .val (.int p1), .val (.int ((p0 &&& (2147483647 : Int32)) % (6 : Int32))), .val (.int (1 : Int32)), .val (.ref a_NOT_SUPPORTED), .val (.int (0 : Int32)), .unset, .unset] [(.ref a_NOT_SUPPORTED)])) _
              refine st90 _ ?_
              show Steps p.tables e below (T90.setTop (mkF m 133 #[.val (.int p0), .val (.int p1), .val (.int ((p0 &&& (2147483647 : Int32)) % (6 : Int32))), .val (.int (1 : Int32)), .val (.ref a_NOT_SUPPORTED), .val (.int (0 : Int32)), .unset, .unset] [(.ref a_REQUIRES_NEW), (.ref a_NOT_SUPPORTED)])) _
              refine Jvm.RoadKit.acmp (g := (mkF m 133 #[.val (.int p0), .val (.int p1), .val (.int ((p0 &&& (2147483647 : Int32)) % (6 : Int32))), .val (.int (1 : Int32)), .val (.ref a_NOT_SUPPORTED), .val (.int (0 : Int32)), .unset, .unset] [(.ref a_REQUIRES_NEW), (.ref a_NOT_SUPPORTED)])) X90 hx rfl rfl rfl (pc0 := 133) (pc' := 140) (same := false) rfl (hb hby at_133) rfl (decide_eq_false fun q => (Fld.ne hS.2.2.2.2.2.2.2.2.2.2.2.2.2.2.2.2.2.2.2.2.2.2.2.2.2.2.1 hS.2.2.2.2.2.2.2.2.2.2.2.2.2.2.1 (fun q => absurd (Value.int.inj q) (by decide))) (Value.ref.inj q)) (by decide) (by decide) ?_
              show Steps p.tables e below (T90.setTop (mkF m 140 #[.val (.int p0), .val (.int p1), .val (.int ((p0 &&& (2147483647 : Int32)) % (6 : Int32))), .val (.int (1 : Int32)), .val (.ref a_NOT_SUPPORTED), .val (.int (0 : Int32)), .unset, .unset] [])) _
              refine XS.iconst X90.here hx rfl (hb hby at_140) ?_
              show Steps p.tables e below (T90.setTop (mkF m 141 #[.val (.int p0), .val (.int p1), .val (.int ((p0 &&& (2147483647 : Int32)) % (6 : Int32))), .val (.int (1 : Int32)), .val (.ref a_NOT_SUPPORTED), .val (.int (0 : Int32)), .unset, .unset] [(.int (0 : Int32))])) _
              refine XS.istore X90.here hx rfl (hb hby at_141) rfl (l' := #[.val (.int p0), .val (.int p1), .val (.int ((p0 &&& (2147483647 : Int32)) % (6 : Int32))), .val (.int (1 : Int32)), .val (.ref a_NOT_SUPPORTED), .val (.int (0 : Int32)), .val (.int (0 : Int32)), .unset]) rfl ?_
              show Steps p.tables e below (T90.setTop (mkF m 143 #[.val (.int p0), .val (.int p1), .val (.int ((p0 &&& (2147483647 : Int32)) % (6 : Int32))), .val (.int (1 : Int32)), .val (.ref a_NOT_SUPPORTED), .val (.int (0 : Int32)), .val (.int (0 : Int32)), .unset] [])) _
              refine XS.iloadN X90.here hx rfl (hb hby at_143) rfl ?_
              show Steps p.tables e below (T90.setTop (mkF m 144 #[.val (.int p0), .val (.int p1), .val (.int ((p0 &&& (2147483647 : Int32)) % (6 : Int32))), .val (.int (1 : Int32)), .val (.ref a_NOT_SUPPORTED), .val (.int (0 : Int32)), .val (.int (0 : Int32)), .unset] [(.int (1 : Int32))])) _
              refine XS.ifNo X90.here hx rfl (hb hby at_144) rfl ((if0 _ _).trans (feq (by decide : ¬ ((1 : Int32) = (0 : Int32)))).1) ?_
              show Steps p.tables e below (T90.setTop (mkF m 147 #[.val (.int p0), .val (.int p1), .val (.int ((p0 &&& (2147483647 : Int32)) % (6 : Int32))), .val (.int (1 : Int32)), .val (.ref a_NOT_SUPPORTED), .val (.int (0 : Int32)), .val (.int (0 : Int32)), .unset] [])) _
              refine XS.aload X90.here hx rfl (hb hby at_147) rfl rfl ?_
              show Steps p.tables e below (T90.setTop (mkF m 149 #[.val (.int p0), .val (.int p1), .val (.int ((p0 &&& (2147483647 : Int32)) % (6 : Int32))), .val (.int (1 : Int32)), .val (.ref a_NOT_SUPPORTED), .val (.int (0 : Int32)), .val (.int (0 : Int32)), .unset] [(.ref a_NOT_SUPPORTED)])) _
              refine st91 _ ?_
              show Steps p.tables e below (T91.setTop (mkF m 152 #[.val (.int p0), .val (.int p1), .val (.int ((p0 &&& (2147483647 : Int32)) % (6 : Int32))), .val (.int (1 : Int32)), .val (.ref a_NOT_SUPPORTED), .val (.int (0 : Int32)), .val (.int (0 : Int32)), .unset] [(.ref a_NEVER), (.ref a_NOT_SUPPORTED)])) _
              refine Jvm.RoadKit.acmp (g := (mkF m 152 #[.val (.int p0), .val (.int p1), .val (.int ((p0 &&& (2147483647 : Int32)) % (6 : Int32))), .val (.int (1 : Int32)), .val (.ref a_NOT_SUPPORTED), .val (.int (0 : Int32)), .val (.int (0 : Int32)), .unset] [(.ref a_NEVER), (.ref a_NOT_SUPPORTED)])) X91 hx rfl rfl rfl (pc0 := 152) (pc' := 163) (same := false) rfl (hb hby at_152) rfl (decide_eq_false fun q => (Fld.ne hS.2.2.2.2.2.2.2.2.2.2.2.2.2.2.2.2.2.2.2.2.2.2.2.2.2.2.1 hS.2.2.2.2.2.1 (fun q => absurd (Value.int.inj q) (by decide))) (Value.ref.inj q)) (by decide) (by decide) ?_
              show Steps p.tables e below (T91.setTop (mkF m 163 #[.val (.int p0), .val (.int p1), .val (.int ((p0 &&& (2147483647 : Int32)) % (6 : Int32))), .val (.int (1 : Int32)), .val (.ref a_NOT_SUPPORTED), .val (.int (0 : Int32)), .val (.int (0 : Int32)), .unset] [])) _
              refine XS.iload X91.here hx rfl (hb hby at_163) rfl ?_
              show Steps p.tables e below (T91.setTop (mkF m 165 #[.val (.int p0), .val (.int p1), .val (.int ((p0 &&& (2147483647 : Int32)) % (6 : Int32))), .val (.int (1 : Int32)), .val (.ref a_NOT_SUPPORTED), .val (.int (0 : Int32)), .val (.int (0 : Int32)), .unset] [(.int (0 : Int32))])) _
              refine XS.ifYes X91.here hx rfl (pc0 := 165) (pc' := 176) rfl (hb hby at_165) rfl ((if0 _ _).trans (teq (by decide : (0 : Int32) = (0 : Int32))).1) (by decide) (by decide) ?_
              show Steps p.tables e below (T91.setTop (mkF m 176 #[.val (.int p0), .val (.int p1), .val (.int ((p0 &&& (2147483647 : Int32)) % (6 : Int32))), .val (.int (1 : Int32)), .val (.ref a_NOT_SUPPORTED), .val (.int (0 : Int32)), .val (.int (0 : Int32)), .unset] [])) _
              refine XS.aload X91.here hx rfl (hb hby at_176) rfl rfl ?_
              show Steps p.tables e below (T91.setTop (mkF m 178 #[.val (.int p0), .val (.int p1), .val (.int ((p0 &&& (2147483647 : Int32)) % (6 : Int32))), .val (.int (1 : Int32)), .val (.ref a_NOT_SUPPORTED), .val (.int (0 : Int32)), .val (.int (0 : Int32)), .unset] [(.ref a_NOT_SUPPORTED)])) _
              refine st92 _ ?_
              show Steps p.tables e below (T92.setTop (mkF m 181 #[.val (.int p0), .val (.int p1), .val (.int ((p0 &&& (2147483647 : Int32)) % (6 : Int32))), .val (.int (1 : Int32)), .val (.ref a_NOT_SUPPORTED), .val (.int (0 : Int32)), .val (.int (0 : Int32)), .unset] [(.ref a_REQUIRES_NEW), (.ref a_NOT_SUPPORTED)])) _
              refine Jvm.RoadKit.acmp (g := (mkF m 181 #[.val (.int p0), .val (.int p1), .val (.int ((p0 &&& (2147483647 : Int32)) % (6 : Int32))), .val (.int (1 : Int32)), .val (.ref a_NOT_SUPPORTED), .val (.int (0 : Int32)), .val (.int (0 : Int32)), .unset] [(.ref a_REQUIRES_NEW), (.ref a_NOT_SUPPORTED)])) X92 hx rfl rfl rfl (pc0 := 181) (pc' := 192) (same := false) rfl (hb hby at_181) rfl (decide_eq_false fun q => (Fld.ne hS.2.2.2.2.2.2.2.2.2.2.2.2.2.2.2.2.2.2.2.2.2.2.2.2.2.2.1 hS.2.2.2.2.2.2.2.2.2.2.2.2.2.2.1 (fun q => absurd (Value.int.inj q) (by decide))) (Value.ref.inj q)) (by decide) (by decide) ?_
              show Steps p.tables e below (T92.setTop (mkF m 192 #[.val (.int p0), .val (.int p1), .val (.int ((p0 &&& (2147483647 : Int32)) % (6 : Int32))), .val (.int (1 : Int32)), .val (.ref a_NOT_SUPPORTED), .val (.int (0 : Int32)), .val (.int (0 : Int32)), .unset] [])) _
              refine st93 _ ?_
              show Steps p.tables e below (T93.setTop (mkF m 195 #[.val (.int p0), .val (.int p1), .val (.int ((p0 &&& (2147483647 : Int32)) % (6 : Int32))), .val (.int (1 : Int32)), .val (.ref a_NOT_SUPPORTED), .val (.int (0 : Int32)), .val (.int (0 : Int32)), .unset] [(.ref a_NONE)])) _
              refine XS.astore X93.here hx rfl (hb hby at_195) rfl rfl (l' := #[.val (.int p0), .val (.int p1), .val (.int ((p0 &&& (2147483647 : Int32)) % (6 : Int32))), .val (.int (1 : Int32)), .val (.ref a_NOT_SUPPORTED), .val (.int (0 : Int32)), .val (.int (0 : Int32)), .val (.ref a_NONE)]) rfl ?_
              show Steps p.tables e below (T93.setTop (mkF m 197 #[.val (.int p0), .val (.int p1), .val (.int ((p0 &&& (2147483647 : Int32)) % (6 : Int32))), .val (.int (1 : Int32)), .val (.ref a_NOT_SUPPORTED), .val (.int (0 : Int32)), .val (.int (0 : Int32)), .val (.ref a_NONE)] [])) _
              refine XS.goto X93.here hx rfl (pc0 := 197) (pc' := 234) rfl (hb hby at_197) (by decide) (by decide) ?_
              show Steps p.tables e below (T93.setTop (mkF m 234 #[.val (.int p0), .val (.int p1), .val (.int ((p0 &&& (2147483647 : Int32)) % (6 : Int32))), .val (.int (1 : Int32)), .val (.ref a_NOT_SUPPORTED), .val (.int (0 : Int32)), .val (.int (0 : Int32)), .val (.ref a_NONE)] [])) _
              refine XS.aload X93.here hx rfl (hb hby at_234) rfl rfl ?_
              show Steps p.tables e below (T93.setTop (mkF m 236 #[.val (.int p0), .val (.int p1), .val (.int ((p0 &&& (2147483647 : Int32)) % (6 : Int32))), .val (.int (1 : Int32)), .val (.ref a_NOT_SUPPORTED), .val (.int (0 : Int32)), .val (.int (0 : Int32)), .val (.ref a_NONE)] [(.ref a_NOT_SUPPORTED)])) _
              refine XS.iloadN X93.here hx rfl (hb hby at_236) rfl ?_
              show Steps p.tables e below (T93.setTop (mkF m 237 #[.val (.int p0), .val (.int p1), .val (.int ((p0 &&& (2147483647 : Int32)) % (6 : Int32))), .val (.int (1 : Int32)), .val (.ref a_NOT_SUPPORTED), .val (.int (0 : Int32)), .val (.int (0 : Int32)), .val (.ref a_NONE)] [(.int (1 : Int32)), (.ref a_NOT_SUPPORTED)])) _
              refine st94 _ ?_
              show Steps p.tables e below (T94.setTop (mkF m 240 #[.val (.int p0), .val (.int p1), .val (.int ((p0 &&& (2147483647 : Int32)) % (6 : Int32))), .val (.int (1 : Int32)), .val (.ref a_NOT_SUPPORTED), .val (.int (0 : Int32)), .val (.int (0 : Int32)), .val (.ref a_NONE)] [(.ref a_NONE)])) _
              refine XS.aload X94.here hx rfl (hb hby at_240) rfl rfl ?_
              show Steps p.tables e below (T94.setTop (mkF m 242 #[.val (.int p0), .val (.int p1), .val (.int ((p0 &&& (2147483647 : Int32)) % (6 : Int32))), .val (.int (1 : Int32)), .val (.ref a_NOT_SUPPORTED), .val (.int (0 : Int32)), .val (.int (0 : Int32)), .val (.ref a_NONE)] [(.ref a_NONE), (.ref a_NONE)])) _
              refine Jvm.RoadKit.acmp (g := (mkF m 242 #[.val (.int p0), .val (.int p1), .val (.int ((p0 &&& (2147483647 : Int32)) % (6 : Int32))), .val (.int (1 : Int32)), .val (.ref a_NOT_SUPPORTED), .val (.int (0 : Int32)), .val (.int (0 : Int32)), .val (.ref a_NONE)] [(.ref a_NONE), (.ref a_NONE)])) X94 hx rfl rfl rfl (pc0 := 242) (pc' := 245) (same := true) rfl (hb hby at_242) rfl (decide_eq_true rfl) (by decide) (by decide) ?_
              show Steps p.tables e below (T94.setTop (mkF m 245 #[.val (.int p0), .val (.int p1), .val (.int ((p0 &&& (2147483647 : Int32)) % (6 : Int32))), .val (.int (1 : Int32)), .val (.ref a_NOT_SUPPORTED), .val (.int (0 : Int32)), .val (.int (0 : Int32)), .val (.ref a_NONE)] [])) _
              refine XS.iconst X94.here hx rfl (hb hby at_245) ?_
              show Steps p.tables e below (T94.setTop (mkF m 246 #[.val (.int p0), .val (.int p1), .val (.int ((p0 &&& (2147483647 : Int32)) % (6 : Int32))), .val (.int (1 : Int32)), .val (.ref a_NOT_SUPPORTED), .val (.int (0 : Int32)), .val (.int (0 : Int32)), .val (.ref a_NONE)] [(.int (1 : Int32))])) _
              refine XS.goto X94.here hx rfl (pc0 := 246) (pc' := 250) rfl (hb hby at_246) (by decide) (by decide) ?_
              show Steps p.tables e below (T94.setTop (mkF m 250 #[.val (.int p0), .val (.int p1), .val (.int ((p0 &&& (2147483647 : Int32)) % (6 : Int32))), .val (.int (1 : Int32)), .val (.ref a_NOT_SUPPORTED), .val (.int (0 : Int32)), .val (.int (0 : Int32)), .val (.ref a_NONE)] [(.int (1 : Int32))])) _
              exact retN X94 hx (t := .boolean) Bd.returns (by simp) (hb hby at_250) hr
            · show Q0 n0 _ T94.heap _
              rw [e94]
              exact ⟨rfl, N94⟩
          · have gp95 : ∀ t, Steps p.tables e below (s₁.setTop (mkF m 73 #[.val (.int p0), .val (.int p1), .val (.int ((p0 &&& (2147483647 : Int32)) % (6 : Int32))), .val (.int (1 : Int32)), .unset, .unset, .unset, .unset] [(.int (4 : Int32)), (.int ((p0 &&& (2147483647 : Int32)) % (6 : Int32)))])) t → Steps p.tables e below (s₁.setTop (entryFrame m #[(.int p0), (.int p1)] maxLocals)) t := fun t kt => gp84 t (by
              refine XS.icmpYes X0.here hx rfl (pc0 := 60) (pc' := 71) rfl (hb hby at_60) rfl (feq hc60).2 (by decide) (by decide) ?_
              show Steps p.tables e below (s₁.setTop (mkF m 71 #[.val (.int p0), .val (.int p1), .val (.int ((p0 &&& (2147483647 : Int32)) % (6 : Int32))), .val (.int (1 : Int32)), .unset, .unset, .unset, .unset] [])) _
              refine XS.iloadN X0.here hx rfl (hb hby at_71) rfl ?_
              show Steps p.tables e below (s₁.setTop (mkF m 72 #[.val (.int p0), .val (.int p1), .val (.int ((p0 &&& (2147483647 : Int32)) % (6 : Int32))), .val (.int (1 : Int32)), .unset, .unset, .unset, .unset] [(.int ((p0 &&& (2147483647 : Int32)) % (6 : Int32)))])) _
              refine XS.iconst X0.here hx rfl (hb hby at_72) ?_
              show Steps p.tables e below (s₁.setTop (mkF m 73 #[.val (.int p0), .val (.int p1), .val (.int ((p0 &&& (2147483647 : Int32)) % (6 : Int32))), .val (.int (1 : Int32)), .unset, .unset, .unset, .unset] [(.int (4 : Int32)), (.int ((p0 &&& (2147483647 : Int32)) % (6 : Int32)))])) _
              exact kt)
            by_cases hc73 : ((p0 &&& (2147483647 : Int32)) % (6 : Int32)) = (4 : Int32)
            · obtain ⟨T96, X96, e96, st96⟩ := getS2 X0 hx hZ hown (host := "") (Or.inl (hw _ (List.mem_of_getElem? (i := 32) rfl))) Via.refl e0 (hS.2.2.2.2.2.2.2.2.2.2.2.2.2.2.2.2.2.2.1.ext O0.2) (g := (mkF m 76 #[.val (.int p0), .val (.int p1), .val (.int ((p0 &&& (2147483647 : Int32)) % (6 : Int32))), .val (.int (1 : Int32)), .unset, .unset, .unset, .unset] [])) rfl (hb hby at_76)
              obtain ⟨T97, X97, e97, st97⟩ := getS2 X96 hx hZ hown (host := "") (Or.inl (hw _ (List.mem_of_getElem? (i := 1) rfl))) Via.refl e96 (hS.2.1.ext O0.2) (g := (mkF m 91 #[.val (.int p0), .val (.int p1), .val (.int ((p0 &&& (2147483647 : Int32)) % (6 : Int32))), .val (.int (1 : Int32)), .val (.ref a_SUPPORTS), .unset, .unset, .unset] [(.ref a_SUPPORTS)])) rfl (hb hby at_91)
              obtain ⟨T98, X98, e98, st98⟩ := getS2 X97 hx hZ hown (host := "") (Or.inl (hw _ (List.mem_of_getElem? (i := 25) rfl))) Via.refl e97 (hS.2.2.2.2.2.2.2.2.2.2.1.ext O0.2) (g := (mkF m 99 #[.val (.int p0), .val (.int p1), .val (.int ((p0 &&& (2147483647 : Int32)) % (6 : Int32))), .val (.int (1 : Int32)), .val (.ref a_SUPPORTS), .unset, .unset, .unset] [(.ref a_SUPPORTS)])) rfl (hb hby at_99)
              obtain ⟨T99, X99, e99, st99⟩ := getS2 X98 hx hZ hown (host := "") (Or.inl (hw _ (List.mem_of_getElem? (i := 32) rfl))) Via.refl e98 (hS.2.2.2.2.2.2.2.2.2.2.2.2.2.2.2.2.2.2.1.ext O0.2) (g := (mkF m 107 #[.val (.int p0), .val (.int p1), .val (.int ((p0 &&& (2147483647 : Int32)) % (6 : Int32))), .val (.int (1 : Int32)), .val (.ref a_SUPPORTS), .unset, .unset, .unset] [(.ref a_SUPPORTS)])) rfl (hb hby at_107)
              obtain ⟨T100, X100, e100, st100⟩ := getS2 X99 hx hZ hown (host := "") (Or.inl (hw _ (List.mem_of_getElem? (i := 1) rfl))) Via.refl e99 (hS.2.1.ext O0.2) (g := (mkF m 122 #[.val (.int p0), .val (.int p1), .val (.int ((p0 &&& (2147483647 : Int32)) % (6 : Int32))), .val (.int (1 : Int32)), .val (.ref a_SUPPORTS), .val (.int (1 : Int32)), .unset, .unset] [(.ref a_SUPPORTS)])) rfl (hb hby at_122)
              obtain ⟨T101, X101, e101, st101⟩ := getS2 X100 hx hZ hown (host := "") (Or.inl (hw _ (List.mem_of_getElem? (i := 27) rfl))) Via.refl e100 (hS.2.2.2.2.2.2.2.2.2.2.2.2.2.1.ext O0.2) (g := (mkF m 130 #[.val (.int p0), .val (.int p1), .val (.int ((p0 &&& (2147483647 : Int32)) % (6 : Int32))), .val (.int (1 : Int32)), .val (.ref a_SUPPORTS), .val (.int (1 : Int32)), .unset, .unset] [(.ref a_SUPPORTS)])) rfl (hb hby at_130)
              obtain ⟨T102, X102, e102, st102⟩ := getS2 X101 hx hZ hown (host := "") (Or.inl (hw _ (List.mem_of_getElem? (i := 4) rfl))) Via.refl e101 (hS.2.2.2.1.ext O0.2) (g := (mkF m 149 #[.val (.int p0), .val (.int p1), .val (.int ((p0 &&& (2147483647 : Int32)) % (6 : Int32))), .val (.int (1 : Int32)), .val (.ref a_SUPPORTS), .val (.int (1 : Int32)), .val (.int (0 : Int32)), .unset] [(.ref a_SUPPORTS)])) rfl (hb hby at_149)
              obtain ⟨T103, X103, e103, st103⟩ := getS2 X102 hx hZ hown (host := "") (Or.inl (hw _ (List.mem_of_getElem? (i := 6) rfl))) Via.refl e102 (hS.2.2.2.2.2.2.2.1.ext O0.2) (g := (mkF m 168 #[.val (.int p0), .val (.int p1), .val (.int ((p0 &&& (2147483647 : Int32)) % (6 : Int32))), .val (.int (1 : Int32)), .val (.ref a_SUPPORTS), .val (.int (1 : Int32)), .val (.int (0 : Int32)), .unset] [])) rfl (hb hby at_168)
              obtain ⟨_, _, ⟨T104, L104, k104, n104⟩, -, X104, ⟨Lc104, hQ104, l104, y104, z104⟩, st104⟩ := Jvm.LawKit.callS X103 hx (y := (⟨"com/example/demarc/demarc/Placement", "of", "(Lcom/example/demarc/demarc/TransactionAttributeType;Z)Lcom/example/demarc/demarc/Placement;"⟩ : MethodName)) hown (mvT hZ (hw _ (List.mem_of_getElem? (i := 9) rfl))) (mvT hZ (hw _ (List.mem_of_getElem? (i := 10) rfl))) (mvT hZ (hw _ (List.mem_of_getElem? (i := 7) rfl))) (mvT hZ (hw _ (List.mem_of_getElem? (i := 11) rfl))) (by decide) (backOf (W := 0) (rm_of_SUPPORTS_1 l Z a0 hw [] a_REQUIRED a_NEVER a_JOIN a__SwitchMap_com_example_demarc_demarc_TransactionAttributeType a_MANDATORY a_REQUIRES_NEW a_REFUSED a_SUPPORTS a_NONE a_NEW a_NOT_SUPPORTED k_a__SwitchMap_com_example_demarc_demarc_TransactionAttributeType hS h0 n0 O0) hZ (hw _ (List.mem_of_getElem? (i := 11) rfl)) (hw _ (List.mem_of_getElem? (i := 7) rfl)) (by decide) (by decide)) (g := (mkF m 237 #[.val (.int p0), .val (.int p1), .val (.int ((p0 &&& (2147483647 : Int32)) % (6 : Int32))), .val (.int (1 : Int32)), .val (.ref a_SUPPORTS), .val (.int (1 : Int32)), .val (.int (0 : Int32)), .val (.ref a_JOIN)] [(.int (1 : Int32)), (.ref a_SUPPORTS)])) rfl (by rw [hml]; rfl) (argsL := [(.ref a_SUPPORTS), (.int (1 : Int32))]) (rest := []) (lenOf pd_1 rfl) rfl (by show 2 * 0 + _ ≤ _; exact Nat.le_of_eq rfl) (hb hby at_237) (fun _ _ => ⟨rfl, e103, (by decide : 0 + 0 ≤ _), (by decide : 0 + 0 ≤ _)⟩)
              dsimp only [Pt.U, Pt.locs, Pt.cells, Pt.slots] at X104 l104 y104 z104 st104 hQ104
              subst l104 y104 z104
              obtain ⟨rfl, N104q, e104⟩ := hQ104
              have N104 := Fr.app N0 N104q
              obtain ⟨fs, hr, hrun, hended, hW, hsame⟩ := X104.leave (v := (some (.int (1 : Int32)))) (fun h => by rw [Bd.returns] at h; cases h)
              refine ⟨_, _, gp95 _ ?_, hrun, hended, _, _, rfl, ?_, ⟨_, rfl⟩, hW, hsame.mono (by decide) (by decide)⟩
              · refine XS.icmpNo X0.here hx rfl (hb hby at_73) rfl (teq hc73).2 ?_
                show Steps p.tables e below (s₁.setTop (mkF m 76 #[.val (.int p0), .val (.int p1), .val (.int ((p0 &&& (2147483647 : Int32)) % (6 : Int32))), .val (.int (1 : Int32)), .unset, .unset, .unset, .unset] [])) _
                refine st96 _ ?_
                show Steps p.tables e below (T96.setTop (mkF m 79 #[.val (.int p0), .val (.int p1), .val (.int ((p0 &&& (2147483647 : Int32)) % (6 : Int32))), .val (.int (1 : Int32)), .unset, .unset, .unset, .unset] [(.ref a_SUPPORTS)])) _
                refine XS.astore X96.here hx rfl (hb hby at_79) rfl rfl (l' := #[.val (.int p0), .val (.int p1), .val (.int ((p0 &&& (2147483647 : Int32)) % (6 : Int32))), .val (.int (1 : Int32)), .val (.ref a_SUPPORTS), .unset, .unset, .unset]) rfl ?_
                show Steps p.tables e below (T96.setTop (mkF m 81 #[.val (.int p0), .val (.int p1), .val (.int ((p0 &&& (2147483647 : Int32)) % (6 : Int32))), .val (.int (1 : Int32)), .val (.ref a_SUPPORTS), .unset, .unset, .unset] [])) _
                refine XS.goto X96.here hx rfl (pc0 := 81) (pc' := 89) rfl (hb hby at_81) (by decide) (by decide) ?_
                show Steps p.tables e below (T96.setTop (mkF m 89 #[.val (.int p0), .val (.int p1), .val (.int ((p0 &&& (2147483647 : Int32)) % (6 : Int32))), .val (.int (1 : Int32)), .val (.ref a_SUPPORTS), .unset, .unset, .unset] [])) _
                refine XS.aload X96.here hx rfl (hb hby at_89) rfl rfl ?_
                show Steps p.tables e below (T96.setTop (mkF m 91 #[.val (.int p0), .val (.int p1), .val (.int ((p0 &&& (2147483647 : Int32)) % (6 : Int32))), .val (.int (1 : Int32)), .val (.ref a_SUPPORTS), .unset, .unset, .unset] [(.ref a_SUPPORTS)])) _
                refine st97 _ ?_
                show Steps p.tables e below (T97.setTop (mkF m 94 #[.val (.int p0), .val (.int p1), .val (.int ((p0 &&& (2147483647 : Int32)) % (6 : Int32))), .val (.int (1 : Int32)), .val (.ref a_SUPPORTS), .unset, .unset, .unset] [(.ref a_REQUIRED), (.ref a_SUPPORTS)])) _
                refine Jvm.RoadKit.acmp (g := (mkF m 94 #[.val (.int p0), .val (.int p1), .val (.int ((p0 &&& (2147483647 : Int32)) % (6 : Int32))), .val (.int (1 : Int32)), .val (.ref a_SUPPORTS), .unset, .unset, .unset] [(.ref a_REQUIRED), (.ref a_SUPPORTS)])) X97 hx rfl rfl rfl (pc0 := 94) (pc' := 97) (same := false) rfl (hb hby at_94) rfl (decide_eq_false fun q => (Fld.ne hS.2.2.2.2.2.2.2.2.2.2.2.2.2.2.2.2.2.2.2.1 hS.2.2.2.2.1 (fun q => absurd (Value.int.inj q) (by decide))) (Value.ref.inj q)) (by decide) (by decide) ?_
                show Steps p.tables e below (T97.setTop (mkF m 97 #[.val (.int p0), .val (.int p1), .val (.int ((p0 &&& (2147483647 : Int32)) % (6 : Int32))), .val (.int (1 : Int32)), .val (.ref a_SUPPORTS), .unset, .unset, .unset] [])) _
                refine XS.aload X97.here hx rfl (hb hby at_97) rfl rfl ?_
                show Steps p.tables e below (T97.setTop (mkF m 99 #[.val (.int p0), .val (.int p1), .val (.int ((p0 &&& (2147483647 : Int32)) % (6 : Int32))), .val (.int (1 : Int32)), .val (.ref a_SUPPORTS), .unset, .unset, .unset] [(.ref a_SUPPORTS)])) _
                refine st98 _ ?_
                show Steps p.tables e below (T98.setTop (mkF m 102 #[.val (.int p0), .val (.int p1), .val (.int ((p0 &&& (2147483647 : Int32)) % (6 : Int32))), .val (.int (1 : Int32)), .val (.ref a_SUPPORTS), .unset, .unset, .unset] [(.ref a_MANDATORY), (.ref a_SUPPORTS)])) _
                refine Jvm.RoadKit.acmp (g := (mkF m 102 #[.val (.int p0), .val (.int p1), .val (.int ((p0 &&& (2147483647 : Int32)) % (6 : Int32))), .val (.int (1 : Int32)), .val (.ref a_SUPPORTS), .unset, .unset, .unset] [(.ref a_MANDATORY), (.ref a_SUPPORTS)])) X98 hx rfl rfl rfl (pc0 := 102) (pc' := 105) (same := false) rfl (hb hby at_102) rfl (decide_eq_false fun q => (Fld.ne hS.2.2.2.2.2.2.2.2.2.2.2.2.2.2.2.2.2.2.2.1 hS.2.2.2.2.2.2.2.2.2.2.2.1 (fun q => absurd (Value.int.inj q) (by decide))) (Value.ref.inj q)) (by decide) (by decide) ?_
                show Steps p.tables e below (T98.setTop (mkF m 105 #[.val (.int p0), .val (.int p1), .val (.int ((p0 &&& (2147483647 : Int32)) % (6 : Int32))), .val (.int (1 : Int32)), .val (.ref a_SUPPORTS), .unset, .unset, .unset] [])) _
                refine XS.aload X98.here hx rfl (hb hby at_105) rfl rfl ?_
                show Steps p.tables e below (T98.setTop (mkF m 107 #[.val (.int p0), .val (.int p1), .val (.int ((p0 &&& (2147483647 : Int32)) % (6 : Int32))), .val (.int (1 : Int32)), .val (.ref a_SUPPORTS), .unset, .unset, .unset] [(.ref a_SUPPORTS)])) _
                refine st99 _ ?_
                show Steps p.tables e below (T99.setTop (mkF m 110 #[.val (.int p0), .val (.int p1), .val (.int ((p0 &&& (2147483647 : Int32)) % (6 : Int32))), .val (.int (1 : Int32)), .val (.ref a_SUPPORTS), .unset, .unset, .unset] [(.ref a_SUPPORTS), (.ref a_SUPPORTS)])) _
                refine Jvm.RoadKit.acmp (g := (mkF m 110 #[.val (.int p0), .val (.int p1), .val (.int ((p0 &&& (2147483647 : Int32)) % (6 : Int32))), .val (.int (1 : Int32)), .val (.ref a_SUPPORTS), .unset, .unset, .unset] [(.ref a_SUPPORTS), (.ref a_SUPPORTS)])) X99 hx rfl rfl rfl (pc0 := 110) (pc' := 113) (same := true) rfl (hb hby at_110) rfl (decide_eq_true rfl) (by decide) (by decide) ?_
                show Steps p.tables e below (T99.setTop (mkF m 113 #[.val (.int p0), .val (.int p1), .val (.int ((p0 &&& (2147483647 : Int32)) % (6 : Int32))), .val (.int (1 : Int32)), .val (.ref a_SUPPORTS), .unset, .unset, .unset] [])) _
                refine XS.iconst X99.here hx rfl (hb hby at_113) ?_
                show Steps p.tables e below (T99.setTop (mkF m 114 #[.val (.int p0), .val (.int p1), .val (.int ((p0 &&& (2147483647 : Int32)) % (6 : Int32))), .val (.int (1 : Int32)), .val (.ref a_SUPPORTS), .unset, .unset, .unset] [(.int (1 : Int32))])) _
                refine XS.goto X99.here hx rfl (pc0 := 114) (pc' := 118) rfl (hb hby at_114) (by decide) (by decide) ?_
                show Steps p.tables e below (T99.setTop (mkF m 118 #[.val (.int p0), .val (.int p1), .val (.int ((p0 &&& (2147483647 : Int32)) % (6 : Int32))), .val (.int (1 : Int32)), .val (.ref a_SUPPORTS), .unset, .unset, .unset] [(.int (1 : Int32))])) _
                refine XS.istore X99.here hx rfl (hb hby at_118) rfl (l' := #[.val (.int p0), .val (.int p1), .val (.int ((p0 &&& (2147483647 : Int32)) % (6 : Int32))), .val (.int (1 : Int32)), .val (.ref a_SUPPORTS), .val (.int (1 : Int32)), .unset, .unset]) rfl ?_
                show Steps p.tables e below (T99.setTop (mkF m 120 #[.val (.int p0), .val (.int p1), .val (.int ((p0 &&& (2147483647 : Int32)) % (6 : Int32))), .val (.int (1 : Int32)), .val (.ref a_SUPPORTS), .val (.int (1 : Int32)), .unset, .unset] [])) _
                refine XS.aload X99.here hx rfl (hb hby at_120) rfl rfl ?_
                show Steps p.tables e below (T99.setTop (mkF m 122 #[.val (.int p0), .val (.int p1), .val (.int ((p0 &&& (2147483647 : Int32)) % (6 : Int32))), .val (.int (1 : Int32)), .val (.ref a_SUPPORTS), .val (.int (1 : Int32)), .unset, .unset] [(.ref a_SUPPORTS)])) _
                refine st100 _ ?_
                show Steps p.tables e below (T100.setTop (mkF m 125 #[.val (.int p0), .val (.int p1), .val (.int ((p0 &&& (2147483647 : Int32)) % (6 : Int32))), .val (.int (1 : Int32)), .val (.ref a_SUPPORTS), .val (.int (1 : Int32)), .unset, .unset] [(.ref a_REQUIRED), (.ref a_SUPPORTS)])) _
                refine Jvm.RoadKit.acmp (g := (mkF m 125 #[.val (.int p0), .val (.int p1), .val (.int ((p0 &&& (2147483647 : Int32)) % (6 : Int32))), .val (.int (1 : Int32)), .val (.ref a_SUPPORTS), .val (.int (1 : Int32)), .unset, .unset] [(.ref a_REQUIRED), (.ref a_SUPPORTS)])) X100 hx rfl rfl rfl (pc0 := 125) (pc' := 128) (same := false) rfl (hb hby at_125) rfl (decide_eq_false fun q => (Fld.ne hS.2.2.2.2.2.2.2.2.2.2.2.2.2.2.2.2.2.2.2.1 hS.2.2.2.2.1 (fun q => absurd (Value.int.inj q) (by decide))) (Value.ref.inj q)) (by decide) (by decide) ?_
                show Steps p.tables e below (T100.setTop (mkF m 128 #[.val (.int p0), .val (.int p1), .val (.int ((p0 &&& (2147483647 : Int32)) % (6 : Int32))), .val (.int (1 : Int32)), .val (.ref a_SUPPORTS), .val (.int (1 : Int32)), .unset, .unset] [])) _
                refine XS.aload X100.here hx rfl (hb hby at_128) rfl rfl ?_
                show Steps p.tables e below (T100.setTop (mkF m 130 #[.val (.int p0), .val (.int p1), .val (.int ((p0 &&& (2147483647 : Int32)) % (6 : Int32))), .val (.int (1 : Int32)), .val (.ref a_SUPPORTS), .val (.int (1 : Int32)), .unset, .unset] [(.ref a_SUPPORTS)])) _
                refine st101 _ ?_
                show Steps p.tables e below (T101.setTop (mkF m 133 #[.val (.int p0), .val (.int p1), .val (.int ((p0 &&& (2147483647 : Int32)) % (6 : Int32))), .val (.int (1 : Int32)), .val (.ref a_SUPPORTS), .val (.int (1 : Int32)), .unset, .unset] [(.ref a_REQUIRES_NEW), (.ref a_SUPPORTS)])) _
                refine Jvm.RoadKit.acmp (g := (mkF m 133 #[.val (.int p0), .val (.int p1), .val (.int ((p0 &&& (2147483647 : Int32)) % (6 : Int32))), .val (.int (1 : Int32)), .val (.ref a_SUPPORTS), .val (.int (1 : Int32)), .unset, .unset] [(.ref a_REQUIRES_NEW), (.ref a_SUPPORTS)])) X101 hx rfl rfl rfl (pc0 := 133) (pc' := 140) (same := false) rfl (hb hby at_133) rfl (decide_eq_false fun q => (Fld.ne hS.2.2.2.2.2.2.2.2.2.2.2.2.2.2.2.2.2.2.2.1 hS.2.2.2.2.2.2.2.2.2.2.2.2.2.2.1 (fun q => absurd (Value.int.inj q) (by decide))) (Value.ref.inj q)) (by decide) (by decide) ?_
                show Steps p.tables e below (T101.setTop (mkF m 140 #[.val (.int p0), .val (.int p1), .val (.int ((p0 &&& (2147483647 : Int32)) % (6 : Int32))), .val (.int (1 : Int32)), .val (.ref a_SUPPORTS), .val (.int (1 : Int32)), .unset, .unset] [])) _
                refine XS.iconst X101.here hx rfl (hb hby at_140) ?_
                show Steps p.tables e below (T101.setTop (mkF m 141 #[.val (.int p0), .val (.int p1), .val (.int ((p0 &&& (2147483647 : Int32)) % (6 : Int32))), .val (.int (1 : Int32)), .val (.ref a_SUPPORTS), .val (.int (1 : Int32)), .unset, .unset] [(.int (0 : Int32))])) _
                refine XS.istore X101.here hx rfl (hb hby at_141) rfl (l' := #[.val (.int p0), .val (.int p1), .val (.int ((p0 &&& (2147483647 : Int32)) % (6 : Int32))), .val (.int (1 : Int32)), .val (.ref a_SUPPORTS), .val (.int (1 : Int32)), .val (.int (0 : Int32)), .unset]) rfl ?_
                show Steps p.tables e below (T101.setTop (mkF m 143 #[.val (.int p0), .val (.int p1), .val (.int ((p0 &&& (2147483647 : Int32)) % (6 : Int32))), .val (.int (1 : Int32)), .val (.ref a_SUPPORTS), .val (.int (1 : Int32)), .val (.int (0 : Int32)), .unset] [])) _
                refine XS.iloadN X101.here hx rfl (hb hby at_143) rfl ?_
                show Steps p.tables e below (T101.setTop (mkF m 144 #[.val (.int p0), .val (.int p1), .val (.int ((p0 &&& (2147483647 : Int32)) % (6 : Int32))), .val (.int (1 : Int32)), .val (.ref a_SUPPORTS), .val (.int (1 : Int32)), .val (.int (0 : Int32)), .unset] [(.int (1 : Int32))])) _
                refine XS.ifNo X101.here hx rfl (hb hby at_144) rfl ((if0 _ _).trans (feq (by decide : ¬ ((1 : Int32) = (0 : Int32)))).1) ?_
                show Steps p.tables e below (T101.setTop (mkF m 147 #[.val (.int p0), .val (.int p1), .val (.int ((p0 &&& (2147483647 : Int32)) % (6 : Int32))), .val (.int (1 : Int32)), .val (.ref a_SUPPORTS), .val (.int (1 : Int32)), .val (.int (0 : Int32)), .unset] [])) _
                refine XS.aload X101.here hx rfl (hb hby at_147) rfl rfl ?_
                show Steps p.tables e below (T101.setTop (mkF m 149 #[.val (.int p0), .val (.int p1), .val (.int ((p0 &&& (2147483647 : Int32)) % (6 : Int32))), .val (.int (1 : Int32)), .val (.ref a_SUPPORTS), .val (.int (1 : Int32)), .val (.int (0 : Int32)), .unset] [(.ref a_SUPPORTS)])) _
                refine st102 _ ?_
                show Steps p.tables e below (T102.setTop (mkF m 152 #[.val (.int p0), .val (.int p1), .val (.int ((p0 &&& (2147483647 : Int32)) % (6 : Int32))), .val (.int (1 : Int32)), .val (.ref a_SUPPORTS), .val (.int (1 : Int32)), .val (.int (0 : Int32)), .unset] [(.ref a_NEVER), (.ref a_SUPPORTS)])) _
                refine Jvm.RoadKit.acmp (g := (mkF m 152 #[.val (.int p0), .val (.int p1), .val (.int ((p0 &&& (2147483647 : Int32)) % (6 : Int32))), .val (.int (1 : Int32)), .val (.ref a_SUPPORTS), .val (.int (1 : Int32)), .val (.int (0 : Int32)), .unset] [(.ref a_NEVER), (.ref a_SUPPORTS)])) X102 hx rfl rfl rfl (pc0 := 152) (pc' := 163) (same := false) rfl (hb hby at_152) rfl (decide_eq_false fun q => (Fld.ne hS.2.2.2.2.2.2.2.2.2.2.2.2.2.2.2.2.2.2.2.1 hS.2.2.2.2.2.1 (fun q => absurd (Value.int.inj q) (by decide))) (Value.ref.inj q)) (by decide) (by decide) ?_
                show Steps p.tables e below (T102.setTop (mkF m 163 #[.val (.int p0), .val (.int p1), .val (.int ((p0 &&& (2147483647 : Int32)) % (6 : Int32))), .val (.int (1 : Int32)), .val (.ref a_SUPPORTS), .val (.int (1 : Int32)), .val (.int (0 : Int32)), .unset] [])) _
                refine XS.iload X102.here hx rfl (hb hby at_163) rfl ?_
                show Steps p.tables e below (T102.setTop (mkF m 165 #[.val (.int p0), .val (.int p1), .val (.int ((p0 &&& (2147483647 : Int32)) % (6 : Int32))), .val (.int (1 : Int32)), .val (.ref a_SUPPORTS), .val (.int (1 : Int32)), .val (.int (0 : Int32)), .unset] [(.int (1 : Int32))])) _
                refine XS.ifNo X102.here hx rfl (hb hby at_165) rfl ((if0 _ _).trans (feq (by decide : ¬ ((1 : Int32) = (0 : Int32)))).1) ?_
                show Steps p.tables e below (T102.setTop (mkF m 168 #[.val (.int p0), .val (.int p1), .val (.int ((p0 &&& (2147483647 : Int32)) % (6 : Int32))), .val (.int (1 : Int32)), .val (.ref a_SUPPORTS), .val (.int (1 : Int32)), .val (.int (0 : Int32)), .unset] [])) _
                refine st103 _ ?_
                show Steps p.tables e below (T103.setTop (mkF m 171 #[.val (.int p0), .val (.int p1), .val (.int ((p0 &&& (2147483647 : Int32)) % (6 : Int32))), .val (.int (1 : Int32)), .val (.ref a_SUPPORTS), .val (.int (1 : Int32)), .val (.int (0 : Int32)), .unset] [(.ref a_JOIN)])) _
                refine XS.astore X103.here hx rfl (hb hby at_171) rfl rfl (l' := #[.val (.int p0), .val (.int p1), .val (.int ((p0 &&& (2147483647 : Int32)) % (6 : Int32))), .val (.int (1 : Int32)), .val (.ref a_SUPPORTS), .val (.int (1 : Int32)), .val (.int (0 : Int32)), .val (.ref a_JOIN)]) rfl ?_
                show Steps p.tables e below (T103.setTop (mkF m 173 #[.val (.int p0), .val (.int p1), .val (.int ((p0 &&& (2147483647 : Int32)) % (6 : Int32))), .val (.int (1 : Int32)), .val (.ref a_SUPPORTS), .val (.int (1 : Int32)), .val (.int (0 : Int32)), .val (.ref a_JOIN)] [])) _
                refine XS.goto X103.here hx rfl (pc0 := 173) (pc' := 234) rfl (hb hby at_173) (by decide) (by decide) ?_
                show Steps p.tables e below (T103.setTop (mkF m 234 #[.val (.int p0), .val (.int p1), .val (.int ((p0 &&& (2147483647 : Int32)) % (6 : Int32))), .val (.int (1 : Int32)), .val (.ref a_SUPPORTS), .val (.int (1 : Int32)), .val (.int (0 : Int32)), .val (.ref a_JOIN)] [])) _
                refine XS.aload X103.here hx rfl (hb hby at_234) rfl rfl ?_
                show Steps p.tables e below (T103.setTop (mkF m 236 #[.val (.int p0), .val (.int p1), .val (.int ((p0 &&& (2147483647 : Int32)) % (6 : Int32))), .val (.int (1 : Int32)), .val (.ref a_SUPPORTS), .val (.int (1 : Int32)), .val (.int (0 : Int32)), .val (.ref a_JOIN)] [(.ref a_SUPPORTS)])) _
                refine XS.iloadN X103.here hx rfl (hb hby at_236) rfl ?_
                show Steps p.tables e below (T103.setTop (mkF m 237 #[.val (.int p0), .val (.int p1), .val (.int ((p0 &&& (2147483647 : Int32)) % (6 : Int32))), .val (.int (1 : Int32)), .val (.ref a_SUPPORTS), .val (.int (1 : Int32)), .val (.int (0 : Int32)), .val (.ref a_JOIN)] [(.int (1 : Int32)), (.ref a_SUPPORTS)])) _
                refine st104 _ ?_
                show Steps p.tables e below (T104.setTop (mkF m 240 #[.val (.int p0), .val (.int p1), .val (.int ((p0 &&& (2147483647 : Int32)) % (6 : Int32))), .val (.int (1 : Int32)), .val (.ref a_SUPPORTS), .val (.int (1 : Int32)), .val (.int (0 : Int32)), .val (.ref a_JOIN)] [(.ref a_JOIN)])) _
                refine XS.aload X104.here hx rfl (hb hby at_240) rfl rfl ?_
                show Steps p.tables e below (T104.setTop (mkF m 242 #[.val (.int p0), .val (.int p1), .val (.int ((p0 &&& (2147483647 : Int32)) % (6 : Int32))), .val (.int (1 : Int32)), .val (.ref a_SUPPORTS), .val (.int (1 : Int32)), .val (.int (0 : Int32)), .val (.ref a_JOIN)] [(.ref a_JOIN), (.ref a_JOIN)])) _
                refine Jvm.RoadKit.acmp (g := (mkF m 242 #[.val (.int p0), .val (.int p1), .val (.int ((p0 &&& (2147483647 : Int32)) % (6 : Int32))), .val (.int (1 : Int32)), .val (.ref a_SUPPORTS), .val (.int (1 : Int32)), .val (.int (0 : Int32)), .val (.ref a_JOIN)] [(.ref a_JOIN), (.ref a_JOIN)])) X104 hx rfl rfl rfl (pc0 := 242) (pc' := 245) (same := true) rfl (hb hby at_242) rfl (decide_eq_true rfl) (by decide) (by decide) ?_
                show Steps p.tables e below (T104.setTop (mkF m 245 #[.val (.int p0), .val (.int p1), .val (.int ((p0 &&& (2147483647 : Int32)) % (6 : Int32))), .val (.int (1 : Int32)), .val (.ref a_SUPPORTS), .val (.int (1 : Int32)), .val (.int (0 : Int32)), .val (.ref a_JOIN)] [])) _
                refine XS.iconst X104.here hx rfl (hb hby at_245) ?_
                show Steps p.tables e below (T104.setTop (mkF m 246 #[.val (.int p0), .val (.int p1), .val (.int ((p0 &&& (2147483647 : Int32)) % (6 : Int32))), .val (.int (1 : Int32)), .val (.ref a_SUPPORTS), .val (.int (1 : Int32)), .val (.int (0 : Int32)), .val (.ref a_JOIN)] [(.int (1 : Int32))])) _
                refine XS.goto X104.here hx rfl (pc0 := 246) (pc' := 250) rfl (hb hby at_246) (by decide) (by decide) ?_
                show Steps p.tables e below (T104.setTop (mkF m 250 #[.val (.int p0), .val (.int p1), .val (.int ((p0 &&& (2147483647 : Int32)) % (6 : Int32))), .val (.int (1 : Int32)), .val (.ref a_SUPPORTS), .val (.int (1 : Int32)), .val (.int (0 : Int32)), .val (.ref a_JOIN)] [(.int (1 : Int32))])) _
                exact retN X104 hx (t := .boolean) Bd.returns (by simp) (hb hby at_250) hr
              · show Q0 n0 _ T104.heap _
                rw [e104]
                exact ⟨rfl, N104⟩
            · obtain ⟨T105, X105, e105, st105⟩ := getS2 X0 hx hZ hown (host := "") (Or.inl (hw _ (List.mem_of_getElem? (i := 4) rfl))) Via.refl e0 (hS.2.2.2.1.ext O0.2) (g := (mkF m 84 #[.val (.int p0), .val (.int p1), .val (.int ((p0 &&& (2147483647 : Int32)) % (6 : Int32))), .val (.int (1 : Int32)), .unset, .unset, .unset, .unset] [])) rfl (hb hby at_84)
              obtain ⟨T106, X106, e106, st106⟩ := getS2 X105 hx hZ hown (host := "") (Or.inl (hw _ (List.mem_of_getElem? (i := 1) rfl))) Via.refl e105 (hS.2.1.ext O0.2) (g := (mkF m 91 #[.val (.int p0), .val (.int p1), .val (.int ((p0 &&& (2147483647 : Int32)) % (6 : Int32))), .val (.int (1 : Int32)), .val (.ref a_NEVER), .unset, .unset, .unset] [(.ref a_NEVER)])) rfl (hb hby at_91)
              obtain ⟨T107, X107, e107, st107⟩ := getS2 X106 hx hZ hown (host := "") (Or.inl (hw _ (List.mem_of_getElem? (i := 25) rfl))) Via.refl e106 (hS.2.2.2.2.2.2.2.2.2.2.1.ext O0.2) (g := (mkF m 99 #[.val (.int p0), .val (.int p1), .val (.int ((p0 &&& (2147483647 : Int32)) % (6 : Int32))), .val (.int (1 : Int32)), .val (.ref a_NEVER), .unset, .unset, .unset] [(.ref a_NEVER)])) rfl (hb hby at_99)
              obtain ⟨T108, X108, e108, st108⟩ := getS2 X107 hx hZ hown (host := "") (Or.inl (hw _ (List.mem_of_getElem? (i := 32) rfl))) Via.refl e107 (hS.2.2.2.2.2.2.2.2.2.2.2.2.2.2.2.2.2.2.1.ext O0.2) (g := (mkF m 107 #[.val (.int p0), .val (.int p1), .val (.int ((p0 &&& (2147483647 : Int32)) % (6 : Int32))), .val (.int (1 : Int32)), .val (.ref a_NEVER), .unset, .unset, .unset] [(.ref a_NEVER)])) rfl (hb hby at_107)
              obtain ⟨T109, X109, e109, st109⟩ := getS2 X108 hx hZ hown (host := "") (Or.inl (hw _ (List.mem_of_getElem? (i := 1) rfl))) Via.refl e108 (hS.2.1.ext O0.2) (g := (mkF m 122 #[.val (.int p0), .val (.int p1), .val (.int ((p0 &&& (2147483647 : Int32)) % (6 : Int32))), .val (.int (1 : Int32)), .val (.ref a_NEVER), .val (.int (0 : Int32)), .unset, .unset] [(.ref a_NEVER)])) rfl (hb hby at_122)
              obtain ⟨T110, X110, e110, st110⟩ := getS2 X109 hx hZ hown (host := "") (Or.inl (hw _ (List.mem_of_getElem? (i := 27) rfl))) Via.refl e109 (hS.2.2.2.2.2.2.2.2.2.2.2.2.2.1.ext O0.2) (g := (mkF m 130 #[.val (.int p0), .val (.int p1), .val (.int ((p0 &&& (2147483647 : Int32)) % (6 : Int32))), .val (.int (1 : Int32)), .val (.ref a_NEVER), .val (.int (0 : Int32)), .unset, .unset] [(.ref a_NEVER)])) rfl (hb hby at_130)
              obtain ⟨T111, X111, e111, st111⟩ := getS2 X110 hx hZ hown (host := "") (Or.inl (hw _ (List.mem_of_getElem? (i := 4) rfl))) Via.refl e110 (hS.2.2.2.1.ext O0.2) (g := (mkF m 149 #[.val (.int p0), .val (.int p1), .val (.int ((p0 &&& (2147483647 : Int32)) % (6 : Int32))), .val (.int (1 : Int32)), .val (.ref a_NEVER), .val (.int (0 : Int32)), .val (.int (0 : Int32)), .unset] [(.ref a_NEVER)])) rfl (hb hby at_149)
              obtain ⟨T112, X112, e112, st112⟩ := getS2 X111 hx hZ hown (host := "") (Or.inl (hw _ (List.mem_of_getElem? (i := 29) rfl))) Via.refl e111 (hS.2.2.2.2.2.2.2.2.2.2.2.2.2.2.2.2.1.ext O0.2) (g := (mkF m 155 #[.val (.int p0), .val (.int p1), .val (.int ((p0 &&& (2147483647 : Int32)) % (6 : Int32))), .val (.int (1 : Int32)), .val (.ref a_NEVER), .val (.int (0 : Int32)), .val (.int (0 : Int32)), .unset] [])) rfl (hb hby at_155)
              obtain ⟨_, _, ⟨T113, L113, k113, n113⟩, -, X113, ⟨Lc113, hQ113, l113, y113, z113⟩, st113⟩ := Jvm.LawKit.callS X112 hx (y := (⟨"com/example/demarc/demarc/Placement", "of", "(Lcom/example/demarc/demarc/TransactionAttributeType;Z)Lcom/example/demarc/demarc/Placement;"⟩ : MethodName)) hown (mvT hZ (hw _ (List.mem_of_getElem? (i := 9) rfl))) (mvT hZ (hw _ (List.mem_of_getElem? (i := 10) rfl))) (mvT hZ (hw _ (List.mem_of_getElem? (i := 7) rfl))) (mvT hZ (hw _ (List.mem_of_getElem? (i := 11) rfl))) (by decide) (backOf (W := 0) (rm_of_NEVER_1 l Z a0 hw [] a_REQUIRED a_NEVER a_JOIN a__SwitchMap_com_example_demarc_demarc_TransactionAttributeType a_MANDATORY a_REQUIRES_NEW a_REFUSED a_SUPPORTS a_NONE a_NEW a_NOT_SUPPORTED k_a__SwitchMap_com_example_demarc_demarc_TransactionAttributeType hS h0 n0 O0) hZ (hw _ (List.mem_of_getElem? (i := 11) rfl)) (hw _ (List.mem_of_getElem? (i := 7) rfl)) (by decide) (by decide)) (g := (mkF m 237 #[.val (.int p0), .val (.int p1), .val (.int ((p0 &&& (2147483647 : Int32)) % (6 : Int32))), .val (.int (1 : Int32)), .val (.ref a_NEVER), .val (.int (0 : Int32)), .val (.int (0 : Int32)), .val (.ref a_REFUSED)] [(.int (1 : Int32)), (.ref a_NEVER)])) rfl (by rw [hml]; rfl) (argsL := [(.ref a_NEVER), (.int (1 : Int32))]) (rest := []) (lenOf pd_1 rfl) rfl (by show 2 * 0 + _ ≤ _; exact Nat.le_of_eq rfl) (hb hby at_237) (fun _ _ => ⟨rfl, e112, (by decide : 0 + 0 ≤ _), (by decide : 0 + 0 ≤ _)⟩)
              dsimp only [Pt.U, Pt.locs, Pt.cells, Pt.slots] at X113 l113 y113 z113 st113 hQ113
              subst l113 y113 z113
              obtain ⟨rfl, N113q, e113⟩ := hQ113
              have N113 := Fr.app N0 N113q
              obtain ⟨fs, hr, hrun, hended, hW, hsame⟩ := X113.leave (v := (some (.int (1 : Int32)))) (fun h => by rw [Bd.returns] at h; cases h)
              refine ⟨_, _, gp95 _ ?_, hrun, hended, _, _, rfl, ?_, ⟨_, rfl⟩, hW, hsame.mono (by decide) (by decide)⟩
              · refine XS.icmpYes X0.here hx rfl (pc0 := 73) (pc' := 84) rfl (hb hby at_73) rfl (feq hc73).2 (by decide) (by decide) ?_
                show Steps p.tables e below (s₁.setTop (mkF m 84 #[.val (.int p0), .val (.int p1), .val (.int ((p0 &&& (2147483647 : Int32)) % (6 : Int32))), .val (.int (1 : Int32)), .unset, .unset, .unset, .unset] [])) _
                refine st105 _ ?_
                show Steps p.tables e below (T105.setTop (mkF m 87 #[.val (.int p0), .val (.int p1), .val (.int ((p0 &&& (2147483647 : Int32)) % (6 : Int32))), .val (.int (1 : Int32)), .unset, .unset, .unset, .unset] [(.ref a_NEVER)])) _
                refine XS.astore X105.here hx rfl (hb hby at_87) rfl rfl (l' := #[.val (.int p0), .val (.int p1), .val (.int ((p0 &&& (2147483647 : Int32)) % (6 : Int32))), .val (.int (1 : Int32)), .val (.ref a_NEVER), .unset, .unset, .unset]) rfl ?_
                show Steps p.tables e below (T105.setTop (mkF m 89 #[.val (.int p0), .val (.int p1), .val (.int ((p0 &&& (2147483647 : Int32)) % (6 : Int32))), .val (.int (1 : Int32)), .val (.ref a_NEVER), .unset, .unset, .unset] [])) _
                refine XS.aload X105.here hx rfl (hb hby at_89) rfl rfl ?_
                show Steps p.tables e below (T105.setTop (mkF m 91 #[.val (.int p0), .val (.int p1), .val (.int ((p0 &&& (2147483647 : Int32)) % (6 : Int32))), .val (.int (1 : Int32)), .val (.ref a_NEVER), .unset, .unset, .unset] [(.ref a_NEVER)])) _
                refine st106 _ ?_
                show Steps p.tables e below (T106.setTop (mkF m 94 #[.val (.int p0), .val (.int p1), .val (.int ((p0 &&& (2147483647 : Int32)) % (6 : Int32))), .val (.int (1 : Int32)), .val (.ref a_NEVER), .unset, .unset, .unset] [(.ref a_REQUIRED), (.ref a_NEVER)])) _
                refine Jvm.RoadKit.acmp (g := (mkF m 94 #[.val (.int p0), .val (.int p1), .val (.int ((p0 &&& (2147483647 : Int32)) % (6 : Int32))), .val (.int (1 : Int32)), .val (.ref a_NEVER), .unset, .unset, .unset] [(.ref a_REQUIRED), (.ref a_NEVER)])) X106 hx rfl rfl rfl (pc0 := 94) (pc' := 97) (same := false) rfl (hb hby at_94) rfl (decide_eq_false fun q => (Fld.ne hS.2.2.2.2.2.1 hS.2.2.2.2.1 (fun q => absurd (Value.int.inj q) (by decide))) (Value.ref.inj q)) (by decide) (by decide) ?_
                show Steps p.tables e below (T106.setTop (mkF m 97 #[.val (.int p0), .val (.int p1), .val (.int ((p0 &&& (2147483647 : Int32)) % (6 : Int32))), .val (.int (1 : Int32)), .val (.ref a_NEVER), .unset, .unset, .unset] [])) _
                refine XS.aload X106.here hx rfl (hb hby at_97) rfl rfl ?_
                show Steps p.tables e below (T106.setTop (mkF m 99 #[.val (.int p0), .val (.int p1), .val (.int ((p0 &&& (2147483647 : Int32)) % (6 : Int32))), .val (.int (1 : Int32)), .val (.ref a_NEVER), .unset, .unset, .unset] [(.ref a_NEVER)])) _
                refine st107 _ ?_
                show Steps p.tables e below (T107.setTop (mkF m 102 #[.val (.int p0), .val (.int p1), .val (.int ((p0 &&& (2147483647 : Int32)) % (6 : Int32))), .val (.int (1 : Int32)), .val (.ref a_NEVER), .unset, .unset, .unset] [(.ref a_MANDATORY), (.ref a_NEVER)])) _
                refine Jvm.RoadKit.acmp (g := (mkF m 102 #[.val (.int p0), .val (.int p1), .val (.int ((p0 &&& (2147483647 : Int32)) % (6 : Int32))), .val (.int (1 : Int32)), .val (.ref a_NEVER), .unset, .unset, .unset] [(.ref a_MANDATORY), (.ref a_NEVER)])) X107 hx rfl rfl rfl (pc0 := 102) (pc' := 105) (same := false) rfl (hb hby at_102) rfl (decide_eq_false fun q => (Fld.ne hS.2.2.2.2.2.1 hS.2.2.2.2.2.2.2.2.2.2.2.1 (fun q => absurd (Value.int.inj q) (by decide))) (Value.ref.inj q)) (by decide) (by decide) ?_
                show Steps p.tables e below (T107.setTop (mkF m 105 #[.val (.int p0), .val (.int p1), .val (.int ((p0 &&& (2147483647 : Int32)) % (6 : Int32))), .val (.int (1 : Int32)), .val (.ref a_NEVER), .unset, .unset, .unset] [])) _
                refine XS.aload X107.here hx rfl (hb hby at_105) rfl rfl ?_
                show Steps p.tables e below (T107.setTop (mkF m 107 #[.val (.int p0), .val (.int p1), .val (.int ((p0 &&& (2147483647 : Int32)) % (6 : Int32))), .val (.int (1 : Int32)), .val (.ref a_NEVER), .unset, .unset, .unset] [(.ref a_NEVER)])) _
                refine st108 _ ?_
                show Steps p.tables e below (T108.setTop (mkF m 110 #[.val (.int p0), .val (.int p1), .val (.int ((p0 &&& (2147483647 : Int32)) % (6 : Int32))), .val (.int (1 : Int32)), .val (.ref a_NEVER), .unset, .unset, .unset] [(.ref a_SUPPORTS), (.ref a_NEVER)])) _
                refine Jvm.RoadKit.acmp (g := (mkF m 110 #[.val (.int p0), .val (.int p1), .val (.int ((p0 &&& (2147483647 : Int32)) % (6 : Int32))), .val (.int (1 : Int32)), .val (.ref a_NEVER), .unset, .unset, .unset] [(.ref a_SUPPORTS), (.ref a_NEVER)])) X108 hx rfl rfl rfl (pc0 := 110) (pc' := 117) (same := false) rfl (hb hby at_110) rfl (decide_eq_false fun q => (Fld.ne hS.2.2.2.2.2.1 hS.2.2.2.2.2.2.2.2.2.2.2.2.2.2.2.2.2.2.2.1 (fun q => absurd (Value.int.inj q) (by decide))) (Value.ref.inj q)) (by decide) (by decide) ?_
                show Steps p.tables e below (T108.setTop (mkF m 117 #[.val (.int p0), .val (.int p1), .val (.int ((p0 &&& (2147483647 : Int32)) % (6 : Int32))), .val (.int (1 : Int32)), .val (.ref a_NEVER), .unset, .unset, .unset] [])) _
                refine XS.iconst X108.here hx rfl (hb hby at_117) ?_
                show Steps p.tables e below (T108.setTop (mkF m 118 #[.val (.int p0), .val (.int p1), .val (.int ((p0 &&& (2147483647 : Int32)) % (6 : Int32))), .val (.int (1 : Int32)), .val (.ref a_NEVER), .unset, .unset, .unset] [(.int (0 : Int32))])) _
                refine XS.istore X108.here hx rfl (hb hby at_118) rfl (l' := #[.val (.int p0), .val (.int p1), .val (.int ((p0 &&& (2147483647 : Int32)) % (6 : Int32))), .val (.int (1 : Int32)), .val (.ref a_NEVER), .val (.int (0 : Int32)), .unset, .unset]) rfl ?_
                show Steps p.tables e below (T108.setTop (mkF m 120 #[.val (.int p0), .val (.int p1), .val (.int ((p0 &&& (2147483647 : Int32)) % (6 : Int32))), .val (.int (1 : Int32)), .val (.ref a_NEVER), .val (.int (0 : Int32)), .unset, .unset] [])) _
                refine XS.aload X108.here hx rfl (hb hby at_120) rfl rfl ?_
                show Steps p.tables e below (T108.setTop (mkF m 122 #[.val (.int p0), .val (.int p1), .val (.int ((p0 &&& (2147483647 : Int32)) % (6 : Int32))), .val (.int (1 : Int32)), .val (.ref a_NEVER), .val (.int (0 : Int32)), .unset, .unset] [(.ref a_NEVER)])) _
                refine st109 _ ?_
                show Steps p.tables e below (T109.setTop (mkF m 125 #[.val (.int p0), .val (.int p1), .val (.int ((p0 &&& (2147483647 : Int32)) % (6 : Int32))), .val (.int (1 : Int32)), .val (.ref a_NEVER), .val (.int (0 : Int32)), .unset, .unset] [(.ref a_REQUIRED), (.ref a_NEVER)])) _
                refine Jvm.RoadKit.acmp (g := (mkF m 125 #[.val (.int p0), .val (.int p1), .val (.int ((p0 &&& (2147483647 : Int32)) % (6 : Int32))), .val (.int (1 : Int32)), .val (.ref a_NEVER), .val (.int (0 : Int32)), .unset, .unset] [(.ref a_REQUIRED), (.ref a_NEVER)])) X109 hx rfl rfl rfl (pc0 := 125) (pc' := 128) (same := false) rfl (hb hby at_125) rfl (decide_eq_false fun q => (Fld.ne hS.2.2.2.2.2.1 hS.2.2.2.2.1 (fun q => absurd (Value.int.inj q) (by decide))) (Value.ref.inj q)) (by decide) (by decide) ?_
                show Steps p.tables e below (T109.setTop (mkF m 128 #[.val (.int p0), .val (.int p1), .val (.int ((p0 &&& (2147483647 : Int32)) % (6 : Int32))), .val (.int (1 : Int32)), .val (.ref a_NEVER), .val (.int (0 : Int32)), .unset, .unset] [])) _
                refine XS.aload X109.here hx rfl (hb hby at_128) rfl rfl ?_
                show Steps p.tables e below (T109.setTop (mkF m 130 #[.val (.int p0), .val (.int p1), .val (.int ((p0 &&& (2147483647 : Int32)) % (6 : Int32))), .val (.int (1 : Int32)), .val (.ref a_NEVER), .val (.int (0 : Int32)), .unset, .unset] [(.ref a_NEVER)])) _
                refine st110 _ ?_
                show Steps p.tables e below (T110.setTop (mkF m 133 #[.val (.int p0), .val (.int p1), .val (.int ((p0 &&& (2147483647 : Int32)) % (6 : Int32))), .val (.int (1 : Int32)), .val (.ref a_NEVER), .val (.int (0 : Int32)), .unset, .unset] [(.ref a_REQUIRES_NEW), (.ref a_NEVER)])) _
                refine Jvm.RoadKit.acmp (g := (mkF m 133 #[.val (.int p0), .val (.int p1), .val (.int ((p0 &&& (2147483647 : Int32)) % (6 : Int32))), .val (.int (1 : Int32)), .val (.ref a_NEVER), .val (.int (0 : Int32)), .unset, .unset] [(.ref a_REQUIRES_NEW), (.ref a_NEVER)])) X110 hx rfl rfl rfl (pc0 := 133) (pc' := 140) (same := false) rfl (hb hby at_133) rfl (decide_eq_false fun q => (Fld.ne hS.2.2.2.2.2.1 hS.2.2.2.2.2.2.2.2.2.2.2.2.2.2.1 (fun q => absurd (Value.int.inj q) (by decide))) (Value.ref.inj q)) (by decide) (by decide) ?_
                show Steps p.tables e below (T110.setTop (mkF m 140 #[.val (.int p0), .val (.int p1), .val (.int ((p0 &&& (2147483647 : Int32)) % (6 : Int32))), .val (.int (1 : Int32)), .val (.ref a_NEVER), .val (.int (0 : Int32)), .unset, .unset] [])) _
                refine XS.iconst X110.here hx rfl (hb hby at_140) ?_
                show Steps p.tables e below (T110.setTop (mkF m 141 #[.val (.int p0), .val (.int p1), .val (.int ((p0 &&& (2147483647 : Int32)) % (6 : Int32))), .val (.int (1 : Int32)), .val (.ref a_NEVER), .val (.int (0 : Int32)), .unset, .unset] [(.int (0 : Int32))])) _
                refine XS.istore X110.here hx rfl (hb hby at_141) rfl (l' := #[.val (.int p0), .val (.int p1), .val (.int ((p0 &&& (2147483647 : Int32)) % (6 : Int32))), .val (.int (1 : Int32)), .val (.ref a_NEVER), .val (.int (0 : Int32)), .val (.int (0 : Int32)), .unset]) rfl ?_
                show Steps p.tables e below (T110.setTop (mkF m 143 #[.val (.int p0), .val (.int p1), .val (.int ((p0 &&& (2147483647 : Int32)) % (6 : Int32))), .val (.int (1 : Int32)), .val (.ref a_NEVER), .val (.int (0 : Int32)), .val (.int (0 : Int32)), .unset] [])) _
                refine XS.iloadN X110.here hx rfl (hb hby at_143) rfl ?_
                show Steps p.tables e below (T110.setTop (mkF m 144 #[.val (.int p0), .val (.int p1), .val (.int ((p0 &&& (2147483647 : Int32)) % (6 : Int32))), .val (.int (1 : Int32)), .val (.ref a_NEVER), .val (.int (0 : Int32)), .val (.int (0 : Int32)), .unset] [(.int (1 : Int32))])) _
                refine XS.ifNo X110.here hx rfl (hb hby at_144) rfl ((if0 _ _).trans (feq (by decide : ¬ ((1 : Int32) = (0 : Int32)))).1) ?_
                show Steps p.tables e below (T110.setTop (mkF m 147 #[.val (.int p0), .val (.int p1), .val (.int ((p0 &&& (2147483647 : Int32)) % (6 : Int32))), .val (.int (1 : Int32)), .val (.ref a_NEVER), .val (.int (0 : Int32)), .val (.int (0 : Int32)), .unset] [])) _
                refine XS.aload X110.here hx rfl (hb hby at_147) rfl rfl ?_
                show Steps p.tables e below (T110.setTop (mkF m 149 #[.val (.int p0), .val (.int p1), .val (.int ((p0 &&& (2147483647 : Int32)) % (6 : Int32))), .val (.int (1 : Int32)), .val (.ref a_NEVER), .val (.int (0 : Int32)), .val (.int (0 : Int32)), .unset] [(.ref a_NEVER)])) _
                refine st111 _ ?_
                show Steps p.tables e below (T111.setTop (mkF m 152 #[.val (.int p0), .val (.int p1), .val (.int ((p0 &&& (2147483647 : Int32)) % (6 : Int32))), .val (.int (1 : Int32)), .val (.ref a_NEVER), .val (.int (0 : Int32)), .val (.int (0 : Int32)), .unset] [(.ref a_NEVER), (.ref a_NEVER)])) _
                refine Jvm.RoadKit.acmp (g := (mkF m 152 #[.val (.int p0), .val (.int p1), .val (.int ((p0 &&& (2147483647 : Int32)) % (6 : Int32))), .val (.int (1 : Int32)), .val (.ref a_NEVER), .val (.int (0 : Int32)), .val (.int (0 : Int32)), .unset] [(.ref a_NEVER), (.ref a_NEVER)])) X111 hx rfl rfl rfl (pc0 := 152) (pc' := 155) (same := true) rfl (hb hby at_152) rfl (decide_eq_true rfl) (by decide) (by decide) ?_
                show Steps p.tables e below (T111.setTop (mkF m 155 #[.val (.int p0), .val (.int p1), .val (.int ((p0 &&& (2147483647 : Int32)) % (6 : Int32))), .val (.int (1 : Int32)), .val (.ref a_NEVER), .val (.int (0 : Int32)), .val (.int (0 : Int32)), .unset] [])) _
                refine st112 _ ?_
                show Steps p.tables e below (T112.setTop (mkF m 158 #[.val (.int p0), .val (.int p1), .val (.int ((p0 &&& (2147483647 : Int32)) % (6 : Int32))), .val (.int (1 : Int32)), .val (.ref a_NEVER), .val (.int (0 : Int32)), .val (.int (0 : Int32)), .unset] [(.ref a_REFUSED)])) _
                refine XS.astore X112.here hx rfl (hb hby at_158) rfl rfl (l' := #[.val (.int p0), .val (.int p1), .val (.int ((p0 &&& (2147483647 : Int32)) % (6 : Int32))), .val (.int (1 : Int32)), .val (.ref a_NEVER), .val (.int (0 : Int32)), .val (.int (0 : Int32)), .val (.ref a_REFUSED)]) rfl ?_
                show Steps p.tables e below (T112.setTop (mkF m 160 #[.val (.int p0), .val (.int p1), .val (.int ((p0 &&& (2147483647 : Int32)) % (6 : Int32))), .val (.int (1 : Int32)), .val (.ref a_NEVER), .val (.int (0 : Int32)), .val (.int (0 : Int32)), .val (.ref a_REFUSED)] [])) _
                refine XS.goto X112.here hx rfl (pc0 := 160) (pc' := 234) rfl (hb hby at_160) (by decide) (by decide) ?_
                show Steps p.tables e below (T112.setTop (mkF m 234 #[.val (.int p0), .val (.int p1), .val (.int ((p0 &&& (2147483647 : Int32)) % (6 : Int32))), .val (.int (1 : Int32)), .val (.ref a_NEVER), .val (.int (0 : Int32)), .val (.int (0 : Int32)), .val (.ref a_REFUSED)] [])) _
                refine XS.aload X112.here hx rfl (hb hby at_234) rfl rfl ?_
                show Steps p.tables e below (T112.setTop (mkF m 236 #[.val (.int p0), .val (.int p1), .val (.int ((p0 &&& (2147483647 : Int32)) % (6 : Int32))), .val (.int (1 : Int32)), .val (.ref a_NEVER), .val (.int (0 : Int32)), .val (.int (0 : Int32)), .val (.ref a_REFUSED)] [(.ref a_NEVER)])) _
                refine XS.iloadN X112.here hx rfl (hb hby at_236) rfl ?_
                show Steps p.tables e below (T112.setTop (mkF m 237 #[.val (.int p0), .val (.int p1), .val (.int ((p0 &&& (2147483647 : Int32)) % (6 : Int32))), .val (.int (1 : Int32)), .val (.ref a_NEVER), .val (.int (0 : Int32)), .val (.int (0 : Int32)), .val (.ref a_REFUSED)] [(.int (1 : Int32)), (.ref a_NEVER)])) _
                refine st113 _ ?_
                show Steps p.tables e below (T113.setTop (mkF m 240 #[.val (.int p0), .val (.int p1), .val (.int ((p0 &&& (2147483647 : Int32)) % (6 : Int32))), .val (.int (1 : Int32)), .val (.ref a_NEVER), .val (.int (0 : Int32)), .val (.int (0 : Int32)), .val (.ref a_REFUSED)] [(.ref a_REFUSED)])) _
                refine XS.aload X113.here hx rfl (hb hby at_240) rfl rfl ?_
                show Steps p.tables e below (T113.setTop (mkF m 242 #[.val (.int p0), .val (.int p1), .val (.int ((p0 &&& (2147483647 : Int32)) % (6 : Int32))), .val (.int (1 : Int32)), .val (.ref a_NEVER), .val (.int (0 : Int32)), .val (.int (0 : Int32)), .val (.ref a_REFUSED)] [(.ref a_REFUSED), (.ref a_REFUSED)])) _
                refine Jvm.RoadKit.acmp (g := (mkF m 242 #[.val (.int p0), .val (.int p1), .val (.int ((p0 &&& (2147483647 : Int32)) % (6 : Int32))), .val (.int (1 : Int32)), .val (.ref a_NEVER), .val (.int (0 : Int32)), .val (.int (0 : Int32)), .val (.ref a_REFUSED)] [(.ref a_REFUSED), (.ref a_REFUSED)])) X113 hx rfl rfl rfl (pc0 := 242) (pc' := 245) (same := true) rfl (hb hby at_242) rfl (decide_eq_true rfl) (by decide) (by decide) ?_
                show Steps p.tables e below (T113.setTop (mkF m 245 #[.val (.int p0), .val (.int p1), .val (.int ((p0 &&& (2147483647 : Int32)) % (6 : Int32))), .val (.int (1 : Int32)), .val (.ref a_NEVER), .val (.int (0 : Int32)), .val (.int (0 : Int32)), .val (.ref a_REFUSED)] [])) _
                refine XS.iconst X113.here hx rfl (hb hby at_245) ?_
                show Steps p.tables e below (T113.setTop (mkF m 246 #[.val (.int p0), .val (.int p1), .val (.int ((p0 &&& (2147483647 : Int32)) % (6 : Int32))), .val (.int (1 : Int32)), .val (.ref a_NEVER), .val (.int (0 : Int32)), .val (.int (0 : Int32)), .val (.ref a_REFUSED)] [(.int (1 : Int32))])) _
                refine XS.goto X113.here hx rfl (pc0 := 246) (pc' := 250) rfl (hb hby at_246) (by decide) (by decide) ?_
                show Steps p.tables e below (T113.setTop (mkF m 250 #[.val (.int p0), .val (.int p1), .val (.int ((p0 &&& (2147483647 : Int32)) % (6 : Int32))), .val (.int (1 : Int32)), .val (.ref a_NEVER), .val (.int (0 : Int32)), .val (.int (0 : Int32)), .val (.ref a_REFUSED)] [(.int (1 : Int32))])) _
                exact retN X113 hx (t := .boolean) Bd.returns (by simp) (hb hby at_250) hr
              · show Q0 n0 _ T113.heap _
                rw [e113]
                exact ⟨rfl, N113⟩
set_option maxRecDepth 65536 in
set_option maxHeartbeats 40000000 in
theorem comes_1 {Post : Tables → Env → Array Value → State → Outcome → State → Prop} (hpost : ∀ tb e args s v u, (limb_1_1.after args s (.returned v) u = true ∧ limb_1_2.after args s (.returned v) u = true ∧ True) → FrameEnd s (.returned v) u (Jvm.fieldLocs frame_1_writes args s ++ Jvm.arrayLocs frame_1_arrays args s ++ Jvm.staticLocs frame_1_statics s) 0 0 → Post tb e args s (.returned v) u) :
    ArmFor flags0 classFile x code maxLocals ret World_1 tables_1 room_1 Calls_1 rest_1 Pre_1 Post := by
  intro l hfl _ _ p e ha hc hk s m args below hf hA hF happ hP
  obtain ⟨hcalls, hrest, hpre⟩ := hP
  obtain ⟨-, -, -, hnamed, -, -, -, hat⟩ := (Spec.applies_iff hf).mp happ
  obtain ⟨hg, hn⟩ := and_e (Cond.before_iff.mp (show (Jvm.Cond.and given_1 narrow_1).before args s = true from hpre))
  obtain ⟨g0, r0⟩ := and_e hg
  obtain ⟨g1, r1⟩ := and_e r0
  obtain ⟨w0, w1, rfl⟩ : ∃ w0 w1 : Value, args = #[w0, w1] := by
    have hs : args.size = 2 := by simpa [Cond.value, given_1] using g0
    obtain ⟨L⟩ := args
    match L, hs with
    | [w0, w1], _ => exact ⟨w0, w1, rfl⟩
  have hw := fun d (hd : d ∈ tables_1) => atoms_spec (ws := Jvm.Cond.code x code maxLocals ret :: tables_1) hat d (List.mem_cons_of_mem _ hd)
  have hfit : Fit s := fun {y c} hc i hi => by
    obtain ⟨ha, rfl⟩ := Array.getElem?_eq_some_iff.mp hc
    have q := List.all_eq_true.mp ((Array.all_eq_true_iff_forall_mem.mp hF) _ (Array.getElem_mem ha)) i (List.mem_range.mpr hi)
    simpa [Array.getElem?_eq_getElem hi] using q
  obtain ⟨i0, ei0⟩ := is_v g1
  obtain rfl : w0 = (.int i0) := Option.some.inj ei0
  obtain ⟨i1, ei1⟩ := is_v r1
  obtain rfl : w1 = (.int i1) := Option.some.inj ei1
  obtain ⟨n0, m0⟩ := and_e hn
  obtain ⟨n1, m1⟩ := and_e m0
  obtain ⟨n2, m2⟩ := and_e m1
  obtain ⟨n3, m3⟩ := and_e m2
  obtain ⟨n4, m4⟩ := and_e m3
  obtain ⟨n5, m5⟩ := and_e m4
  obtain ⟨n6, m6⟩ := and_e m5
  obtain ⟨n7, m7⟩ := and_e m6
  obtain ⟨n8, m8⟩ := and_e m7
  obtain ⟨n9, m9⟩ := and_e m8
  obtain ⟨n10, m10⟩ := and_e m9
  obtain ⟨n11, m11⟩ := and_e m10
  obtain ⟨n12, m12⟩ := and_e m11
  obtain ⟨n13, m13⟩ := and_e m12
  obtain ⟨n14, m14⟩ := and_e m13
  obtain ⟨n15, m15⟩ := and_e m14
  obtain ⟨n16, m16⟩ := and_e m15
  obtain ⟨n17, m17⟩ := and_e m16
  obtain ⟨n18, m18⟩ := and_e m17
  obtain ⟨n19, m19⟩ := and_e m18
  obtain ⟨n20, m20⟩ := and_e m19
  obtain ⟨n21, m21⟩ := and_e m20
  obtain ⟨n22, m22⟩ := and_e m21
  obtain ⟨a_REQUIRED, ev_a_REQUIRED⟩ := exa_v n0
  have E_a_REQUIRED : Exa s s.heap a_REQUIRED "com/example/demarc/demarc/TransactionAttributeType" := Exa.start ev_a_REQUIRED n0
  have S_a_REQUIRED : Sta s s.heap "com/example/demarc/demarc/TransactionAttributeType" "REQUIRED" "Lcom/example/demarc/demarc/TransactionAttributeType;" (.ref a_REQUIRED) := Sta.start ev_a_REQUIRED (Or.inr ⟨(hw _ (List.mem_of_getElem? (i := 2) rfl)), (hw _ (List.mem_of_getElem? (i := 3) rfl))⟩)
  obtain ⟨a_NEVER, ev_a_NEVER⟩ := exa_v n1
  have E_a_NEVER : Exa s s.heap a_NEVER "com/example/demarc/demarc/TransactionAttributeType" := Exa.start ev_a_NEVER n1
  have S_a_NEVER : Sta s s.heap "com/example/demarc/demarc/TransactionAttributeType" "NEVER" "Lcom/example/demarc/demarc/TransactionAttributeType;" (.ref a_NEVER) := Sta.start ev_a_NEVER (Or.inr ⟨(hw _ (List.mem_of_getElem? (i := 2) rfl)), (hw _ (List.mem_of_getElem? (i := 5) rfl))⟩)
  have F_ordinal_a_REQUIRED : Fld s s.heap a_REQUIRED "java/lang/Enum" "ordinal" "I" (.int (0 : Int32)) := Fld.start ((fld_at ev_a_REQUIRED).symm.trans (Cond.eq_int (Cond.before_iff.mpr n2) rfl))
  have F_ordinal_a_NEVER : Fld s s.heap a_NEVER "java/lang/Enum" "ordinal" "I" (.int (5 : Int32)) := Fld.start ((fld_at ev_a_NEVER).symm.trans (Cond.eq_int (Cond.before_iff.mpr n3) rfl))
  obtain ⟨a_JOIN, ev_a_JOIN⟩ := exa_v n4
  have E_a_JOIN : Exa s s.heap a_JOIN "com/example/demarc/demarc/Placement" := Exa.start ev_a_JOIN n4
  have S_a_JOIN : Sta s s.heap "com/example/demarc/demarc/Placement" "JOIN" "Lcom/example/demarc/demarc/Placement;" (.ref a_JOIN) := Sta.start ev_a_JOIN (Or.inr ⟨(hw _ (List.mem_of_getElem? (i := 7) rfl)), (hw _ (List.mem_of_getElem? (i := 8) rfl))⟩)
  obtain ⟨a__SwitchMap_com_example_demarc_demarc_TransactionAttributeType, ev_a__SwitchMap_com_example_demarc_demarc_TransactionAttributeType⟩ := arr_v n5
  obtain ⟨c_a__SwitchMap_com_example_demarc_demarc_TransactionAttributeType, A_a__SwitchMap_com_example_demarc_demarc_TransactionAttributeType⟩ := Arr.start ev_a__SwitchMap_com_example_demarc_demarc_TransactionAttributeType n5
  have S_a__SwitchMap_com_example_demarc_demarc_TransactionAttributeType : Sta s s.heap "com/example/demarc/demarc/Placement$1" "$SwitchMap$com$example$demarc$demarc$TransactionAttributeType" "[I" (.ref a__SwitchMap_com_example_demarc_demarc_TransactionAttributeType) := Sta.start ev_a__SwitchMap_com_example_demarc_demarc_TransactionAttributeType (Or.inr ⟨(hw _ (List.mem_of_getElem? (i := 13) rfl)), (hw _ (List.mem_of_getElem? (i := 14) rfl))⟩)
  have ar_a__SwitchMap_com_example_demarc_demarc_TransactionAttributeType := A_a__SwitchMap_com_example_demarc_demarc_TransactionAttributeType.fin (Vm.Alike.refl s.vm)
  have le_a__SwitchMap_com_example_demarc_demarc_TransactionAttributeType := Cond.eq_int (Cond.before_iff.mpr n6) (Term.int_eval (6 : Int32))
  have lt_a__SwitchMap_com_example_demarc_demarc_TransactionAttributeType := SBG.length_lt ev_a__SwitchMap_com_example_demarc_demarc_TransactionAttributeType ar_a__SwitchMap_com_example_demarc_demarc_TransactionAttributeType le_a__SwitchMap_com_example_demarc_demarc_TransactionAttributeType
  have sz_a__SwitchMap_com_example_demarc_demarc_TransactionAttributeType : c_a__SwitchMap_com_example_demarc_demarc_TransactionAttributeType.slots.size.toInt32 = (6 : Int32) := Value.int.inj (Option.some.inj ((len_f ev_a__SwitchMap_com_example_demarc_demarc_TransactionAttributeType ar_a__SwitchMap_com_example_demarc_demarc_TransactionAttributeType lt_a__SwitchMap_com_example_demarc_demarc_TransactionAttributeType).symm.trans le_a__SwitchMap_com_example_demarc_demarc_TransactionAttributeType))
  obtain ⟨a_MANDATORY, ev_a_MANDATORY⟩ := exa_v n7
  have E_a_MANDATORY : Exa s s.heap a_MANDATORY "com/example/demarc/demarc/TransactionAttributeType" := Exa.start ev_a_MANDATORY n7
  have S_a_MANDATORY : Sta s s.heap "com/example/demarc/demarc/TransactionAttributeType" "MANDATORY" "Lcom/example/demarc/demarc/TransactionAttributeType;" (.ref a_MANDATORY) := Sta.start ev_a_MANDATORY (Or.inr ⟨(hw _ (List.mem_of_getElem? (i := 2) rfl)), (hw _ (List.mem_of_getElem? (i := 26) rfl))⟩)
  have F_ordinal_a_MANDATORY : Fld s s.heap a_MANDATORY "java/lang/Enum" "ordinal" "I" (.int (2 : Int32)) := Fld.start ((fld_at ev_a_MANDATORY).symm.trans (Cond.eq_int (Cond.before_iff.mpr n8) rfl))
  obtain ⟨a_REQUIRES_NEW, ev_a_REQUIRES_NEW⟩ := exa_v n9
  have E_a_REQUIRES_NEW : Exa s s.heap a_REQUIRES_NEW "com/example/demarc/demarc/TransactionAttributeType" := Exa.start ev_a_REQUIRES_NEW n9
  have S_a_REQUIRES_NEW : Sta s s.heap "com/example/demarc/demarc/TransactionAttributeType" "REQUIRES_NEW" "Lcom/example/demarc/demarc/TransactionAttributeType;" (.ref a_REQUIRES_NEW) := Sta.start ev_a_REQUIRES_NEW (Or.inr ⟨(hw _ (List.mem_of_getElem? (i := 2) rfl)), (hw _ (List.mem_of_getElem? (i := 28) rfl))⟩)
  have F_ordinal_a_REQUIRES_NEW : Fld s s.heap a_REQUIRES_NEW "java/lang/Enum" "ordinal" "I" (.int (1 : Int32)) := Fld.start ((fld_at ev_a_REQUIRES_NEW).symm.trans (Cond.eq_int (Cond.before_iff.mpr n10) rfl))
  obtain ⟨a_REFUSED, ev_a_REFUSED⟩ := exa_v n11
  have E_a_REFUSED : Exa s s.heap a_REFUSED "com/example/demarc/demarc/Placement" := Exa.start ev_a_REFUSED n11
  have S_a_REFUSED : Sta s s.heap "com/example/demarc/demarc/Placement" "REFUSED" "Lcom/example/demarc/demarc/Placement;" (.ref a_REFUSED) := Sta.start ev_a_REFUSED (Or.inr ⟨(hw _ (List.mem_of_getElem? (i := 7) rfl)), (hw _ (List.mem_of_getElem? (i := 30) rfl))⟩)
  obtain ⟨a_SUPPORTS, ev_a_SUPPORTS⟩ := exa_v n12
  have E_a_SUPPORTS : Exa s s.heap a_SUPPORTS "com/example/demarc/demarc/TransactionAttributeType" := Exa.start ev_a_SUPPORTS n12
  have S_a_SUPPORTS : Sta s s.heap "com/example/demarc/demarc/TransactionAttributeType" "SUPPORTS" "Lcom/example/demarc/demarc/TransactionAttributeType;" (.ref a_SUPPORTS) := Sta.start ev_a_SUPPORTS (Or.inr ⟨(hw _ (List.mem_of_getElem? (i := 2) rfl)), (hw _ (List.mem_of_getElem? (i := 33) rfl))⟩)
  have F_ordinal_a_SUPPORTS : Fld s s.heap a_SUPPORTS "java/lang/Enum" "ordinal" "I" (.int (4 : Int32)) := Fld.start ((fld_at ev_a_SUPPORTS).symm.trans (Cond.eq_int (Cond.before_iff.mpr n13) rfl))
  obtain ⟨a_NONE, ev_a_NONE⟩ := exa_v n14
  have E_a_NONE : Exa s s.heap a_NONE "com/example/demarc/demarc/Placement" := Exa.start ev_a_NONE n14
  have S_a_NONE : Sta s s.heap "com/example/demarc/demarc/Placement" "NONE" "Lcom/example/demarc/demarc/Placement;" (.ref a_NONE) := Sta.start ev_a_NONE (Or.inr ⟨(hw _ (List.mem_of_getElem? (i := 7) rfl)), (hw _ (List.mem_of_getElem? (i := 35) rfl))⟩)
  obtain ⟨a_NEW, ev_a_NEW⟩ := exa_v n15
  have E_a_NEW : Exa s s.heap a_NEW "com/example/demarc/demarc/Placement" := Exa.start ev_a_NEW n15
  have S_a_NEW : Sta s s.heap "com/example/demarc/demarc/Placement" "NEW" "Lcom/example/demarc/demarc/Placement;" (.ref a_NEW) := Sta.start ev_a_NEW (Or.inr ⟨(hw _ (List.mem_of_getElem? (i := 7) rfl)), (hw _ (List.mem_of_getElem? (i := 38) rfl))⟩)
  obtain ⟨a_NOT_SUPPORTED, ev_a_NOT_SUPPORTED⟩ := exa_v n16
  have E_a_NOT_SUPPORTED : Exa s s.heap a_NOT_SUPPORTED "com/example/demarc/demarc/TransactionAttributeType" := Exa.start ev_a_NOT_SUPPORTED n16
  have S_a_NOT_SUPPORTED : Sta s s.heap "com/example/demarc/demarc/TransactionAttributeType" "NOT_SUPPORTED" "Lcom/example/demarc/demarc/TransactionAttributeType;" (.ref a_NOT_SUPPORTED) := Sta.start ev_a_NOT_SUPPORTED (Or.inr ⟨(hw _ (List.mem_of_getElem? (i := 2) rfl)), (hw _ (List.mem_of_getElem? (i := 41) rfl))⟩)
  have F_ordinal_a_NOT_SUPPORTED : Fld s s.heap a_NOT_SUPPORTED "java/lang/Enum" "ordinal" "I" (.int (3 : Int32)) := Fld.start ((fld_at ev_a_NOT_SUPPORTED).symm.trans (Cond.eq_int (Cond.before_iff.mpr n17) rfl))
  have el_a__SwitchMap_com_example_demarc_demarc_TransactionAttributeType_0 : c_a__SwitchMap_com_example_demarc_demarc_TransactionAttributeType.slots[0]? = some (.int (1 : Int32)) := (elem_in (Cond.eq_int (Cond.before_iff.mpr n18) (Term.int_eval (1 : Int32))) ev_a__SwitchMap_com_example_demarc_demarc_TransactionAttributeType (Term.int_eval (0 : Int32)) A_a__SwitchMap_com_example_demarc_demarc_TransactionAttributeType.1).2
  have el_a__SwitchMap_com_example_demarc_demarc_TransactionAttributeType_1 : c_a__SwitchMap_com_example_demarc_demarc_TransactionAttributeType.slots[1]? = some (.int (4 : Int32)) := (elem_in (Cond.eq_int (Cond.before_iff.mpr n19) (Term.int_eval (4 : Int32))) ev_a__SwitchMap_com_example_demarc_demarc_TransactionAttributeType (Term.int_eval (1 : Int32)) A_a__SwitchMap_com_example_demarc_demarc_TransactionAttributeType.1).2
  have el_a__SwitchMap_com_example_demarc_demarc_TransactionAttributeType_2 : c_a__SwitchMap_com_example_demarc_demarc_TransactionAttributeType.slots[2]? = some (.int (2 : Int32)) := (elem_in (Cond.eq_int (Cond.before_iff.mpr n20) (Term.int_eval (2 : Int32))) ev_a__SwitchMap_com_example_demarc_demarc_TransactionAttributeType (Term.int_eval (2 : Int32)) A_a__SwitchMap_com_example_demarc_demarc_TransactionAttributeType.1).2
  have el_a__SwitchMap_com_example_demarc_demarc_TransactionAttributeType_3 : c_a__SwitchMap_com_example_demarc_demarc_TransactionAttributeType.slots[3]? = some (.int (5 : Int32)) := (elem_in (Cond.eq_int (Cond.before_iff.mpr n21) (Term.int_eval (5 : Int32))) ev_a__SwitchMap_com_example_demarc_demarc_TransactionAttributeType (Term.int_eval (3 : Int32)) A_a__SwitchMap_com_example_demarc_demarc_TransactionAttributeType.1).2
  have el_a__SwitchMap_com_example_demarc_demarc_TransactionAttributeType_4 : c_a__SwitchMap_com_example_demarc_demarc_TransactionAttributeType.slots[4]? = some (.int (3 : Int32)) := (elem_in (Cond.eq_int (Cond.before_iff.mpr n22) (Term.int_eval (3 : Int32))) ev_a__SwitchMap_com_example_demarc_demarc_TransactionAttributeType (Term.int_eval (4 : Int32)) A_a__SwitchMap_com_example_demarc_demarc_TransactionAttributeType.1).2
  have el_a__SwitchMap_com_example_demarc_demarc_TransactionAttributeType_5 : c_a__SwitchMap_com_example_demarc_demarc_TransactionAttributeType.slots[5]? = some (.int (6 : Int32)) := (elem_in (Cond.eq_int (Cond.before_iff.mpr m22) (Term.int_eval (6 : Int32))) ev_a__SwitchMap_com_example_demarc_demarc_TransactionAttributeType (Term.int_eval (5 : Int32)) A_a__SwitchMap_com_example_demarc_demarc_TransactionAttributeType.1).2
  have V_a__SwitchMap_com_example_demarc_demarc_TransactionAttributeType : Arv s s.heap a__SwitchMap_com_example_demarc_demarc_TransactionAttributeType c_a__SwitchMap_com_example_demarc_demarc_TransactionAttributeType.cls .int (6 : Int32) [(.int (1 : Int32)), (.int (4 : Int32)), (.int (2 : Int32)), (.int (5 : Int32)), (.int (3 : Int32)), (.int (6 : Int32))] (.int (0 : Int32)) := Arv.start hfit A_a__SwitchMap_com_example_demarc_demarc_TransactionAttributeType lt_a__SwitchMap_com_example_demarc_demarc_TransactionAttributeType sz_a__SwitchMap_com_example_demarc_demarc_TransactionAttributeType (by decide) rfl ⟨el_a__SwitchMap_com_example_demarc_demarc_TransactionAttributeType_0, el_a__SwitchMap_com_example_demarc_demarc_TransactionAttributeType_1, el_a__SwitchMap_com_example_demarc_demarc_TransactionAttributeType_2, el_a__SwitchMap_com_example_demarc_demarc_TransactionAttributeType_3, el_a__SwitchMap_com_example_demarc_demarc_TransactionAttributeType_4, el_a__SwitchMap_com_example_demarc_demarc_TransactionAttributeType_5, trivial⟩
  obtain ⟨n, o, h1, h2, h3, _, L, rfl, ⟨rfl, N⟩, hq⟩ := rm0 l s _ hw tables_1 a_REQUIRED a_NEVER a_JOIN a__SwitchMap_com_example_demarc_demarc_TransactionAttributeType a_MANDATORY a_REQUIRES_NEW a_REFUSED a_SUPPORTS a_NONE a_NEW a_NOT_SUPPORTED c_a__SwitchMap_com_example_demarc_demarc_TransactionAttributeType.cls ⟨E_a_REQUIRED, S_a_REQUIRED, E_a_NEVER, S_a_NEVER, F_ordinal_a_REQUIRED, F_ordinal_a_NEVER, E_a_JOIN, S_a_JOIN, S_a__SwitchMap_com_example_demarc_demarc_TransactionAttributeType, E_a_MANDATORY, S_a_MANDATORY, F_ordinal_a_MANDATORY, E_a_REQUIRES_NEW, S_a_REQUIRES_NEW, F_ordinal_a_REQUIRES_NEW, E_a_REFUSED, S_a_REFUSED, E_a_SUPPORTS, S_a_SUPPORTS, F_ordinal_a_SUPPORTS, E_a_NONE, S_a_NONE, E_a_NEW, S_a_NEW, E_a_NOT_SUPPORTED, S_a_NOT_SUPPORTED, F_ordinal_a_NOT_SUPPORTED, V_a__SwitchMap_com_example_demarc_demarc_TransactionAttributeType⟩ i0 i1 s.heap s.heap.size (Old.start s) p e ha hc hk s m _ below hf ((Spec.applies_iff_loose hf).mp happ).1 ⟨rfl, State.Warmed39.refl s, rfl⟩ trivial
  refine ⟨n, _, h1, h2, h3, hpost _ _ _ _ _ _ ⟨Cond.after_iff.mpr rfl, Cond.after_iff.mpr (eq_i res_at (Term.int_eval (1)) rfl), trivial⟩ ⟨hq.1, hq.2.1, (hq.2.2.sift fun y hy => Or.inr (N y hy)).mono (by decide) (by decide)⟩⟩
theorem main_1_1 : Claimed_1_1 := comes_1 fun _ _ _ _ _ _ h hF => ⟨h.1, hF⟩
theorem main_1_2 : Claimed_1_2 := comes_1 fun _ _ _ _ _ _ h hF => ⟨h.2.1, hF⟩
end Jvm.Pilot.@@N@@
-- the witness, by the kit's program
namespace Jvm.Pilot.@@N@@
open Jvm Jvm.ClassFile Sem Op Lib Jvm.Free Jvm.Stand Jvm.Pilot.@@N@@.Jvm.D
/-! MADE BY PROGRAM (witnessworld.py) out of the Statement's table words and the real class files: 14 classes; the members and pool entries that the words name. The judged class is class 1, her method 1. -/
namespace start1
open Jvm.ClassFile
def u (s : String) : CpInfo := .utf8 (stringToUtf16 s)
/-- a pool by its gaps: so many unusable entries, then the entry; so many at the end -/
def gap : Nat → List CpInfo → List CpInfo
  | 0, r => r
  | n + 1, r => .unusable :: gap n r
def poolList (es : List (Nat × CpInfo)) (last : Nat) : List CpInfo := es.foldr (fun e r => gap e.1 (e.2 :: r)) (gap last [])
def pool (es : List (Nat × CpInfo)) (last : Nat) : Array CpInfo := ⟨poolList es last⟩
def fileOf (pool : Array CpInfo) (this : Nat) (attrs : Array Attribute := #[]) (ms : Array MethodInfo := #[]) (fl : Nat := 33) (sup : Nat := 0) (ifs : Array Nat := #[]) (fds : Array FieldInfo := #[]) : ClassFile where
  minorVersion := 0
  majorVersion := 65
  constantPool := pool
  accessFlags := fl
  thisClass := this
  superClass := sup
  interfaces := ifs
  fields := fds
  methods := ms
  attributes := attrs
def plain (name : String) (sup : Option ClassId) : Class where
  name := name
  kind := .ordinary
  loader := none
  accessFlags := 33
  super := sup
  interfaces := #[]
  cf := none
  fields := #[]
  methods := #[]
  instanceTypes := #[]
  staticTypes := #[]
  resolved := #[]
  callSites := []
  init := .initialized
  statics := none
  mirror := none

def pool0 : Array CpInfo := pool [(5, u "<init>"), (0, u "()V"), (1, .class_ 10), (1, u "java/lang/Object")] 113

def k0m0 : Method := { name := "<init>", desc := "()V", sig := { parameters := [], returnType := none }, accessFlags := 1, code := none }
/-- java/lang/Object -/
def k0 : Class := { plain "java/lang/Object" none with
  accessFlags := 33
  interfaces := #[]
  cf := some (fileOf pool0 8 #[] #[{ accessFlags := 1, nameIndex := 5, descriptorIndex := 6, attributes := #[] }] 33 0 #[] #[])
  fields := #[]
  methods := #[k0m0]
  instanceTypes := #[]
  staticTypes := #[]
  resolved := Array.replicate 124 none
  statics := none }

def pool1 : Array CpInfo := pool [(2, .class_ 4), (1, u "java/lang/Object"), (0, u "<init>"), (0, u "()V"), (0, .integer 2147483647), (0, .fieldref 9 10), (0, .class_ 11), (0, .nameAndType 12 13), (0, u "com/example/demarc/demarc/TransactionAttributeType"), (0, u "REQUIRED"), (0, u "Lcom/example/demarc/demarc/TransactionAttributeType;"), (0, .fieldref 9 15), (0, .nameAndType 16 13), (0, u "REQUIRES_NEW"), (0, .fieldref 9 18), (0, .nameAndType 19 13), (0, u "MANDATORY"), (0, .fieldref 9 21), (0, .nameAndType 22 13), (0, u "NOT_SUPPORTED"), (0, .fieldref 9 24), (0, .nameAndType 25 13), (0, u "SUPPORTS"), (0, .fieldref 9 27), (0, .nameAndType 28 13), (0, u "NEVER"), (0, .fieldref 30 31), (0, .class_ 32), (0, .nameAndType 33 34), (0, u "com/example/demarc/demarc/Placement"), (0, u "REFUSED"), (0, u "Lcom/example/demarc/demarc/Placement;"), (0, .fieldref 30 36), (0, .nameAndType 37 34), (0, u "JOIN"), (0, .fieldref 30 39), (0, .nameAndType 40 34), (0, u "NEW"), (0, .fieldref 30 42), (0, .nameAndType 43 34), (0, u "NONE"), (0, .methodref 30 45), (0, .nameAndType 46 47), (0, u "of"), (0, u "(Lcom/example/demarc/demarc/TransactionAttributeType;Z)Lcom/example/demarc/demarc/Placement;"), (0, .class_ 49), (0, u "com/example/demarc/demarc/PlacementOfPinLaw"), (2, u "law"), (0, u "(II)Z")] 3

def k1m0 : Method := { name := "<init>", desc := "()V", sig := { parameters := [], returnType := none }, accessFlags := 1, code := none }
def k1c1 : Code := { maxStack := 2, maxLocals := 8, code := code, exceptionTable := #[], attributes := #[] }
def k1m1 : Method := { name := "law", desc := "(II)Z", sig := { parameters := [.int, .int], returnType := some .boolean }, accessFlags := 9, code := some k1c1 }
/-- com/example/demarc/demarc/PlacementOfPinLaw -/
def k1 : Class := { plain "com/example/demarc/demarc/PlacementOfPinLaw" (some 0) with
  accessFlags := 49
  interfaces := #[]
  cf := some (fileOf pool1 48 #[] #[{ accessFlags := 1, nameIndex := 5, descriptorIndex := 6, attributes := #[] }, { accessFlags := 9, nameIndex := 52, descriptorIndex := 53, attributes := #[] }] 49 2 #[] #[])
  fields := #[]
  methods := #[k1m0, k1m1]
  instanceTypes := #[]
  staticTypes := #[]
  resolved := Array.replicate 57 none
  statics := none }

def pool2 : Array CpInfo := pool [(1, .class_ 2), (0, u "java/lang/constant/Constable"), (0, .class_ 4), (0, u "java/lang/Object")] 6

/-- java/lang/constant/Constable -/
def k2 : Class := { plain "java/lang/constant/Constable" (some 0) with
  accessFlags := 1537
  interfaces := #[]
  cf := some (fileOf pool2 1 #[] #[] 1537 3 #[] #[])
  fields := #[]
  methods := #[]
  instanceTypes := #[]
  staticTypes := #[]
  resolved := Array.replicate 11 none
  statics := none }

def pool3 : Array CpInfo := pool [(1, .class_ 2), (0, u "java/lang/Comparable"), (0, .class_ 4), (0, u "java/lang/Object")] 7

/-- java/lang/Comparable -/
def k3 : Class := { plain "java/lang/Comparable" (some 0) with
  accessFlags := 1537
  interfaces := #[]
  cf := some (fileOf pool3 1 #[] #[] 1537 3 #[] #[])
  fields := #[]
  methods := #[]
  instanceTypes := #[]
  staticTypes := #[]
  resolved := Array.replicate 12 none
  statics := none }

def pool4 : Array CpInfo := pool [(1, .class_ 2), (0, u "java/io/Serializable"), (0, .class_ 4), (0, u "java/lang/Object")] 2

/-- java/io/Serializable -/
def k4 : Class := { plain "java/io/Serializable" (some 0) with
  accessFlags := 1537
  interfaces := #[]
  cf := some (fileOf pool4 1 #[] #[] 1537 3 #[] #[])
  fields := #[]
  methods := #[]
  instanceTypes := #[]
  staticTypes := #[]
  resolved := Array.replicate 7 none
  statics := none }

def pool5 : Array CpInfo := pool [(2, .class_ 4), (1, u "java/lang/Enum"), (0, u "name"), (0, u "Ljava/lang/String;"), (0, .fieldref 2 8), (0, .nameAndType 9 10), (0, u "ordinal"), (0, u "I"), (1, .class_ 14), (1, u "java/lang/Object"), (4, u "hash"), (86, .class_ 108), (1, u "java/lang/Enum$EnumDesc"), (2, .class_ 112), (0, u "java/lang/constant/Constable"), (0, .class_ 114), (0, u "java/lang/Comparable"), (0, .class_ 116), (0, u "java/io/Serializable"), (9, u "()I")] 77

def k5c0 : Code := { maxStack := 1, maxLocals := 1, code := jdk_37_method_2_code, exceptionTable := #[], attributes := #[] }
def k5m0 : Method := { name := "ordinal", desc := "()I", sig := { parameters := [], returnType := some .int }, accessFlags := 17, code := some k5c0 }
/-- java/lang/Enum -/
def k5 : Class := { plain "java/lang/Enum" (some 0) with
  accessFlags := 1057
  interfaces := #[2, 3, 4]
  cf := some (fileOf pool5 2 #[.nestMembers #[106]] #[{ accessFlags := 17, nameIndex := 9, descriptorIndex := 126, attributes := #[] }] 1057 12 #[111, 113, 115] #[{ accessFlags := 18, nameIndex := 5, descriptorIndex := 6, attributes := #[] }, { accessFlags := 18, nameIndex := 9, descriptorIndex := 10, attributes := #[] }, { accessFlags := 2, nameIndex := 19, descriptorIndex := 10, attributes := #[] }])
  fields := #[{ name := "name", type := (.object "java/lang/String"), accessFlags := 18, slot := 0, constantValue := 0 }, { name := "ordinal", type := .int, accessFlags := 18, slot := 1, constantValue := 0 }, { name := "hash", type := .int, accessFlags := 2, slot := 2, constantValue := 0 }]
  methods := #[k5m0]
  instanceTypes := #[(.object "java/lang/String"), .int, .int]
  staticTypes := #[]
  resolved := Array.replicate 204 none
  statics := none }

def pool6 : Array CpInfo := pool [(1, .class_ 2), (0, u "com/example/demarc/demarc/TransactionAttributeType"), (2, u "REQUIRED"), (0, u "Lcom/example/demarc/demarc/TransactionAttributeType;"), (2, u "REQUIRES_NEW"), (2, u "MANDATORY"), (2, u "NOT_SUPPORTED"), (2, u "SUPPORTS"), (2, u "NEVER"), (2, u "$VALUES"), (0, u "[Lcom/example/demarc/demarc/TransactionAttributeType;"), (6, .class_ 34), (1, u "java/lang/Enum")] 28

/-- com/example/demarc/demarc/TransactionAttributeType -/
def k6 : Class := { plain "com/example/demarc/demarc/TransactionAttributeType" (some 5) with
  accessFlags := 16433
  interfaces := #[]
  cf := some (fileOf pool6 1 #[] #[] 16433 32 #[] #[{ accessFlags := 16409, nameIndex := 5, descriptorIndex := 6, attributes := #[] }, { accessFlags := 16409, nameIndex := 9, descriptorIndex := 6, attributes := #[] }, { accessFlags := 16409, nameIndex := 12, descriptorIndex := 6, attributes := #[] }, { accessFlags := 16409, nameIndex := 15, descriptorIndex := 6, attributes := #[] }, { accessFlags := 16409, nameIndex := 18, descriptorIndex := 6, attributes := #[] }, { accessFlags := 16409, nameIndex := 21, descriptorIndex := 6, attributes := #[] }, { accessFlags := 4122, nameIndex := 24, descriptorIndex := 25, attributes := #[] }])
  fields := #[{ name := "REQUIRED", type := (.object "com/example/demarc/demarc/TransactionAttributeType"), accessFlags := 16409, slot := 0, constantValue := 0 }, { name := "REQUIRES_NEW", type := (.object "com/example/demarc/demarc/TransactionAttributeType"), accessFlags := 16409, slot := 1, constantValue := 0 }, { name := "MANDATORY", type := (.object "com/example/demarc/demarc/TransactionAttributeType"), accessFlags := 16409, slot := 2, constantValue := 0 }, { name := "NOT_SUPPORTED", type := (.object "com/example/demarc/demarc/TransactionAttributeType"), accessFlags := 16409, slot := 3, constantValue := 0 }, { name := "SUPPORTS", type := (.object "com/example/demarc/demarc/TransactionAttributeType"), accessFlags := 16409, slot := 4, constantValue := 0 }, { name := "NEVER", type := (.object "com/example/demarc/demarc/TransactionAttributeType"), accessFlags := 16409, slot := 5, constantValue := 0 }, { name := "$VALUES", type := (.array (.object "com/example/demarc/demarc/TransactionAttributeType")), accessFlags := 4122, slot := 6, constantValue := 0 }]
  methods := #[]
  instanceTypes := #[(.object "java/lang/String"), .int, .int]
  staticTypes := #[(.object "com/example/demarc/demarc/TransactionAttributeType"), (.object "com/example/demarc/demarc/TransactionAttributeType"), (.object "com/example/demarc/demarc/TransactionAttributeType"), (.object "com/example/demarc/demarc/TransactionAttributeType"), (.object "com/example/demarc/demarc/TransactionAttributeType"), (.object "com/example/demarc/demarc/TransactionAttributeType"), (.array (.object "com/example/demarc/demarc/TransactionAttributeType"))]
  resolved := Array.replicate 63 none
  statics := some 0 }

def pool7 : Array CpInfo := pool [(1, .class_ 2), (0, u "com/example/demarc/demarc/Placement"), (0, .fieldref 1 4), (0, .nameAndType 5 6), (0, u "JOIN"), (0, u "Lcom/example/demarc/demarc/Placement;"), (0, .fieldref 1 8), (0, .nameAndType 9 6), (0, u "NEW"), (0, .fieldref 1 11), (0, .nameAndType 12 6), (0, u "NONE"), (0, .fieldref 1 14), (0, .nameAndType 15 6), (0, u "REFUSED"), (2, u "$VALUES"), (0, u "[Lcom/example/demarc/demarc/Placement;"), (6, .class_ 28), (1, u "java/lang/Enum"), (6, .fieldref 36 37), (0, .class_ 38), (0, .nameAndType 39 40), (0, u "com/example/demarc/demarc/Placement$1"), (0, u "$SwitchMap$com$example$demarc$demarc$TransactionAttributeType"), (0, u "[I"), (0, .methodref 42 43), (0, .class_ 44), (0, .nameAndType 45 46), (0, u "com/example/demarc/demarc/TransactionAttributeType"), (0, u "ordinal"), (0, u "()I"), (7, u "of"), (0, u "(Lcom/example/demarc/demarc/TransactionAttributeType;Z)Lcom/example/demarc/demarc/Placement;")] 25

def k7c0 : Code := { maxStack := 4, maxLocals := 3, code := prog_19_method_4_code, exceptionTable := #[], attributes := #[] }
def k7m0 : Method := { name := "of", desc := "(Lcom/example/demarc/demarc/TransactionAttributeType;Z)Lcom/example/demarc/demarc/Placement;", sig := { parameters := [(.object "com/example/demarc/demarc/TransactionAttributeType"), .boolean], returnType := some (.object "com/example/demarc/demarc/Placement") }, accessFlags := 8, code := some k7c0 }
/-- com/example/demarc/demarc/Placement -/
def k7 : Class := { plain "com/example/demarc/demarc/Placement" (some 5) with
  accessFlags := 16432
  interfaces := #[]
  cf := some (fileOf pool7 1 #[.nestMembers #[36]] #[{ accessFlags := 8, nameIndex := 54, descriptorIndex := 55, attributes := #[] }] 16432 26 #[] #[{ accessFlags := 16409, nameIndex := 5, descriptorIndex := 6, attributes := #[] }, { accessFlags := 16409, nameIndex := 9, descriptorIndex := 6, attributes := #[] }, { accessFlags := 16409, nameIndex := 12, descriptorIndex := 6, attributes := #[] }, { accessFlags := 16409, nameIndex := 15, descriptorIndex := 6, attributes := #[] }, { accessFlags := 4122, nameIndex := 18, descriptorIndex := 19, attributes := #[] }])
  fields := #[{ name := "JOIN", type := (.object "com/example/demarc/demarc/Placement"), accessFlags := 16409, slot := 0, constantValue := 0 }, { name := "NEW", type := (.object "com/example/demarc/demarc/Placement"), accessFlags := 16409, slot := 1, constantValue := 0 }, { name := "NONE", type := (.object "com/example/demarc/demarc/Placement"), accessFlags := 16409, slot := 2, constantValue := 0 }, { name := "REFUSED", type := (.object "com/example/demarc/demarc/Placement"), accessFlags := 16409, slot := 3, constantValue := 0 }, { name := "$VALUES", type := (.array (.object "com/example/demarc/demarc/Placement")), accessFlags := 4122, slot := 4, constantValue := 0 }]
  methods := #[k7m0]
  instanceTypes := #[(.object "java/lang/String"), .int, .int]
  staticTypes := #[(.object "com/example/demarc/demarc/Placement"), (.object "com/example/demarc/demarc/Placement"), (.object "com/example/demarc/demarc/Placement"), (.object "com/example/demarc/demarc/Placement"), (.array (.object "com/example/demarc/demarc/Placement"))]
  resolved := Array.replicate 81 none
  statics := some 1 }

def pool8 : Array CpInfo := pool [(8, .class_ 10), (1, u "com/example/demarc/demarc/Placement$1"), (0, u "$SwitchMap$com$example$demarc$demarc$TransactionAttributeType"), (0, u "[I"), (25, .class_ 39), (0, u "java/lang/Object"), (8, .class_ 49), (0, u "com/example/demarc/demarc/Placement")] 2

/-- com/example/demarc/demarc/Placement$1 -/
def k8 : Class := { plain "com/example/demarc/demarc/Placement$1" (some 0) with
  accessFlags := 4128
  interfaces := #[]
  cf := some (fileOf pool8 8 #[.nestHost 48] #[] 4128 38 #[] #[{ accessFlags := 4120, nameIndex := 11, descriptorIndex := 12, attributes := #[] }])
  fields := #[{ name := "$SwitchMap$com$example$demarc$demarc$TransactionAttributeType", type := (.array .int), accessFlags := 4120, slot := 0, constantValue := 0 }]
  methods := #[]
  instanceTypes := #[]
  staticTypes := #[(.array .int)]
  resolved := Array.replicate 52 none
  statics := some 2 }

def pool9 : Array CpInfo := pool [(1, u "java/lang/Cloneable"), (0, .class_ 1), (0, u "java/lang/Object"), (0, .class_ 3)] 3

/-- java/lang/Cloneable -/
def k9 : Class := { plain "java/lang/Cloneable" (some 0) with
  accessFlags := 1537
  interfaces := #[]
  cf := some (fileOf pool9 2 #[] #[] 1537 4 #[] #[])
  fields := #[]
  methods := #[]
  instanceTypes := #[]
  staticTypes := #[]
  resolved := Array.replicate 8 none
  statics := none }

/-- the primitive byte -/
def k10 : Class := { plain "byte" none with kind := .primitive 'B', accessFlags := 0x411 }
/-- [B -/
def k11 : Class := { plain "[B" (some 0) with kind := .array 10 .byte, interfaces := #[9, 4], accessFlags := 1041 }

/-- the primitive int -/
def k12 : Class := { plain "int" none with kind := .primitive 'I', accessFlags := 0x411 }
/-- [I -/
def k13 : Class := { plain "[I" (some 0) with kind := .array 12 .int, interfaces := #[9, 4], accessFlags := 1041 }

def heap : Heap := #[{ cls := 6, slots := #[.ref 3, .ref 7, .ref 6, .ref 12, .ref 9, .ref 4, .null], vm := .statics 6 },
  { cls := 7, slots := #[.ref 5, .ref 11, .ref 10, .ref 8, .null], vm := .statics 7 },
  { cls := 8, slots := #[.ref 13], vm := .statics 8 },
  { cls := 6, slots := #[.null, .int 0, .int 0], vm := .none },
  { cls := 6, slots := #[.null, .int 5, .int 0], vm := .none },
  { cls := 7, slots := #[.null, .int 0, .int 0], vm := .none },
  { cls := 6, slots := #[.null, .int 2, .int 0], vm := .none },
  { cls := 6, slots := #[.null, .int 1, .int 0], vm := .none },
  { cls := 7, slots := #[.null, .int 0, .int 0], vm := .none },
  { cls := 6, slots := #[.null, .int 4, .int 0], vm := .none },
  { cls := 7, slots := #[.null, .int 0, .int 0], vm := .none },
  { cls := 7, slots := #[.null, .int 0, .int 0], vm := .none },
  { cls := 6, slots := #[.null, .int 3, .int 0], vm := .none },
  { cls := 13, slots := #[.int 1, .int 4, .int 2, .int 5, .int 3, .int 6], vm := .none }]
def classes : Array Class := #[k0, k1, k2, k3, k4, k5, k6, k7, k8, k9, k10, k11, k12, k13]
def interned : List (Array UInt16 × Addr) := []
def slotsUsed : Nat := 49
def theMethod : MethodId := ⟨1, 1⟩
def args0 : Array Value := #[.int 5, .int 5]
def aboutOver (below : List Frame) : State where
  vm := { classes := classes, interned := interned.toArray }
  heap := heap
  slotsUsed := slotsUsed
  threads := #[{ frames := .invoking theMethod args0 :: below }]
def below0 : List Frame := [.native { method := ⟨0, 0⟩, args := #[] }]
def about1 : State := aboutOver below0
def p0 : Program := .bare "" "" ""
def e0 : Env := launch0.env 0 0 0
theorem w_frames : about1.frames = Frame.invoking theMethod args0 :: below0 := rfl
set_option maxRecDepth 65536 in
theorem w_args : argsFit about1.vm theMethod args0 = true := by decide +kernel
set_option maxRecDepth 65536 in
theorem w_heap : heapFits about1 = true := by decide +kernel
set_option maxRecDepth 65536 in
theorem w_runnable : about1.curStatus? = some .runnable := by decide +kernel
set_option maxRecDepth 65536 in
theorem w_alone : about1.alone = true := by decide +kernel
set_option maxRecDepth 65536 in
theorem w_named : about1.methodNamed? x = some theMethod := by decide +kernel
set_option maxRecDepth 65536 in
theorem w_hears : about1.hears theMethod below0 = true := by decide +kernel
set_option maxRecDepth 65536 in
theorem w_ripe : about1.ripe theMethod args0 below0 = true := by decide +kernel
theorem w_running : about1.status = .running := rfl
set_option maxRecDepth 65536 in
theorem w_room : about1.hasRoom e0.platform room_1 = true :=
  launch0.hasRoom_least _ room_1 (by decide +kernel) (by decide +kernel) (by decide +kernel) (by decide +kernel) (by decide +kernel) (by decide +kernel)
theorem allAtoms_all (ts : List Jvm.Cond) (a : Array Jvm.Value) (st : Jvm.State) : (allAtoms ts).before a st = ts.all (fun c => c.before a st) := by
  induction ts with
  | nil => rfl
  | cons c t ih =>
    show (Jvm.Cond.and c (allAtoms t)).before a st = _
    rw [Jvm.Cond.before_and, ih, List.all_cons]
def words1 : List Jvm.Cond := Jvm.Cond.code x code maxLocals ret :: tables_1
/-- a 'code' word, met by the world's own term for the bytes: nothing is compared byte by byte -/
theorem code_word {y : MethodName} {bytes : ByteArray} {mx : Nat} {rt : Option FieldType} {a : Array Value} {s : State} {m : MethodId} {meth : Method} {c : Code} (h1 : s.methodNamed? y = some m) (h2 : s.vm.method? m = some meth) (h3 : meth.code = some c) (h4 : c.code = bytes)
    (h5 : (c.maxLocals == mx && c.exceptionTable.isEmpty && decide (c.maxStack ≤ mostOperands) && decide (meth.sig.returnType = rt) && !meth.locks && decide (parseMethodDescriptor y.desc = some meth.sig)) = true) : (Jvm.Cond.code y bytes mx rt).before a s = true := by
  simp only [Bool.and_eq_true, beq_iff_eq, Bool.not_eq_true', decide_eq_true_eq] at h5
  obtain ⟨⟨⟨⟨⟨g1, g2⟩, g3⟩, g4⟩, g5⟩, g6⟩ := h5
  simp [Cond.before, Cond.holds, Cond.value, h1, h2, h3, h4, g1, g2, g3, g4, g5, g6]
def isCode : Jvm.Cond → Bool
  | .code _ _ _ _ => true
  | _ => false
theorem all_split {L : List Jvm.Cond} {P : Jvm.Cond → Bool} (h1 : L.all (fun c => isCode c || P c) = true) (h2 : ∀ c ∈ L.filter isCode, P c = true) : L.all P = true := by
  refine List.all_eq_true.mpr fun c hc => ?_
  have h := List.all_eq_true.mp h1 c hc
  rcases Bool.eq_false_or_eq_true (isCode c) with hi | hi
  · exact h2 c (List.mem_filter.mpr ⟨hc, hi⟩)
  · simpa [hi] using h
set_option maxRecDepth 65536 in
theorem w_c0 : (Jvm.Cond.code x code maxLocals ret).before args0 about1 = true := code_word (m := ⟨1, 1⟩) (meth := k1m1) (c := k1c1) (by decide +kernel) rfl rfl rfl (by decide +kernel)
set_option maxRecDepth 65536 in
theorem w_c1 : (Jvm.Cond.code ({ cls := "com/example/demarc/demarc/Placement", name := "of", desc := "(Lcom/example/demarc/demarc/TransactionAttributeType;Z)Lcom/example/demarc/demarc/Placement;" } : Jvm.MethodName) prog_19_method_4_code (3 : Nat) (Option.some (Jvm.ClassFile.FieldType.object "com/example/demarc/demarc/Placement"))).before args0 about1 = true := code_word (m := ⟨7, 0⟩) (meth := k7m0) (c := k7c0) (by decide +kernel) rfl rfl rfl (by decide +kernel)
set_option maxRecDepth 65536 in
theorem w_c2 : (Jvm.Cond.code ({ cls := "java/lang/Enum", name := "ordinal", desc := "()I" } : Jvm.MethodName) jdk_37_method_2_code (1 : Nat) (Option.some Jvm.ClassFile.FieldType.int)).before args0 about1 = true := code_word (m := ⟨5, 0⟩) (meth := k5m0) (c := k5c0) (by decide +kernel) rfl rfl rfl (by decide +kernel)
def codes1 : List Jvm.Cond := [Jvm.Cond.code x code maxLocals ret, Jvm.Cond.code ({ cls := "com/example/demarc/demarc/Placement", name := "of", desc := "(Lcom/example/demarc/demarc/TransactionAttributeType;Z)Lcom/example/demarc/demarc/Placement;" } : Jvm.MethodName) prog_19_method_4_code (3 : Nat) (Option.some (Jvm.ClassFile.FieldType.object "com/example/demarc/demarc/Placement")), Jvm.Cond.code ({ cls := "java/lang/Enum", name := "ordinal", desc := "()I" } : Jvm.MethodName) jdk_37_method_2_code (1 : Nat) (Option.some Jvm.ClassFile.FieldType.int)]
set_option maxRecDepth 65536 in
theorem codes_eq : words1.filter isCode = codes1 := rfl
theorem w_codes : ∀ c ∈ words1.filter isCode, c.before args0 about1 = true := by
  rw [codes_eq]
  intro c hc
  simp only [codes1, List.mem_cons, List.not_mem_nil, or_false] at hc
  rcases hc with rfl | rfl | rfl
  · exact w_c0
  · exact w_c1
  · exact w_c2
set_option maxRecDepth 65536 in
theorem w_t1 : (words1.take 24).all (fun c => isCode c || c.before args0 about1) = true := by decide +kernel
set_option maxRecDepth 65536 in
theorem w_t2 : (words1.drop 24).all (fun c => isCode c || c.before args0 about1) = true := by decide +kernel
theorem w_tables : (allAtoms (Jvm.Cond.code x code maxLocals ret :: tables_1)).before args0 about1 = true := by
  rw [allAtoms_all]
  show words1.all (fun c => c.before args0 about1) = true
  refine all_split ?_ w_codes
  rw [← List.take_append_drop 24 words1, List.all_append, w_t1, w_t2]
  rfl
set_option maxRecDepth 65536 in
theorem w_case : (Jvm.Cond.and given_1 narrow_1).before args0 about1 = true := by decide +kernel
theorem w_applies : (headSpec (Jvm.Cond.code x code maxLocals ret :: tables_1) room_1).applies x e0.platform about1 = true :=
  (Spec.applies_iff w_frames).mpr ⟨w_running, w_runnable, w_alone, w_named, w_hears, w_ripe, w_room, w_tables⟩
theorem atStart : AtStart classFile x code maxLocals ret World_1 tables_1 room_1 Calls_1 rest_1 Pre_1 launch0 p0 e0 about1 theMethod args0 below0 :=
  ⟨lists_1, trivial, launch0.admits_env _ _ _, launch0.least_env, fairChoices_fair.cas, fairChoices_fair.clock, w_frames, w_args, w_heap, w_applies, trivial, trivial, w_case⟩
end start1
theorem witness_1 : WitnessClaimed_1 := ⟨start1.p0, start1.e0, start1.about1, start1.theMethod, start1.args0, start1.below0, start1.atStart⟩
end Jvm.Pilot.@@N@@
