import JvmDerived
import JvmDerived.Pilot.@@N@@Statement
import JvmDerived.Pilot.@@N@@Code
set_option linter.unusedVariables false
set_option linter.unusedSimpArgs false
namespace Jvm.RoadKit
open Sem ClassFile Op Lib Jvm.Stand Jvm.Free Jvm.LawKit
section New
variable {p : Program} {l : Launch} {e : Env} {R : Room} {s : State} {m : MethodId} {args : Array Value} {below : List Frame} {meth : Method} {c : Code} {T : State} {locs : List Loc} {cells slots : Nat}
theorem retI (X : Stand p l e R s m args below meth c T locs cells slots) (hx : p.tables.exec = Jvm.exec) {pc : Nat} {Ls : Array Slot} {z : Int32} {rest : List Value} (hret : meth.sig.returnType = some .int) (hd : decode c.code pc = .ok (.ireturn, 1)) {fs : List Frame}
    (hl : ∀ (f : JFrame) (acts : List Action), f.method = m → f.locked = none → f.entered = [] → (doReturn e (T.setTop f) acts (some (.int z))).1 = T.setFrames fs) : Steps p.tables e below (T.setTop (mkF m pc Ls (.int z :: rest))) (T.setFrames fs) := by
  have hm' : T.vm.method? m = some meth := X.method'
  have hn : narrow .int (.int z) = .int z := rfl
  show Steps p.tables e below (T.setTop { method := m, pc := pc, locals := Ls, stack := _ :: rest, locked := none }) _
  jvm_step X.here [X.here.top, hx, hd, hm', hret, hn]
  first | (intro acts; rw [hl _ acts rfl rfl rfl]) | rw [hl _ _ rfl rfl rfl]
  exact Steps.refl _
end New
end Jvm.RoadKit
namespace Jvm.Pilot.@@N@@
open Jvm Jvm.ClassFile Sem Op Lib Jvm.Free Jvm.Stand Jvm.LawKit Jvm.RoadKit Bundle Jvm.Pilot.@@N@@.Jvm.D
theorem ef_rm_ord (m : MethodId) (x0 : Addr) : entryFrame m #[(.ref x0)] 1 = mkF m 0 #[.val (.ref x0)] [] := by first | (simp [entryFrame, mkF, argsToLocals, Value.category]; done) | rfl
theorem d_jdk_37_method_2_0 : decode jdk_37_method_2_code 0 = .ok (.aload_n 0, 1) := by decide +kernel
theorem d_jdk_37_method_2_1 : decode jdk_37_method_2_code 1 = .ok (.getfield 7, 3) := by decide +kernel
theorem d_jdk_37_method_2_4 : decode jdk_37_method_2_code 4 = .ok (.ireturn, 1) := by decide +kernel
theorem pn_0 : plainName "java/lang/Enum" = true := by first | (simp [plainName, overriddenIn]; done) | decide +kernel
theorem ef_rm_of_REQUIRED_1 (m : MethodId) (x0 : Addr) (x1 : Int32) : entryFrame m #[(.ref x0), (.int x1)] 3 = mkF m 0 #[.val (.ref x0), .val (.int x1), .unset] [] := by first | (simp [entryFrame, mkF, argsToLocals, Value.category]; done) | rfl
theorem d_prog_19_method_4_0 : decode prog_19_method_4_code 0 = .ok (.iload_n 1, 1) := by decide +kernel
theorem d_prog_19_method_4_1 : decode prog_19_method_4_code 1 = .ok (.ifCond .eq 86, 3) := by decide +kernel
theorem d_prog_19_method_4_4 : decode prog_19_method_4_code 4 = .ok (.getstatic 35, 3) := by decide +kernel
theorem d_prog_19_method_4_7 : decode prog_19_method_4_code 7 = .ok (.aload_n 0, 1) := by decide +kernel
theorem pd_0 : parseMethodDescriptor "()I" = some ⟨[], some .int⟩ := by decide +kernel
theorem d_prog_19_method_4_8 : decode prog_19_method_4_code 8 = .ok (.invokevirtual 41, 3) := by decide +kernel
theorem d_prog_19_method_4_11 : decode prog_19_method_4_code 11 = .ok (.iaload, 1) := by decide +kernel
theorem d_prog_19_method_4_12 : decode prog_19_method_4_code 12 = .ok (.tableswitch 40 1 6 #[50, 50, 50, 56, 62, 68], 40) := by decide +kernel
theorem d_prog_19_method_4_62 : decode prog_19_method_4_code 62 = .ok (.getstatic 3, 3) := by decide +kernel
theorem d_prog_19_method_4_65 : decode prog_19_method_4_code 65 = .ok (.goto 18, 3) := by decide +kernel
theorem d_prog_19_method_4_83 : decode prog_19_method_4_code 83 = .ok (.astore_n 2, 1) := by decide +kernel
theorem d_prog_19_method_4_84 : decode prog_19_method_4_code 84 = .ok (.goto 74, 3) := by decide +kernel
theorem d_prog_19_method_4_158 : decode prog_19_method_4_code 158 = .ok (.aload_n 2, 1) := by decide +kernel
theorem d_prog_19_method_4_159 : decode prog_19_method_4_code 159 = .ok (.areturn, 1) := by decide +kernel
theorem pn_1 : plainName "com/example/demarc/demarc/Placement" = true := by first | (simp [plainName, overriddenIn]; done) | decide +kernel
theorem ef_rm_of_REQUIRED_0 (m : MethodId) (x0 : Addr) (x1 : Int32) : entryFrame m #[(.ref x0), (.int x1)] 3 = mkF m 0 #[.val (.ref x0), .val (.int x1), .unset] [] := by first | (simp [entryFrame, mkF, argsToLocals, Value.category]; done) | rfl
theorem d_prog_19_method_4_87 : decode prog_19_method_4_code 87 = .ok (.getstatic 35, 3) := by decide +kernel
theorem d_prog_19_method_4_90 : decode prog_19_method_4_code 90 = .ok (.aload_n 0, 1) := by decide +kernel
theorem d_prog_19_method_4_91 : decode prog_19_method_4_code 91 = .ok (.invokevirtual 41, 3) := by decide +kernel
theorem d_prog_19_method_4_94 : decode prog_19_method_4_code 94 = .ok (.iaload, 1) := by decide +kernel
theorem d_prog_19_method_4_95 : decode prog_19_method_4_code 95 = .ok (.tableswitch 37 1 6 #[47, 59, 53, 47, 53, 53], 37) := by decide +kernel
theorem d_prog_19_method_4_142 : decode prog_19_method_4_code 142 = .ok (.getstatic 7, 3) := by decide +kernel
theorem d_prog_19_method_4_145 : decode prog_19_method_4_code 145 = .ok (.goto 12, 3) := by decide +kernel
theorem d_prog_19_method_4_157 : decode prog_19_method_4_code 157 = .ok (.astore_n 2, 1) := by decide +kernel
theorem ef_rm_of_NOT_SUPPORTED_1 (m : MethodId) (x0 : Addr) (x1 : Int32) : entryFrame m #[(.ref x0), (.int x1)] 3 = mkF m 0 #[.val (.ref x0), .val (.int x1), .unset] [] := by first | (simp [entryFrame, mkF, argsToLocals, Value.category]; done) | rfl
theorem d_prog_19_method_4_74 : decode prog_19_method_4_code 74 = .ok (.getstatic 10, 3) := by decide +kernel
theorem d_prog_19_method_4_77 : decode prog_19_method_4_code 77 = .ok (.goto 6, 3) := by decide +kernel
theorem ef_rm_of_NOT_SUPPORTED_0 (m : MethodId) (x0 : Addr) (x1 : Int32) : entryFrame m #[(.ref x0), (.int x1)] 3 = mkF m 0 #[.val (.ref x0), .val (.int x1), .unset] [] := by first | (simp [entryFrame, mkF, argsToLocals, Value.category]; done) | rfl
theorem d_prog_19_method_4_148 : decode prog_19_method_4_code 148 = .ok (.getstatic 10, 3) := by decide +kernel
theorem d_prog_19_method_4_151 : decode prog_19_method_4_code 151 = .ok (.goto 6, 3) := by decide +kernel
theorem ef_rm_of_MANDATORY_1 (m : MethodId) (x0 : Addr) (x1 : Int32) : entryFrame m #[(.ref x0), (.int x1)] 3 = mkF m 0 #[.val (.ref x0), .val (.int x1), .unset] [] := by first | (simp [entryFrame, mkF, argsToLocals, Value.category]; done) | rfl
theorem ef_rm_of_MANDATORY_0 (m : MethodId) (x0 : Addr) (x1 : Int32) : entryFrame m #[(.ref x0), (.int x1)] 3 = mkF m 0 #[.val (.ref x0), .val (.int x1), .unset] [] := by first | (simp [entryFrame, mkF, argsToLocals, Value.category]; done) | rfl
theorem d_prog_19_method_4_154 : decode prog_19_method_4_code 154 = .ok (.getstatic 13, 3) := by decide +kernel
theorem ef_rm_of_REQUIRES_NEW_1 (m : MethodId) (x0 : Addr) (x1 : Int32) : entryFrame m #[(.ref x0), (.int x1)] 3 = mkF m 0 #[.val (.ref x0), .val (.int x1), .unset] [] := by first | (simp [entryFrame, mkF, argsToLocals, Value.category]; done) | rfl
theorem d_prog_19_method_4_68 : decode prog_19_method_4_code 68 = .ok (.getstatic 7, 3) := by decide +kernel
theorem d_prog_19_method_4_71 : decode prog_19_method_4_code 71 = .ok (.goto 12, 3) := by decide +kernel
theorem ef_rm_of_REQUIRES_NEW_0 (m : MethodId) (x0 : Addr) (x1 : Int32) : entryFrame m #[(.ref x0), (.int x1)] 3 = mkF m 0 #[.val (.ref x0), .val (.int x1), .unset] [] := by first | (simp [entryFrame, mkF, argsToLocals, Value.category]; done) | rfl
theorem ef_rm_of_NEVER_1 (m : MethodId) (x0 : Addr) (x1 : Int32) : entryFrame m #[(.ref x0), (.int x1)] 3 = mkF m 0 #[.val (.ref x0), .val (.int x1), .unset] [] := by first | (simp [entryFrame, mkF, argsToLocals, Value.category]; done) | rfl
theorem d_prog_19_method_4_80 : decode prog_19_method_4_code 80 = .ok (.getstatic 13, 3) := by decide +kernel
theorem ef_rm_of_NEVER_0 (m : MethodId) (x0 : Addr) (x1 : Int32) : entryFrame m #[(.ref x0), (.int x1)] 3 = mkF m 0 #[.val (.ref x0), .val (.int x1), .unset] [] := by first | (simp [entryFrame, mkF, argsToLocals, Value.category]; done) | rfl
theorem ef_rm_of_SUPPORTS_1 (m : MethodId) (x0 : Addr) (x1 : Int32) : entryFrame m #[(.ref x0), (.int x1)] 3 = mkF m 0 #[.val (.ref x0), .val (.int x1), .unset] [] := by first | (simp [entryFrame, mkF, argsToLocals, Value.category]; done) | rfl
theorem ef_rm_of_SUPPORTS_0 (m : MethodId) (x0 : Addr) (x1 : Int32) : entryFrame m #[(.ref x0), (.int x1)] 3 = mkF m 0 #[.val (.ref x0), .val (.int x1), .unset] [] := by first | (simp [entryFrame, mkF, argsToLocals, Value.category]; done) | rfl
theorem ef_rm_alw_REQUIRED (m : MethodId) (x0 : Addr) : entryFrame m #[(.ref x0)] 1 = mkF m 0 #[.val (.ref x0)] [] := by first | (simp [entryFrame, mkF, argsToLocals, Value.category]; done) | rfl
theorem d_prog_19_method_5_0 : decode prog_19_method_5_code 0 = .ok (.aload_n 0, 1) := by decide +kernel
theorem d_prog_19_method_5_1 : decode prog_19_method_5_code 1 = .ok (.iconst 1, 1) := by decide +kernel
theorem pd_1 : parseMethodDescriptor "(Lcom/example/demarc/demarc/TransactionAttributeType;Z)Lcom/example/demarc/demarc/Placement;" = some ⟨[(.object "com/example/demarc/demarc/TransactionAttributeType"), .boolean], some (.object "com/example/demarc/demarc/Placement")⟩ := by decide +kernel
theorem d_prog_19_method_5_2 : decode prog_19_method_5_code 2 = .ok (.invokestatic 52, 3) := by decide +kernel
theorem d_prog_19_method_5_5 : decode prog_19_method_5_code 5 = .ok (.getstatic 10, 3) := by decide +kernel
theorem d_prog_19_method_5_8 : decode prog_19_method_5_code 8 = .ok (.if_acmp .eq 18, 3) := by decide +kernel
theorem d_prog_19_method_5_11 : decode prog_19_method_5_code 11 = .ok (.aload_n 0, 1) := by decide +kernel
theorem d_prog_19_method_5_12 : decode prog_19_method_5_code 12 = .ok (.iconst 0, 1) := by decide +kernel
theorem d_prog_19_method_5_13 : decode prog_19_method_5_code 13 = .ok (.invokestatic 52, 3) := by decide +kernel
theorem d_prog_19_method_5_16 : decode prog_19_method_5_code 16 = .ok (.getstatic 10, 3) := by decide +kernel
theorem d_prog_19_method_5_19 : decode prog_19_method_5_code 19 = .ok (.if_acmp .eq 7, 3) := by decide +kernel
theorem d_prog_19_method_5_22 : decode prog_19_method_5_code 22 = .ok (.iconst 1, 1) := by decide +kernel
theorem d_prog_19_method_5_23 : decode prog_19_method_5_code 23 = .ok (.goto 4, 3) := by decide +kernel
theorem d_prog_19_method_5_27 : decode prog_19_method_5_code 27 = .ok (.ireturn, 1) := by decide +kernel
theorem ef_rm_alw_NOT_SUPPORTED (m : MethodId) (x0 : Addr) : entryFrame m #[(.ref x0)] 1 = mkF m 0 #[.val (.ref x0)] [] := by first | (simp [entryFrame, mkF, argsToLocals, Value.category]; done) | rfl
theorem d_prog_19_method_5_26 : decode prog_19_method_5_code 26 = .ok (.iconst 0, 1) := by decide +kernel
theorem ef_rm_alw_MANDATORY (m : MethodId) (x0 : Addr) : entryFrame m #[(.ref x0)] 1 = mkF m 0 #[.val (.ref x0)] [] := by first | (simp [entryFrame, mkF, argsToLocals, Value.category]; done) | rfl
theorem ef_rm_alw_REQUIRES_NEW (m : MethodId) (x0 : Addr) : entryFrame m #[(.ref x0)] 1 = mkF m 0 #[.val (.ref x0)] [] := by first | (simp [entryFrame, mkF, argsToLocals, Value.category]; done) | rfl
theorem ef_rm_alw_NEVER (m : MethodId) (x0 : Addr) : entryFrame m #[(.ref x0)] 1 = mkF m 0 #[.val (.ref x0)] [] := by first | (simp [entryFrame, mkF, argsToLocals, Value.category]; done) | rfl
theorem ef_rm_alw_SUPPORTS (m : MethodId) (x0 : Addr) : entryFrame m #[(.ref x0)] 1 = mkF m 0 #[.val (.ref x0)] [] := by first | (simp [entryFrame, mkF, argsToLocals, Value.category]; done) | rfl
theorem ef_rm0 (m : MethodId) (x0 : Int32) : entryFrame m #[(.int x0)] maxLocals = mkF m 0 #[.val (.int x0), .unset, .unset, .unset] [] := by first | (simp [entryFrame, mkF, argsToLocals, Value.category, maxLocals]; done) | rfl
theorem pd_2 : parseMethodDescriptor "(Lcom/example/demarc/demarc/TransactionAttributeType;)Z" = some ⟨[(.object "com/example/demarc/demarc/TransactionAttributeType")], some .boolean⟩ := by decide +kernel
theorem pn_2 : plainName "com/example/demarc/demarc/PlacementAlwaysInTransactionPinLaw" = true := by first | (simp [plainName, overriddenIn]; done) | decide +kernel
def SB (Z : State) (a_REQUIRED : Addr) (a__SwitchMap_com_example_demarc_demarc_TransactionAttributeType : Addr) (a_JOIN : Addr) (a_NONE : Addr) (a_NEW : Addr) (a_NOT_SUPPORTED : Addr) (a_MANDATORY : Addr) (a_REFUSED : Addr) (a_REQUIRES_NEW : Addr) (a_NEVER : Addr) (a_SUPPORTS : Addr) (k_a__SwitchMap_com_example_demarc_demarc_TransactionAttributeType : ClassId) : Prop := (Exa Z Z.heap a_REQUIRED "com/example/demarc/demarc/TransactionAttributeType") ∧ (Sta Z Z.heap "com/example/demarc/demarc/TransactionAttributeType" "REQUIRED" "Lcom/example/demarc/demarc/TransactionAttributeType;" (.ref a_REQUIRED)) ∧ (Sta Z Z.heap "com/example/demarc/demarc/Placement$1" "$SwitchMap$com$example$demarc$demarc$TransactionAttributeType" "[I" (.ref a__SwitchMap_com_example_demarc_demarc_TransactionAttributeType)) ∧ (Fld Z Z.heap a_REQUIRED "java/lang/Enum" "ordinal" "I" (.int (0 : Int32))) ∧ (Exa Z Z.heap a_JOIN "com/example/demarc/demarc/Placement") ∧ (Sta Z Z.heap "com/example/demarc/demarc/Placement" "JOIN" "Lcom/example/demarc/demarc/Placement;" (.ref a_JOIN)) ∧ (Exa Z Z.heap a_NONE "com/example/demarc/demarc/Placement") ∧ (Sta Z Z.heap "com/example/demarc/demarc/Placement" "NONE" "Lcom/example/demarc/demarc/Placement;" (.ref a_NONE)) ∧ (Fld Z Z.heap a_JOIN "java/lang/Enum" "ordinal" "I" (.int (0 : Int32))) ∧ (Fld Z Z.heap a_NONE "java/lang/Enum" "ordinal" "I" (.int (2 : Int32))) ∧ (Exa Z Z.heap a_NEW "com/example/demarc/demarc/Placement") ∧ (Sta Z Z.heap "com/example/demarc/demarc/Placement" "NEW" "Lcom/example/demarc/demarc/Placement;" (.ref a_NEW)) ∧ (Fld Z Z.heap a_NEW "java/lang/Enum" "ordinal" "I" (.int (1 : Int32))) ∧ (Exa Z Z.heap a_NOT_SUPPORTED "com/example/demarc/demarc/TransactionAttributeType") ∧ (Sta Z Z.heap "com/example/demarc/demarc/TransactionAttributeType" "NOT_SUPPORTED" "Lcom/example/demarc/demarc/TransactionAttributeType;" (.ref a_NOT_SUPPORTED)) ∧ (Fld Z Z.heap a_NOT_SUPPORTED "java/lang/Enum" "ordinal" "I" (.int (3 : Int32))) ∧ (Exa Z Z.heap a_MANDATORY "com/example/demarc/demarc/TransactionAttributeType") ∧ (Sta Z Z.heap "com/example/demarc/demarc/TransactionAttributeType" "MANDATORY" "Lcom/example/demarc/demarc/TransactionAttributeType;" (.ref a_MANDATORY)) ∧ (Fld Z Z.heap a_MANDATORY "java/lang/Enum" "ordinal" "I" (.int (2 : Int32))) ∧ (Exa Z Z.heap a_REFUSED "com/example/demarc/demarc/Placement") ∧ (Sta Z Z.heap "com/example/demarc/demarc/Placement" "REFUSED" "Lcom/example/demarc/demarc/Placement;" (.ref a_REFUSED)) ∧ (Fld Z Z.heap a_REFUSED "java/lang/Enum" "ordinal" "I" (.int (3 : Int32))) ∧ (Exa Z Z.heap a_REQUIRES_NEW "com/example/demarc/demarc/TransactionAttributeType") ∧ (Sta Z Z.heap "com/example/demarc/demarc/TransactionAttributeType" "REQUIRES_NEW" "Lcom/example/demarc/demarc/TransactionAttributeType;" (.ref a_REQUIRES_NEW)) ∧ (Fld Z Z.heap a_REQUIRES_NEW "java/lang/Enum" "ordinal" "I" (.int (1 : Int32))) ∧ (Exa Z Z.heap a_NEVER "com/example/demarc/demarc/TransactionAttributeType") ∧ (Sta Z Z.heap "com/example/demarc/demarc/TransactionAttributeType" "NEVER" "Lcom/example/demarc/demarc/TransactionAttributeType;" (.ref a_NEVER)) ∧ (Fld Z Z.heap a_NEVER "java/lang/Enum" "ordinal" "I" (.int (5 : Int32))) ∧ (Exa Z Z.heap a_SUPPORTS "com/example/demarc/demarc/TransactionAttributeType") ∧ (Sta Z Z.heap "com/example/demarc/demarc/TransactionAttributeType" "SUPPORTS" "Lcom/example/demarc/demarc/TransactionAttributeType;" (.ref a_SUPPORTS)) ∧ (Fld Z Z.heap a_SUPPORTS "java/lang/Enum" "ordinal" "I" (.int (4 : Int32))) ∧ (Arv Z Z.heap a__SwitchMap_com_example_demarc_demarc_TransactionAttributeType k_a__SwitchMap_com_example_demarc_demarc_TransactionAttributeType .int (6 : Int32) [(.int (1 : Int32)), (.int (4 : Int32)), (.int (2 : Int32)), (.int (5 : Int32)), (.int (3 : Int32)), (.int (6 : Int32))] (.int (0 : Int32)))
def QI (r : Int32) (h0 : Heap) (n0 : Nat) (v : Option Value) (h : Heap) (L : List Loc) : Prop := v = some (.int r) ∧ Fr n0 L ∧ h = h0
def QR (r : Addr) (h0 : Heap) (n0 : Nat) (v : Option Value) (h : Heap) (L : List Loc) : Prop := v = some (.ref r) ∧ Fr n0 L ∧ h = h0
def Q0 (n0 : Nat) (v : Option Value) (h : Heap) (L : List Loc) : Prop := v = some (.int 1) ∧ Fr n0 L
set_option maxRecDepth 65536 in
set_option maxHeartbeats 40000000 in
theorem rm_ord (l : Launch) (Z : State) (a0 : Array Value) (hw : ∀ d ∈ tables_1, d.before a0 Z = true) (ws : List Jvm.Cond) (a1 : Addr) (w1 : Int32) (h0 : Heap) (n0 : Nat) (F1 : Fld Z h0 a1 "java/lang/Enum" "ordinal" "I" (.int w1)) :
    MetFree l (⟨"java/lang/Enum", "ordinal", "()I"⟩ : MethodName) (head1 (Jvm.Cond.code (⟨"java/lang/Enum", "ordinal", "()I"⟩ : MethodName) jdk_37_method_2_code 1 (some .int) :: ws) ({ frames := 0, cells := 0, slots := 0, locals := 0 } : Room)) (fun a U => a = #[(.ref a1)] ∧ Z.Warmed39 U.vm ∧ U.heap = h0) (fun _ _ _ _ _ => True) (fun _ U o U' => ∃ v L, o = .returned v ∧ QI w1 h0 n0 v U'.heap L ∧ FrameEnd U o U' L ({ frames := 0, cells := 0, slots := 0, locals := 0 } : Room).cells ({ frames := 0, cells := 0, slots := 0, locals := 0 } : Room).slots) := by
  refine MetFree.of_bodySF (plainFor_of_name pn_0) hisR ?_
  intro p e s m args below meth c s₁ Bd hml0 hP hK
  obtain ⟨rfl, hZ, hh⟩ := hP
  have hx := Bd.exec
  have hby := Bd.bytes
  have hml : c.maxLocals = 1 := hml0
  have hown : s.vm.findClass "java/lang/Enum" = some m.cls := findClass_of_methodNamed Bd.named
  have hnm := (name_of_methodNamed Bd.named Bd.method).1
  have X0 : Stand p l e ({ frames := 0, cells := 0, slots := 0, locals := 0 } : Room) s m #[(.ref a1)] below meth c s₁ [] 0 0 := Stand.of_body Bd
  have e0 : s₁.heap = h0 := by rw [← hh, Bd.state]; rfl
  have N0 := Fr.nil n0
  have pre0 : ∀ t, Steps p.tables e below (s₁.setTop (mkF m 0 #[.val (.ref a1)] [])) t → Steps p.tables e below (s₁.setTop (entryFrame m #[(.ref a1)] 1)) t := fun t k => castTop (ef_rm_ord m (a1)) k
  obtain ⟨T1, X1, e1, st1⟩ := getF X0 hx hZ hown (host := "") (Or.inl (hw _ (List.mem_of_getElem? (i := 21) rfl))) Via.refl e0 F1 (g := (mkF m 1 #[.val (.ref a1)] [(.ref a1)])) rfl rfl (hb hby d_jdk_37_method_2_1)
  obtain ⟨fs, hr, hrun, hended, hW, hsame⟩ := X1.leave (v := (some (.int w1))) (fun h => by rw [Bd.returns] at h; cases h)
  refine ⟨_, _, pre0 _ ?_, hrun, hended, _, _, rfl, ?_, ⟨_, rfl⟩, hW, hsame.mono (by decide) (by decide)⟩
  · refine XS.aloadN X0.here hx rfl (hb hby d_jdk_37_method_2_0) rfl rfl ?_
    show Steps p.tables e below (s₁.setTop (mkF m 1 #[.val (.ref a1)] [(.ref a1)])) _
    refine st1 _ ?_
    show Steps p.tables e below (T1.setTop (mkF m 4 #[.val (.ref a1)] [(.int w1)])) _
    exact retI X1 hx Bd.returns (hb hby d_jdk_37_method_2_4) hr
  · show QI w1 h0 n0 _ T1.heap _
    rw [e1]
    exact ⟨rfl, N0, rfl⟩
set_option maxRecDepth 65536 in
set_option maxHeartbeats 40000000 in
theorem rm_of_REQUIRED_1 (l : Launch) (Z : State) (a0 : Array Value) (hw : ∀ d ∈ tables_1, d.before a0 Z = true) (ws : List Jvm.Cond) (a_REQUIRED : Addr) (a__SwitchMap_com_example_demarc_demarc_TransactionAttributeType : Addr) (a_JOIN : Addr) (a_NONE : Addr) (a_NEW : Addr) (a_NOT_SUPPORTED : Addr) (a_MANDATORY : Addr) (a_REFUSED : Addr) (a_REQUIRES_NEW : Addr) (a_NEVER : Addr) (a_SUPPORTS : Addr) (k_a__SwitchMap_com_example_demarc_demarc_TransactionAttributeType : ClassId) (hS : SB Z a_REQUIRED a__SwitchMap_com_example_demarc_demarc_TransactionAttributeType a_JOIN a_NONE a_NEW a_NOT_SUPPORTED a_MANDATORY a_REFUSED a_REQUIRES_NEW a_NEVER a_SUPPORTS k_a__SwitchMap_com_example_demarc_demarc_TransactionAttributeType) (h0 : Heap) (n0 : Nat) (O0 : Old Z n0 h0) :
    MetFree l (⟨"com/example/demarc/demarc/Placement", "of", "(Lcom/example/demarc/demarc/TransactionAttributeType;Z)Lcom/example/demarc/demarc/Placement;"⟩ : MethodName) (head1 (Jvm.Cond.code (⟨"com/example/demarc/demarc/Placement", "of", "(Lcom/example/demarc/demarc/TransactionAttributeType;Z)Lcom/example/demarc/demarc/Placement;"⟩ : MethodName) prog_19_method_4_code 3 (some (.object "com/example/demarc/demarc/Placement")) :: ws) ({ frames := 1, cells := 0, slots := 0, locals := 13 } : Room)) (fun a U => a = #[(.ref a_REQUIRED), (.int (1 : Int32))] ∧ Z.Warmed39 U.vm ∧ U.heap = h0) (fun _ _ _ _ _ => True) (fun _ U o U' => ∃ v L, o = .returned v ∧ QR a_JOIN h0 n0 v U'.heap L ∧ FrameEnd U o U' L ({ frames := 1, cells := 0, slots := 0, locals := 13 } : Room).cells ({ frames := 1, cells := 0, slots := 0, locals := 13 } : Room).slots) := by
  refine MetFree.of_bodySF (plainFor_of_name pn_1) hisR ?_
  intro p e s m args below meth c s₁ Bd hml0 hP hK
  obtain ⟨rfl, hZ, hh⟩ := hP
  have hx := Bd.exec
  have hby := Bd.bytes
  have hml : c.maxLocals = 3 := hml0
  have hown : s.vm.findClass "com/example/demarc/demarc/Placement" = some m.cls := findClass_of_methodNamed Bd.named
  have hnm := (name_of_methodNamed Bd.named Bd.method).1
  have X0 : Stand p l e ({ frames := 1, cells := 0, slots := 0, locals := 13 } : Room) s m #[(.ref a_REQUIRED), (.int (1 : Int32))] below meth c s₁ [] 0 0 := Stand.of_body Bd
  have e0 : s₁.heap = h0 := by rw [← hh, Bd.state]; rfl
  have N0 := Fr.nil n0
  have pre0 : ∀ t, Steps p.tables e below (s₁.setTop (mkF m 0 #[.val (.ref a_REQUIRED), .val (.int (1 : Int32)), .unset] [])) t → Steps p.tables e below (s₁.setTop (entryFrame m #[(.ref a_REQUIRED), (.int (1 : Int32))] 3)) t := fun t k => castTop (ef_rm_of_REQUIRED_1 m (a_REQUIRED) ((1 : Int32))) k
  obtain ⟨T1, X1, e1, st1⟩ := getS2 X0 hx hZ hown (host := "") (Or.inl (hw _ (List.mem_of_getElem? (i := 11) rfl))) Via.refl e0 (hS.2.2.1.ext O0.2) (g := (mkF m 4 #[.val (.ref a_REQUIRED), .val (.int (1 : Int32)), .unset] [])) rfl (hb hby d_prog_19_method_4_4)
  obtain ⟨cq2, kq2, q2a, q2b, q2c⟩ := isOf hZ e1 ((hS.1.ext O0.2))
  obtain ⟨_, _, ⟨T2, L2, k2, n2⟩, -, X2, ⟨Lc2, hQ2, l2, y2, z2⟩, st2⟩ := X1.virtualBackUp hx (x := (⟨"com/example/demarc/demarc/TransactionAttributeType", "ordinal", "()I"⟩ : MethodName)) (y := (⟨"java/lang/Enum", "ordinal", "()I"⟩ : MethodName)) (owner := "java/lang/Enum") hown (mvT hZ (hw _ (List.mem_of_getElem? (i := 14) rfl))) (mvT hZ (hw _ (List.mem_of_getElem? (i := 15) rfl))) (mvT hZ (hw _ (List.mem_of_getElem? (i := 16) rfl))) (by decide) (mvT hZ (hw _ (List.mem_of_getElem? (i := 18) rfl))) (mvT hZ (hw _ (List.mem_of_getElem? (i := 17) rfl))) (backOf (W := 1) (rm_ord l Z a0 hw [] a_REQUIRED (0 : Int32) h0 n0 (hS.2.2.2.1.ext O0.2)) hZ (hw _ (List.mem_of_getElem? (i := 20) rfl)) (hw _ (List.mem_of_getElem? (i := 19) rfl)) (by decide) (by decide)) q2a q2c (g := (mkF m 8 #[.val (.ref a_REQUIRED), .val (.int (1 : Int32)), .unset] [(.ref a_REQUIRED), (.ref a__SwitchMap_com_example_demarc_demarc_TransactionAttributeType)])) rfl (by rw [hml]; rfl) (Steps.refl _) (argsL := []) (rest := [(.ref a__SwitchMap_com_example_demarc_demarc_TransactionAttributeType)]) (lenOf pd_0 rfl) rfl (by show 2 * 0 + _ ≤ _; exact Nat.le_of_eq rfl) (hb hby d_prog_19_method_4_8) (fun _ _ => ⟨rfl, e1, (by decide : 0 + 0 ≤ _), (by decide : 0 + 0 ≤ _)⟩)
  dsimp only [Pt.U, Pt.locs, Pt.cells, Pt.slots] at X2 l2 y2 z2 st2 hQ2
  subst l2 y2 z2
  obtain ⟨rfl, N2q, e2⟩ := hQ2
  have N2 := Fr.app N0 N2q
  obtain ⟨c3, Ar3, q3, S3, M3, Hh3, G3⟩ := (id (hS.2.2.2.2.2.2.2.2.2.2.2.2.2.2.2.2.2.2.2.2.2.2.2.2.2.2.2.2.2.2.2.ext O0.2))
  have hin3 : ¬ ((0 : Int32) < 0 ∨ c3.slots.size ≤ ((0 : Int32)).toNatClampNeg) := inb_of S3 ⟨by decide, by decide⟩
  have hat3 : c3.slots[((0 : Int32)).toNatClampNeg]? = some (.int (1 : Int32)) := Hh3.at hin3 rfl
  obtain ⟨T4, X4, e4, st4⟩ := getS2 X2 hx hZ hown (host := "") (Or.inl (hw _ (List.mem_of_getElem? (i := 23) rfl))) Via.refl e2 (hS.2.2.2.2.2.1.ext O0.2) (g := (mkF m 62 #[.val (.ref a_REQUIRED), .val (.int (1 : Int32)), .unset] [])) rfl (hb hby d_prog_19_method_4_62)
  obtain ⟨fs, hr, hrun, hended, hW, hsame⟩ := X4.leave (v := (some (.ref a_JOIN))) (fun h => by rw [Bd.returns] at h; cases h)
  refine ⟨_, _, pre0 _ ?_, hrun, hended, _, _, rfl, ?_, ⟨_, rfl⟩, hW, hsame.mono (by decide) (by decide)⟩
  · refine XS.iloadN X0.here hx rfl (hb hby d_prog_19_method_4_0) rfl ?_
    show Steps p.tables e below (s₁.setTop (mkF m 1 #[.val (.ref a_REQUIRED), .val (.int (1 : Int32)), .unset] [(.int (1 : Int32))])) _
    refine XS.ifNo X0.here hx rfl (hb hby d_prog_19_method_4_1) rfl ((if0 _ _).trans (feq (by decide : ¬ ((1 : Int32) = (0 : Int32)))).1) ?_
    show Steps p.tables e below (s₁.setTop (mkF m 4 #[.val (.ref a_REQUIRED), .val (.int (1 : Int32)), .unset] [])) _
    refine st1 _ ?_
    show Steps p.tables e below (T1.setTop (mkF m 7 #[.val (.ref a_REQUIRED), .val (.int (1 : Int32)), .unset] [(.ref a__SwitchMap_com_example_demarc_demarc_TransactionAttributeType)])) _
    refine XS.aloadN X1.here hx rfl (hb hby d_prog_19_method_4_7) rfl rfl ?_
    show Steps p.tables e below (T1.setTop (mkF m 8 #[.val (.ref a_REQUIRED), .val (.int (1 : Int32)), .unset] [(.ref a_REQUIRED), (.ref a__SwitchMap_com_example_demarc_demarc_TransactionAttributeType)])) _
    refine st2.trans ?_
    show Steps p.tables e below (T2.setTop (mkF m 11 #[.val (.ref a_REQUIRED), .val (.int (1 : Int32)), .unset] [(.int (0 : Int32)), (.ref a__SwitchMap_com_example_demarc_demarc_TransactionAttributeType)])) _
    refine X2.iaload hx (j := (0 : Int32)) (v := (.int (1 : Int32))) (by rw [e2]; exact Ar3.1) (State.isArrayOf_alike hZ.alike Ar3.2.1) Ar3.2.2 hin3 hat3 (g := (mkF m 11 #[.val (.ref a_REQUIRED), .val (.int (1 : Int32)), .unset] [(.int (0 : Int32)), (.ref a__SwitchMap_com_example_demarc_demarc_TransactionAttributeType)])) rfl rfl (hb hby d_prog_19_method_4_11) _ ?_
    show Steps p.tables e below (T2.setTop (mkF m 12 #[.val (.ref a_REQUIRED), .val (.int (1 : Int32)), .unset] [(.int (1 : Int32))])) _
    refine XS.tswIn X2.here hx rfl (pc0 := 12) (pc' := 62) rfl (hb hby d_prog_19_method_4_12) rfl (by decide) (o := 50) rfl (by decide) (by decide) ?_
    show Steps p.tables e below (T2.setTop (mkF m 62 #[.val (.ref a_REQUIRED), .val (.int (1 : Int32)), .unset] [])) _
    refine st4 _ ?_
    show Steps p.tables e below (T4.setTop (mkF m 65 #[.val (.ref a_REQUIRED), .val (.int (1 : Int32)), .unset] [(.ref a_JOIN)])) _
    refine XS.goto X4.here hx rfl (pc0 := 65) (pc' := 83) rfl (hb hby d_prog_19_method_4_65) (by decide) (by decide) ?_
    show Steps p.tables e below (T4.setTop (mkF m 83 #[.val (.ref a_REQUIRED), .val (.int (1 : Int32)), .unset] [(.ref a_JOIN)])) _
    refine XS.astoreN X4.here hx rfl (hb hby d_prog_19_method_4_83) rfl rfl (l' := #[.val (.ref a_REQUIRED), .val (.int (1 : Int32)), .val (.ref a_JOIN)]) rfl ?_
    show Steps p.tables e below (T4.setTop (mkF m 84 #[.val (.ref a_REQUIRED), .val (.int (1 : Int32)), .val (.ref a_JOIN)] [])) _
    refine XS.goto X4.here hx rfl (pc0 := 84) (pc' := 158) rfl (hb hby d_prog_19_method_4_84) (by decide) (by decide) ?_
    show Steps p.tables e below (T4.setTop (mkF m 158 #[.val (.ref a_REQUIRED), .val (.int (1 : Int32)), .val (.ref a_JOIN)] [])) _
    refine XS.aloadN X4.here hx rfl (hb hby d_prog_19_method_4_158) rfl rfl ?_
    show Steps p.tables e below (T4.setTop (mkF m 159 #[.val (.ref a_REQUIRED), .val (.int (1 : Int32)), .val (.ref a_JOIN)] [(.ref a_JOIN)])) _
    exact retOut X4 hx Bd.returns rfl (Or.inr (Or.inr (Or.inr (Or.inr ⟨rfl, rfl, rfl⟩)))) (hb hby d_prog_19_method_4_159) hr
  · show QR a_JOIN h0 n0 _ T4.heap _
    rw [e4]
    exact ⟨rfl, N2, rfl⟩
set_option maxRecDepth 65536 in
set_option maxHeartbeats 40000000 in
theorem rm_of_REQUIRED_0 (l : Launch) (Z : State) (a0 : Array Value) (hw : ∀ d ∈ tables_1, d.before a0 Z = true) (ws : List Jvm.Cond) (a_REQUIRED : Addr) (a__SwitchMap_com_example_demarc_demarc_TransactionAttributeType : Addr) (a_JOIN : Addr) (a_NONE : Addr) (a_NEW : Addr) (a_NOT_SUPPORTED : Addr) (a_MANDATORY : Addr) (a_REFUSED : Addr) (a_REQUIRES_NEW : Addr) (a_NEVER : Addr) (a_SUPPORTS : Addr) (k_a__SwitchMap_com_example_demarc_demarc_TransactionAttributeType : ClassId) (hS : SB Z a_REQUIRED a__SwitchMap_com_example_demarc_demarc_TransactionAttributeType a_JOIN a_NONE a_NEW a_NOT_SUPPORTED a_MANDATORY a_REFUSED a_REQUIRES_NEW a_NEVER a_SUPPORTS k_a__SwitchMap_com_example_demarc_demarc_TransactionAttributeType) (h0 : Heap) (n0 : Nat) (O0 : Old Z n0 h0) :
    MetFree l (⟨"com/example/demarc/demarc/Placement", "of", "(Lcom/example/demarc/demarc/TransactionAttributeType;Z)Lcom/example/demarc/demarc/Placement;"⟩ : MethodName) (head1 (Jvm.Cond.code (⟨"com/example/demarc/demarc/Placement", "of", "(Lcom/example/demarc/demarc/TransactionAttributeType;Z)Lcom/example/demarc/demarc/Placement;"⟩ : MethodName) prog_19_method_4_code 3 (some (.object "com/example/demarc/demarc/Placement")) :: ws) ({ frames := 1, cells := 0, slots := 0, locals := 13 } : Room)) (fun a U => a = #[(.ref a_REQUIRED), (.int (0 : Int32))] ∧ Z.Warmed39 U.vm ∧ U.heap = h0) (fun _ _ _ _ _ => True) (fun _ U o U' => ∃ v L, o = .returned v ∧ QR a_NEW h0 n0 v U'.heap L ∧ FrameEnd U o U' L ({ frames := 1, cells := 0, slots := 0, locals := 13 } : Room).cells ({ frames := 1, cells := 0, slots := 0, locals := 13 } : Room).slots) := by
  refine MetFree.of_bodySF (plainFor_of_name pn_1) hisR ?_
  intro p e s m args below meth c s₁ Bd hml0 hP hK
  obtain ⟨rfl, hZ, hh⟩ := hP
  have hx := Bd.exec
  have hby := Bd.bytes
  have hml : c.maxLocals = 3 := hml0
  have hown : s.vm.findClass "com/example/demarc/demarc/Placement" = some m.cls := findClass_of_methodNamed Bd.named
  have hnm := (name_of_methodNamed Bd.named Bd.method).1
  have X0 : Stand p l e ({ frames := 1, cells := 0, slots := 0, locals := 13 } : Room) s m #[(.ref a_REQUIRED), (.int (0 : Int32))] below meth c s₁ [] 0 0 := Stand.of_body Bd
  have e0 : s₁.heap = h0 := by rw [← hh, Bd.state]; rfl
  have N0 := Fr.nil n0
  have pre0 : ∀ t, Steps p.tables e below (s₁.setTop (mkF m 0 #[.val (.ref a_REQUIRED), .val (.int (0 : Int32)), .unset] [])) t → Steps p.tables e below (s₁.setTop (entryFrame m #[(.ref a_REQUIRED), (.int (0 : Int32))] 3)) t := fun t k => castTop (ef_rm_of_REQUIRED_0 m (a_REQUIRED) ((0 : Int32))) k
  obtain ⟨T1, X1, e1, st1⟩ := getS2 X0 hx hZ hown (host := "") (Or.inl (hw _ (List.mem_of_getElem? (i := 11) rfl))) Via.refl e0 (hS.2.2.1.ext O0.2) (g := (mkF m 87 #[.val (.ref a_REQUIRED), .val (.int (0 : Int32)), .unset] [])) rfl (hb hby d_prog_19_method_4_87)
  obtain ⟨cq2, kq2, q2a, q2b, q2c⟩ := isOf hZ e1 ((hS.1.ext O0.2))
  obtain ⟨_, _, ⟨T2, L2, k2, n2⟩, -, X2, ⟨Lc2, hQ2, l2, y2, z2⟩, st2⟩ := X1.virtualBackUp hx (x := (⟨"com/example/demarc/demarc/TransactionAttributeType", "ordinal", "()I"⟩ : MethodName)) (y := (⟨"java/lang/Enum", "ordinal", "()I"⟩ : MethodName)) (owner := "java/lang/Enum") hown (mvT hZ (hw _ (List.mem_of_getElem? (i := 14) rfl))) (mvT hZ (hw _ (List.mem_of_getElem? (i := 15) rfl))) (mvT hZ (hw _ (List.mem_of_getElem? (i := 16) rfl))) (by decide) (mvT hZ (hw _ (List.mem_of_getElem? (i := 18) rfl))) (mvT hZ (hw _ (List.mem_of_getElem? (i := 17) rfl))) (backOf (W := 1) (rm_ord l Z a0 hw [] a_REQUIRED (0 : Int32) h0 n0 (hS.2.2.2.1.ext O0.2)) hZ (hw _ (List.mem_of_getElem? (i := 20) rfl)) (hw _ (List.mem_of_getElem? (i := 19) rfl)) (by decide) (by decide)) q2a q2c (g := (mkF m 91 #[.val (.ref a_REQUIRED), .val (.int (0 : Int32)), .unset] [(.ref a_REQUIRED), (.ref a__SwitchMap_com_example_demarc_demarc_TransactionAttributeType)])) rfl (by rw [hml]; rfl) (Steps.refl _) (argsL := []) (rest := [(.ref a__SwitchMap_com_example_demarc_demarc_TransactionAttributeType)]) (lenOf pd_0 rfl) rfl (by show 2 * 0 + _ ≤ _; exact Nat.le_of_eq rfl) (hb hby d_prog_19_method_4_91) (fun _ _ => ⟨rfl, e1, (by decide : 0 + 0 ≤ _), (by decide : 0 + 0 ≤ _)⟩)
  dsimp only [Pt.U, Pt.locs, Pt.cells, Pt.slots] at X2 l2 y2 z2 st2 hQ2
  subst l2 y2 z2
  obtain ⟨rfl, N2q, e2⟩ := hQ2
  have N2 := Fr.app N0 N2q
  obtain ⟨c3, Ar3, q3, S3, M3, Hh3, G3⟩ := (id (hS.2.2.2.2.2.2.2.2.2.2.2.2.2.2.2.2.2.2.2.2.2.2.2.2.2.2.2.2.2.2.2.ext O0.2))
  have hin3 : ¬ ((0 : Int32) < 0 ∨ c3.slots.size ≤ ((0 : Int32)).toNatClampNeg) := inb_of S3 ⟨by decide, by decide⟩
  have hat3 : c3.slots[((0 : Int32)).toNatClampNeg]? = some (.int (1 : Int32)) := Hh3.at hin3 rfl
  obtain ⟨T4, X4, e4, st4⟩ := getS2 X2 hx hZ hown (host := "") (Or.inl (hw _ (List.mem_of_getElem? (i := 27) rfl))) Via.refl e2 (hS.2.2.2.2.2.2.2.2.2.2.2.1.ext O0.2) (g := (mkF m 142 #[.val (.ref a_REQUIRED), .val (.int (0 : Int32)), .unset] [])) rfl (hb hby d_prog_19_method_4_142)
  obtain ⟨fs, hr, hrun, hended, hW, hsame⟩ := X4.leave (v := (some (.ref a_NEW))) (fun h => by rw [Bd.returns] at h; cases h)
  refine ⟨_, _, pre0 _ ?_, hrun, hended, _, _, rfl, ?_, ⟨_, rfl⟩, hW, hsame.mono (by decide) (by decide)⟩
  · refine XS.iloadN X0.here hx rfl (hb hby d_prog_19_method_4_0) rfl ?_
    show Steps p.tables e below (s₁.setTop (mkF m 1 #[.val (.ref a_REQUIRED), .val (.int (0 : Int32)), .unset] [(.int (0 : Int32))])) _
    refine XS.ifYes X0.here hx rfl (pc0 := 1) (pc' := 87) rfl (hb hby d_prog_19_method_4_1) rfl ((if0 _ _).trans (teq (by decide : (0 : Int32) = (0 : Int32))).1) (by decide) (by decide) ?_
    show Steps p.tables e below (s₁.setTop (mkF m 87 #[.val (.ref a_REQUIRED), .val (.int (0 : Int32)), .unset] [])) _
    refine st1 _ ?_
    show Steps p.tables e below (T1.setTop (mkF m 90 #[.val (.ref a_REQUIRED), .val (.int (0 : Int32)), .unset] [(.ref a__SwitchMap_com_example_demarc_demarc_TransactionAttributeType)])) _
    refine XS.aloadN X1.here hx rfl (hb hby d_prog_19_method_4_90) rfl rfl ?_
    show Steps p.tables e below (T1.setTop (mkF m 91 #[.val (.ref a_REQUIRED), .val (.int (0 : Int32)), .unset] [(.ref a_REQUIRED), (.ref a__SwitchMap_com_example_demarc_demarc_TransactionAttributeType)])) _
    refine st2.trans ?_
    show Steps p.tables e below (T2.setTop (mkF m 94 #[.val (.ref a_REQUIRED), .val (.int (0 : Int32)), .unset] [(.int (0 : Int32)), (.ref a__SwitchMap_com_example_demarc_demarc_TransactionAttributeType)])) _
    refine X2.iaload hx (j := (0 : Int32)) (v := (.int (1 : Int32))) (by rw [e2]; exact Ar3.1) (State.isArrayOf_alike hZ.alike Ar3.2.1) Ar3.2.2 hin3 hat3 (g := (mkF m 94 #[.val (.ref a_REQUIRED), .val (.int (0 : Int32)), .unset] [(.int (0 : Int32)), (.ref a__SwitchMap_com_example_demarc_demarc_TransactionAttributeType)])) rfl rfl (hb hby d_prog_19_method_4_94) _ ?_
    show Steps p.tables e below (T2.setTop (mkF m 95 #[.val (.ref a_REQUIRED), .val (.int (0 : Int32)), .unset] [(.int (1 : Int32))])) _
    refine XS.tswIn X2.here hx rfl (pc0 := 95) (pc' := 142) rfl (hb hby d_prog_19_method_4_95) rfl (by decide) (o := 47) rfl (by decide) (by decide) ?_
    show Steps p.tables e below (T2.setTop (mkF m 142 #[.val (.ref a_REQUIRED), .val (.int (0 : Int32)), .unset] [])) _
    refine st4 _ ?_
    show Steps p.tables e below (T4.setTop (mkF m 145 #[.val (.ref a_REQUIRED), .val (.int (0 : Int32)), .unset] [(.ref a_NEW)])) _
    refine XS.goto X4.here hx rfl (pc0 := 145) (pc' := 157) rfl (hb hby d_prog_19_method_4_145) (by decide) (by decide) ?_
    show Steps p.tables e below (T4.setTop (mkF m 157 #[.val (.ref a_REQUIRED), .val (.int (0 : Int32)), .unset] [(.ref a_NEW)])) _
    refine XS.astoreN X4.here hx rfl (hb hby d_prog_19_method_4_157) rfl rfl (l' := #[.val (.ref a_REQUIRED), .val (.int (0 : Int32)), .val (.ref a_NEW)]) rfl ?_
    show Steps p.tables e below (T4.setTop (mkF m 158 #[.val (.ref a_REQUIRED), .val (.int (0 : Int32)), .val (.ref a_NEW)] [])) _
    refine XS.aloadN X4.here hx rfl (hb hby d_prog_19_method_4_158) rfl rfl ?_
    show Steps p.tables e below (T4.setTop (mkF m 159 #[.val (.ref a_REQUIRED), .val (.int (0 : Int32)), .val (.ref a_NEW)] [(.ref a_NEW)])) _
    exact retOut X4 hx Bd.returns rfl (Or.inr (Or.inr (Or.inr (Or.inr ⟨rfl, rfl, rfl⟩)))) (hb hby d_prog_19_method_4_159) hr
  · show QR a_NEW h0 n0 _ T4.heap _
    rw [e4]
    exact ⟨rfl, N2, rfl⟩
set_option maxRecDepth 65536 in
set_option maxHeartbeats 40000000 in
theorem rm_of_NOT_SUPPORTED_1 (l : Launch) (Z : State) (a0 : Array Value) (hw : ∀ d ∈ tables_1, d.before a0 Z = true) (ws : List Jvm.Cond) (a_REQUIRED : Addr) (a__SwitchMap_com_example_demarc_demarc_TransactionAttributeType : Addr) (a_JOIN : Addr) (a_NONE : Addr) (a_NEW : Addr) (a_NOT_SUPPORTED : Addr) (a_MANDATORY : Addr) (a_REFUSED : Addr) (a_REQUIRES_NEW : Addr) (a_NEVER : Addr) (a_SUPPORTS : Addr) (k_a__SwitchMap_com_example_demarc_demarc_TransactionAttributeType : ClassId) (hS : SB Z a_REQUIRED a__SwitchMap_com_example_demarc_demarc_TransactionAttributeType a_JOIN a_NONE a_NEW a_NOT_SUPPORTED a_MANDATORY a_REFUSED a_REQUIRES_NEW a_NEVER a_SUPPORTS k_a__SwitchMap_com_example_demarc_demarc_TransactionAttributeType) (h0 : Heap) (n0 : Nat) (O0 : Old Z n0 h0) :
    MetFree l (⟨"com/example/demarc/demarc/Placement", "of", "(Lcom/example/demarc/demarc/TransactionAttributeType;Z)Lcom/example/demarc/demarc/Placement;"⟩ : MethodName) (head1 (Jvm.Cond.code (⟨"com/example/demarc/demarc/Placement", "of", "(Lcom/example/demarc/demarc/TransactionAttributeType;Z)Lcom/example/demarc/demarc/Placement;"⟩ : MethodName) prog_19_method_4_code 3 (some (.object "com/example/demarc/demarc/Placement")) :: ws) ({ frames := 1, cells := 0, slots := 0, locals := 13 } : Room)) (fun a U => a = #[(.ref a_NOT_SUPPORTED), (.int (1 : Int32))] ∧ Z.Warmed39 U.vm ∧ U.heap = h0) (fun _ _ _ _ _ => True) (fun _ U o U' => ∃ v L, o = .returned v ∧ QR a_NONE h0 n0 v U'.heap L ∧ FrameEnd U o U' L ({ frames := 1, cells := 0, slots := 0, locals := 13 } : Room).cells ({ frames := 1, cells := 0, slots := 0, locals := 13 } : Room).slots) := by
  refine MetFree.of_bodySF (plainFor_of_name pn_1) hisR ?_
  intro p e s m args below meth c s₁ Bd hml0 hP hK
  obtain ⟨rfl, hZ, hh⟩ := hP
  have hx := Bd.exec
  have hby := Bd.bytes
  have hml : c.maxLocals = 3 := hml0
  have hown : s.vm.findClass "com/example/demarc/demarc/Placement" = some m.cls := findClass_of_methodNamed Bd.named
  have hnm := (name_of_methodNamed Bd.named Bd.method).1
  have X0 : Stand p l e ({ frames := 1, cells := 0, slots := 0, locals := 13 } : Room) s m #[(.ref a_NOT_SUPPORTED), (.int (1 : Int32))] below meth c s₁ [] 0 0 := Stand.of_body Bd
  have e0 : s₁.heap = h0 := by rw [← hh, Bd.state]; rfl
  have N0 := Fr.nil n0
  have pre0 : ∀ t, Steps p.tables e below (s₁.setTop (mkF m 0 #[.val (.ref a_NOT_SUPPORTED), .val (.int (1 : Int32)), .unset] [])) t → Steps p.tables e below (s₁.setTop (entryFrame m #[(.ref a_NOT_SUPPORTED), (.int (1 : Int32))] 3)) t := fun t k => castTop (ef_rm_of_NOT_SUPPORTED_1 m (a_NOT_SUPPORTED) ((1 : Int32))) k
  obtain ⟨T1, X1, e1, st1⟩ := getS2 X0 hx hZ hown (host := "") (Or.inl (hw _ (List.mem_of_getElem? (i := 11) rfl))) Via.refl e0 (hS.2.2.1.ext O0.2) (g := (mkF m 4 #[.val (.ref a_NOT_SUPPORTED), .val (.int (1 : Int32)), .unset] [])) rfl (hb hby d_prog_19_method_4_4)
  obtain ⟨cq2, kq2, q2a, q2b, q2c⟩ := isOf hZ e1 ((hS.2.2.2.2.2.2.2.2.2.2.2.2.2.1.ext O0.2))
  obtain ⟨_, _, ⟨T2, L2, k2, n2⟩, -, X2, ⟨Lc2, hQ2, l2, y2, z2⟩, st2⟩ := X1.virtualBackUp hx (x := (⟨"com/example/demarc/demarc/TransactionAttributeType", "ordinal", "()I"⟩ : MethodName)) (y := (⟨"java/lang/Enum", "ordinal", "()I"⟩ : MethodName)) (owner := "java/lang/Enum") hown (mvT hZ (hw _ (List.mem_of_getElem? (i := 14) rfl))) (mvT hZ (hw _ (List.mem_of_getElem? (i := 15) rfl))) (mvT hZ (hw _ (List.mem_of_getElem? (i := 16) rfl))) (by decide) (mvT hZ (hw _ (List.mem_of_getElem? (i := 18) rfl))) (mvT hZ (hw _ (List.mem_of_getElem? (i := 17) rfl))) (backOf (W := 1) (rm_ord l Z a0 hw [] a_NOT_SUPPORTED (3 : Int32) h0 n0 (hS.2.2.2.2.2.2.2.2.2.2.2.2.2.2.2.1.ext O0.2)) hZ (hw _ (List.mem_of_getElem? (i := 20) rfl)) (hw _ (List.mem_of_getElem? (i := 19) rfl)) (by decide) (by decide)) q2a q2c (g := (mkF m 8 #[.val (.ref a_NOT_SUPPORTED), .val (.int (1 : Int32)), .unset] [(.ref a_NOT_SUPPORTED), (.ref a__SwitchMap_com_example_demarc_demarc_TransactionAttributeType)])) rfl (by rw [hml]; rfl) (Steps.refl _) (argsL := []) (rest := [(.ref a__SwitchMap_com_example_demarc_demarc_TransactionAttributeType)]) (lenOf pd_0 rfl) rfl (by show 2 * 0 + _ ≤ _; exact Nat.le_of_eq rfl) (hb hby d_prog_19_method_4_8) (fun _ _ => ⟨rfl, e1, (by decide : 0 + 0 ≤ _), (by decide : 0 + 0 ≤ _)⟩)
  dsimp only [Pt.U, Pt.locs, Pt.cells, Pt.slots] at X2 l2 y2 z2 st2 hQ2
  subst l2 y2 z2
  obtain ⟨rfl, N2q, e2⟩ := hQ2
  have N2 := Fr.app N0 N2q
  obtain ⟨c3, Ar3, q3, S3, M3, Hh3, G3⟩ := (id (hS.2.2.2.2.2.2.2.2.2.2.2.2.2.2.2.2.2.2.2.2.2.2.2.2.2.2.2.2.2.2.2.ext O0.2))
  have hin3 : ¬ ((3 : Int32) < 0 ∨ c3.slots.size ≤ ((3 : Int32)).toNatClampNeg) := inb_of S3 ⟨by decide, by decide⟩
  have hat3 : c3.slots[((3 : Int32)).toNatClampNeg]? = some (.int (5 : Int32)) := Hh3.at hin3 rfl
  obtain ⟨T4, X4, e4, st4⟩ := getS2 X2 hx hZ hown (host := "") (Or.inl (hw _ (List.mem_of_getElem? (i := 25) rfl))) Via.refl e2 (hS.2.2.2.2.2.2.2.1.ext O0.2) (g := (mkF m 74 #[.val (.ref a_NOT_SUPPORTED), .val (.int (1 : Int32)), .unset] [])) rfl (hb hby d_prog_19_method_4_74)
  obtain ⟨fs, hr, hrun, hended, hW, hsame⟩ := X4.leave (v := (some (.ref a_NONE))) (fun h => by rw [Bd.returns] at h; cases h)
  refine ⟨_, _, pre0 _ ?_, hrun, hended, _, _, rfl, ?_, ⟨_, rfl⟩, hW, hsame.mono (by decide) (by decide)⟩
  · refine XS.iloadN X0.here hx rfl (hb hby d_prog_19_method_4_0) rfl ?_
    show Steps p.tables e below (s₁.setTop (mkF m 1 #[.val (.ref a_NOT_SUPPORTED), .val (.int (1 : Int32)), .unset] [(.int (1 : Int32))])) _
    refine XS.ifNo X0.here hx rfl (hb hby d_prog_19_method_4_1) rfl ((if0 _ _).trans (feq (by decide : ¬ ((1 : Int32) = (0 : Int32)))).1) ?_
    show Steps p.tables e below (s₁.setTop (mkF m 4 #[.val (.ref a_NOT_SUPPORTED), .val (.int (1 : Int32)), .unset] [])) _
    refine st1 _ ?_
    show Steps p.tables e below (T1.setTop (mkF m 7 #[.val (.ref a_NOT_SUPPORTED), .val (.int (1 : Int32)), .unset] [(.ref a__SwitchMap_com_example_demarc_demarc_TransactionAttributeType)])) _
    refine XS.aloadN X1.here hx rfl (hb hby d_prog_19_method_4_7) rfl rfl ?_
    show Steps p.tables e below (T1.setTop (mkF m 8 #[.val (.ref a_NOT_SUPPORTED), .val (.int (1 : Int32)), .unset] [(.ref a_NOT_SUPPORTED), (.ref a__SwitchMap_com_example_demarc_demarc_TransactionAttributeType)])) _
    refine st2.trans ?_
    show Steps p.tables e below (T2.setTop (mkF m 11 #[.val (.ref a_NOT_SUPPORTED), .val (.int (1 : Int32)), .unset] [(.int (3 : Int32)), (.ref a__SwitchMap_com_example_demarc_demarc_TransactionAttributeType)])) _
    refine X2.iaload hx (j := (3 : Int32)) (v := (.int (5 : Int32))) (by rw [e2]; exact Ar3.1) (State.isArrayOf_alike hZ.alike Ar3.2.1) Ar3.2.2 hin3 hat3 (g := (mkF m 11 #[.val (.ref a_NOT_SUPPORTED), .val (.int (1 : Int32)), .unset] [(.int (3 : Int32)), (.ref a__SwitchMap_com_example_demarc_demarc_TransactionAttributeType)])) rfl rfl (hb hby d_prog_19_method_4_11) _ ?_
    show Steps p.tables e below (T2.setTop (mkF m 12 #[.val (.ref a_NOT_SUPPORTED), .val (.int (1 : Int32)), .unset] [(.int (5 : Int32))])) _
    refine XS.tswIn X2.here hx rfl (pc0 := 12) (pc' := 74) rfl (hb hby d_prog_19_method_4_12) rfl (by decide) (o := 62) rfl (by decide) (by decide) ?_
    show Steps p.tables e below (T2.setTop (mkF m 74 #[.val (.ref a_NOT_SUPPORTED), .val (.int (1 : Int32)), .unset] [])) _
    refine st4 _ ?_
    show Steps p.tables e below (T4.setTop (mkF m 77 #[.val (.ref a_NOT_SUPPORTED), .val (.int (1 : Int32)), .unset] [(.ref a_NONE)])) _
    refine XS.goto X4.here hx rfl (pc0 := 77) (pc' := 83) rfl (hb hby d_prog_19_method_4_77) (by decide) (by decide) ?_
    show Steps p.tables e below (T4.setTop (mkF m 83 #[.val (.ref a_NOT_SUPPORTED), .val (.int (1 : Int32)), .unset] [(.ref a_NONE)])) _
    refine XS.astoreN X4.here hx rfl (hb hby d_prog_19_method_4_83) rfl rfl (l' := #[.val (.ref a_NOT_SUPPORTED), .val (.int (1 : Int32)), .val (.ref a_NONE)]) rfl ?_
    show Steps p.tables e below (T4.setTop (mkF m 84 #[.val (.ref a_NOT_SUPPORTED), .val (.int (1 : Int32)), .val (.ref a_NONE)] [])) _
    refine XS.goto X4.here hx rfl (pc0 := 84) (pc' := 158) rfl (hb hby d_prog_19_method_4_84) (by decide) (by decide) ?_
    show Steps p.tables e below (T4.setTop (mkF m 158 #[.val (.ref a_NOT_SUPPORTED), .val (.int (1 : Int32)), .val (.ref a_NONE)] [])) _
    refine XS.aloadN X4.here hx rfl (hb hby d_prog_19_method_4_158) rfl rfl ?_
    show Steps p.tables e below (T4.setTop (mkF m 159 #[.val (.ref a_NOT_SUPPORTED), .val (.int (1 : Int32)), .val (.ref a_NONE)] [(.ref a_NONE)])) _
    exact retOut X4 hx Bd.returns rfl (Or.inr (Or.inr (Or.inr (Or.inr ⟨rfl, rfl, rfl⟩)))) (hb hby d_prog_19_method_4_159) hr
  · show QR a_NONE h0 n0 _ T4.heap _
    rw [e4]
    exact ⟨rfl, N2, rfl⟩
set_option maxRecDepth 65536 in
set_option maxHeartbeats 40000000 in
theorem rm_of_NOT_SUPPORTED_0 (l : Launch) (Z : State) (a0 : Array Value) (hw : ∀ d ∈ tables_1, d.before a0 Z = true) (ws : List Jvm.Cond) (a_REQUIRED : Addr) (a__SwitchMap_com_example_demarc_demarc_TransactionAttributeType : Addr) (a_JOIN : Addr) (a_NONE : Addr) (a_NEW : Addr) (a_NOT_SUPPORTED : Addr) (a_MANDATORY : Addr) (a_REFUSED : Addr) (a_REQUIRES_NEW : Addr) (a_NEVER : Addr) (a_SUPPORTS : Addr) (k_a__SwitchMap_com_example_demarc_demarc_TransactionAttributeType : ClassId) (hS : SB Z a_REQUIRED a__SwitchMap_com_example_demarc_demarc_TransactionAttributeType a_JOIN a_NONE a_NEW a_NOT_SUPPORTED a_MANDATORY a_REFUSED a_REQUIRES_NEW a_NEVER a_SUPPORTS k_a__SwitchMap_com_example_demarc_demarc_TransactionAttributeType) (h0 : Heap) (n0 : Nat) (O0 : Old Z n0 h0) :
    MetFree l (⟨"com/example/demarc/demarc/Placement", "of", "(Lcom/example/demarc/demarc/TransactionAttributeType;Z)Lcom/example/demarc/demarc/Placement;"⟩ : MethodName) (head1 (Jvm.Cond.code (⟨"com/example/demarc/demarc/Placement", "of", "(Lcom/example/demarc/demarc/TransactionAttributeType;Z)Lcom/example/demarc/demarc/Placement;"⟩ : MethodName) prog_19_method_4_code 3 (some (.object "com/example/demarc/demarc/Placement")) :: ws) ({ frames := 1, cells := 0, slots := 0, locals := 13 } : Room)) (fun a U => a = #[(.ref a_NOT_SUPPORTED), (.int (0 : Int32))] ∧ Z.Warmed39 U.vm ∧ U.heap = h0) (fun _ _ _ _ _ => True) (fun _ U o U' => ∃ v L, o = .returned v ∧ QR a_NONE h0 n0 v U'.heap L ∧ FrameEnd U o U' L ({ frames := 1, cells := 0, slots := 0, locals := 13 } : Room).cells ({ frames := 1, cells := 0, slots := 0, locals := 13 } : Room).slots) := by
  refine MetFree.of_bodySF (plainFor_of_name pn_1) hisR ?_
  intro p e s m args below meth c s₁ Bd hml0 hP hK
  obtain ⟨rfl, hZ, hh⟩ := hP
  have hx := Bd.exec
  have hby := Bd.bytes
  have hml : c.maxLocals = 3 := hml0
  have hown : s.vm.findClass "com/example/demarc/demarc/Placement" = some m.cls := findClass_of_methodNamed Bd.named
  have hnm := (name_of_methodNamed Bd.named Bd.method).1
  have X0 : Stand p l e ({ frames := 1, cells := 0, slots := 0, locals := 13 } : Room) s m #[(.ref a_NOT_SUPPORTED), (.int (0 : Int32))] below meth c s₁ [] 0 0 := Stand.of_body Bd
  have e0 : s₁.heap = h0 := by rw [← hh, Bd.state]; rfl
  have N0 := Fr.nil n0
  have pre0 : ∀ t, Steps p.tables e below (s₁.setTop (mkF m 0 #[.val (.ref a_NOT_SUPPORTED), .val (.int (0 : Int32)), .unset] [])) t → Steps p.tables e below (s₁.setTop (entryFrame m #[(.ref a_NOT_SUPPORTED), (.int (0 : Int32))] 3)) t := fun t k => castTop (ef_rm_of_NOT_SUPPORTED_0 m (a_NOT_SUPPORTED) ((0 : Int32))) k
  obtain ⟨T1, X1, e1, st1⟩ := getS2 X0 hx hZ hown (host := "") (Or.inl (hw _ (List.mem_of_getElem? (i := 11) rfl))) Via.refl e0 (hS.2.2.1.ext O0.2) (g := (mkF m 87 #[.val (.ref a_NOT_SUPPORTED), .val (.int (0 : Int32)), .unset] [])) rfl (hb hby d_prog_19_method_4_87)
  obtain ⟨cq2, kq2, q2a, q2b, q2c⟩ := isOf hZ e1 ((hS.2.2.2.2.2.2.2.2.2.2.2.2.2.1.ext O0.2))
  obtain ⟨_, _, ⟨T2, L2, k2, n2⟩, -, X2, ⟨Lc2, hQ2, l2, y2, z2⟩, st2⟩ := X1.virtualBackUp hx (x := (⟨"com/example/demarc/demarc/TransactionAttributeType", "ordinal", "()I"⟩ : MethodName)) (y := (⟨"java/lang/Enum", "ordinal", "()I"⟩ : MethodName)) (owner := "java/lang/Enum") hown (mvT hZ (hw _ (List.mem_of_getElem? (i := 14) rfl))) (mvT hZ (hw _ (List.mem_of_getElem? (i := 15) rfl))) (mvT hZ (hw _ (List.mem_of_getElem? (i := 16) rfl))) (by decide) (mvT hZ (hw _ (List.mem_of_getElem? (i := 18) rfl))) (mvT hZ (hw _ (List.mem_of_getElem? (i := 17) rfl))) (backOf (W := 1) (rm_ord l Z a0 hw [] a_NOT_SUPPORTED (3 : Int32) h0 n0 (hS.2.2.2.2.2.2.2.2.2.2.2.2.2.2.2.1.ext O0.2)) hZ (hw _ (List.mem_of_getElem? (i := 20) rfl)) (hw _ (List.mem_of_getElem? (i := 19) rfl)) (by decide) (by decide)) q2a q2c (g := (mkF m 91 #[.val (.ref a_NOT_SUPPORTED), .val (.int (0 : Int32)), .unset] [(.ref a_NOT_SUPPORTED), (.ref a__SwitchMap_com_example_demarc_demarc_TransactionAttributeType)])) rfl (by rw [hml]; rfl) (Steps.refl _) (argsL := []) (rest := [(.ref a__SwitchMap_com_example_demarc_demarc_TransactionAttributeType)]) (lenOf pd_0 rfl) rfl (by show 2 * 0 + _ ≤ _; exact Nat.le_of_eq rfl) (hb hby d_prog_19_method_4_91) (fun _ _ => ⟨rfl, e1, (by decide : 0 + 0 ≤ _), (by decide : 0 + 0 ≤ _)⟩)
  dsimp only [Pt.U, Pt.locs, Pt.cells, Pt.slots] at X2 l2 y2 z2 st2 hQ2
  subst l2 y2 z2
  obtain ⟨rfl, N2q, e2⟩ := hQ2
  have N2 := Fr.app N0 N2q
  obtain ⟨c3, Ar3, q3, S3, M3, Hh3, G3⟩ := (id (hS.2.2.2.2.2.2.2.2.2.2.2.2.2.2.2.2.2.2.2.2.2.2.2.2.2.2.2.2.2.2.2.ext O0.2))
  have hin3 : ¬ ((3 : Int32) < 0 ∨ c3.slots.size ≤ ((3 : Int32)).toNatClampNeg) := inb_of S3 ⟨by decide, by decide⟩
  have hat3 : c3.slots[((3 : Int32)).toNatClampNeg]? = some (.int (5 : Int32)) := Hh3.at hin3 rfl
  obtain ⟨T4, X4, e4, st4⟩ := getS2 X2 hx hZ hown (host := "") (Or.inl (hw _ (List.mem_of_getElem? (i := 25) rfl))) Via.refl e2 (hS.2.2.2.2.2.2.2.1.ext O0.2) (g := (mkF m 148 #[.val (.ref a_NOT_SUPPORTED), .val (.int (0 : Int32)), .unset] [])) rfl (hb hby d_prog_19_method_4_148)
  obtain ⟨fs, hr, hrun, hended, hW, hsame⟩ := X4.leave (v := (some (.ref a_NONE))) (fun h => by rw [Bd.returns] at h; cases h)
  refine ⟨_, _, pre0 _ ?_, hrun, hended, _, _, rfl, ?_, ⟨_, rfl⟩, hW, hsame.mono (by decide) (by decide)⟩
  · refine XS.iloadN X0.here hx rfl (hb hby d_prog_19_method_4_0) rfl ?_
    show Steps p.tables e below (s₁.setTop (mkF m 1 #[.val (.ref a_NOT_SUPPORTED), .val (.int (0 : Int32)), .unset] [(.int (0 : Int32))])) _
    refine XS.ifYes X0.here hx rfl (pc0 := 1) (pc' := 87) rfl (hb hby d_prog_19_method_4_1) rfl ((if0 _ _).trans (teq (by decide : (0 : Int32) = (0 : Int32))).1) (by decide) (by decide) ?_
    show Steps p.tables e below (s₁.setTop (mkF m 87 #[.val (.ref a_NOT_SUPPORTED), .val (.int (0 : Int32)), .unset] [])) _
    refine st1 _ ?_
    show Steps p.tables e below (T1.setTop (mkF m 90 #[.val (.ref a_NOT_SUPPORTED), .val (.int (0 : Int32)), .unset] [(.ref a__SwitchMap_com_example_demarc_demarc_TransactionAttributeType)])) _
    refine XS.aloadN X1.here hx rfl (hb hby d_prog_19_method_4_90) rfl rfl ?_
    show Steps p.tables e below (T1.setTop (mkF m 91 #[.val (.ref a_NOT_SUPPORTED), .val (.int (0 : Int32)), .unset] [(.ref a_NOT_SUPPORTED), (.ref a__SwitchMap_com_example_demarc_demarc_TransactionAttributeType)])) _
    refine st2.trans ?_
    show Steps p.tables e below (T2.setTop (mkF m 94 #[.val (.ref a_NOT_SUPPORTED), .val (.int (0 : Int32)), .unset] [(.int (3 : Int32)), (.ref a__SwitchMap_com_example_demarc_demarc_TransactionAttributeType)])) _
    refine X2.iaload hx (j := (3 : Int32)) (v := (.int (5 : Int32))) (by rw [e2]; exact Ar3.1) (State.isArrayOf_alike hZ.alike Ar3.2.1) Ar3.2.2 hin3 hat3 (g := (mkF m 94 #[.val (.ref a_NOT_SUPPORTED), .val (.int (0 : Int32)), .unset] [(.int (3 : Int32)), (.ref a__SwitchMap_com_example_demarc_demarc_TransactionAttributeType)])) rfl rfl (hb hby d_prog_19_method_4_94) _ ?_
    show Steps p.tables e below (T2.setTop (mkF m 95 #[.val (.ref a_NOT_SUPPORTED), .val (.int (0 : Int32)), .unset] [(.int (5 : Int32))])) _
    refine XS.tswIn X2.here hx rfl (pc0 := 95) (pc' := 148) rfl (hb hby d_prog_19_method_4_95) rfl (by decide) (o := 53) rfl (by decide) (by decide) ?_
    show Steps p.tables e below (T2.setTop (mkF m 148 #[.val (.ref a_NOT_SUPPORTED), .val (.int (0 : Int32)), .unset] [])) _
    refine st4 _ ?_
    show Steps p.tables e below (T4.setTop (mkF m 151 #[.val (.ref a_NOT_SUPPORTED), .val (.int (0 : Int32)), .unset] [(.ref a_NONE)])) _
    refine XS.goto X4.here hx rfl (pc0 := 151) (pc' := 157) rfl (hb hby d_prog_19_method_4_151) (by decide) (by decide) ?_
    show Steps p.tables e below (T4.setTop (mkF m 157 #[.val (.ref a_NOT_SUPPORTED), .val (.int (0 : Int32)), .unset] [(.ref a_NONE)])) _
    refine XS.astoreN X4.here hx rfl (hb hby d_prog_19_method_4_157) rfl rfl (l' := #[.val (.ref a_NOT_SUPPORTED), .val (.int (0 : Int32)), .val (.ref a_NONE)]) rfl ?_
    show Steps p.tables e below (T4.setTop (mkF m 158 #[.val (.ref a_NOT_SUPPORTED), .val (.int (0 : Int32)), .val (.ref a_NONE)] [])) _
    refine XS.aloadN X4.here hx rfl (hb hby d_prog_19_method_4_158) rfl rfl ?_
    show Steps p.tables e below (T4.setTop (mkF m 159 #[.val (.ref a_NOT_SUPPORTED), .val (.int (0 : Int32)), .val (.ref a_NONE)] [(.ref a_NONE)])) _
    exact retOut X4 hx Bd.returns rfl (Or.inr (Or.inr (Or.inr (Or.inr ⟨rfl, rfl, rfl⟩)))) (hb hby d_prog_19_method_4_159) hr
  · show QR a_NONE h0 n0 _ T4.heap _
    rw [e4]
    exact ⟨rfl, N2, rfl⟩
set_option maxRecDepth 65536 in
set_option maxHeartbeats 40000000 in
theorem rm_of_MANDATORY_1 (l : Launch) (Z : State) (a0 : Array Value) (hw : ∀ d ∈ tables_1, d.before a0 Z = true) (ws : List Jvm.Cond) (a_REQUIRED : Addr) (a__SwitchMap_com_example_demarc_demarc_TransactionAttributeType : Addr) (a_JOIN : Addr) (a_NONE : Addr) (a_NEW : Addr) (a_NOT_SUPPORTED : Addr) (a_MANDATORY : Addr) (a_REFUSED : Addr) (a_REQUIRES_NEW : Addr) (a_NEVER : Addr) (a_SUPPORTS : Addr) (k_a__SwitchMap_com_example_demarc_demarc_TransactionAttributeType : ClassId) (hS : SB Z a_REQUIRED a__SwitchMap_com_example_demarc_demarc_TransactionAttributeType a_JOIN a_NONE a_NEW a_NOT_SUPPORTED a_MANDATORY a_REFUSED a_REQUIRES_NEW a_NEVER a_SUPPORTS k_a__SwitchMap_com_example_demarc_demarc_TransactionAttributeType) (h0 : Heap) (n0 : Nat) (O0 : Old Z n0 h0) :
    MetFree l (⟨"com/example/demarc/demarc/Placement", "of", "(Lcom/example/demarc/demarc/TransactionAttributeType;Z)Lcom/example/demarc/demarc/Placement;"⟩ : MethodName) (head1 (Jvm.Cond.code (⟨"com/example/demarc/demarc/Placement", "of", "(Lcom/example/demarc/demarc/TransactionAttributeType;Z)Lcom/example/demarc/demarc/Placement;"⟩ : MethodName) prog_19_method_4_code 3 (some (.object "com/example/demarc/demarc/Placement")) :: ws) ({ frames := 1, cells := 0, slots := 0, locals := 13 } : Room)) (fun a U => a = #[(.ref a_MANDATORY), (.int (1 : Int32))] ∧ Z.Warmed39 U.vm ∧ U.heap = h0) (fun _ _ _ _ _ => True) (fun _ U o U' => ∃ v L, o = .returned v ∧ QR a_JOIN h0 n0 v U'.heap L ∧ FrameEnd U o U' L ({ frames := 1, cells := 0, slots := 0, locals := 13 } : Room).cells ({ frames := 1, cells := 0, slots := 0, locals := 13 } : Room).slots) := by
  refine MetFree.of_bodySF (plainFor_of_name pn_1) hisR ?_
  intro p e s m args below meth c s₁ Bd hml0 hP hK
  obtain ⟨rfl, hZ, hh⟩ := hP
  have hx := Bd.exec
  have hby := Bd.bytes
  have hml : c.maxLocals = 3 := hml0
  have hown : s.vm.findClass "com/example/demarc/demarc/Placement" = some m.cls := findClass_of_methodNamed Bd.named
  have hnm := (name_of_methodNamed Bd.named Bd.method).1
  have X0 : Stand p l e ({ frames := 1, cells := 0, slots := 0, locals := 13 } : Room) s m #[(.ref a_MANDATORY), (.int (1 : Int32))] below meth c s₁ [] 0 0 := Stand.of_body Bd
  have e0 : s₁.heap = h0 := by rw [← hh, Bd.state]; rfl
  have N0 := Fr.nil n0
  have pre0 : ∀ t, Steps p.tables e below (s₁.setTop (mkF m 0 #[.val (.ref a_MANDATORY), .val (.int (1 : Int32)), .unset] [])) t → Steps p.tables e below (s₁.setTop (entryFrame m #[(.ref a_MANDATORY), (.int (1 : Int32))] 3)) t := fun t k => castTop (ef_rm_of_MANDATORY_1 m (a_MANDATORY) ((1 : Int32))) k
  obtain ⟨T1, X1, e1, st1⟩ := getS2 X0 hx hZ hown (host := "") (Or.inl (hw _ (List.mem_of_getElem? (i := 11) rfl))) Via.refl e0 (hS.2.2.1.ext O0.2) (g := (mkF m 4 #[.val (.ref a_MANDATORY), .val (.int (1 : Int32)), .unset] [])) rfl (hb hby d_prog_19_method_4_4)
  obtain ⟨cq2, kq2, q2a, q2b, q2c⟩ := isOf hZ e1 ((hS.2.2.2.2.2.2.2.2.2.2.2.2.2.2.2.2.1.ext O0.2))
  obtain ⟨_, _, ⟨T2, L2, k2, n2⟩, -, X2, ⟨Lc2, hQ2, l2, y2, z2⟩, st2⟩ := X1.virtualBackUp hx (x := (⟨"com/example/demarc/demarc/TransactionAttributeType", "ordinal", "()I"⟩ : MethodName)) (y := (⟨"java/lang/Enum", "ordinal", "()I"⟩ : MethodName)) (owner := "java/lang/Enum") hown (mvT hZ (hw _ (List.mem_of_getElem? (i := 14) rfl))) (mvT hZ (hw _ (List.mem_of_getElem? (i := 15) rfl))) (mvT hZ (hw _ (List.mem_of_getElem? (i := 16) rfl))) (by decide) (mvT hZ (hw _ (List.mem_of_getElem? (i := 18) rfl))) (mvT hZ (hw _ (List.mem_of_getElem? (i := 17) rfl))) (backOf (W := 1) (rm_ord l Z a0 hw [] a_MANDATORY (2 : Int32) h0 n0 (hS.2.2.2.2.2.2.2.2.2.2.2.2.2.2.2.2.2.2.1.ext O0.2)) hZ (hw _ (List.mem_of_getElem? (i := 20) rfl)) (hw _ (List.mem_of_getElem? (i := 19) rfl)) (by decide) (by decide)) q2a q2c (g := (mkF m 8 #[.val (.ref a_MANDATORY), .val (.int (1 : Int32)), .unset] [(.ref a_MANDATORY), (.ref a__SwitchMap_com_example_demarc_demarc_TransactionAttributeType)])) rfl (by rw [hml]; rfl) (Steps.refl _) (argsL := []) (rest := [(.ref a__SwitchMap_com_example_demarc_demarc_TransactionAttributeType)]) (lenOf pd_0 rfl) rfl (by show 2 * 0 + _ ≤ _; exact Nat.le_of_eq rfl) (hb hby d_prog_19_method_4_8) (fun _ _ => ⟨rfl, e1, (by decide : 0 + 0 ≤ _), (by decide : 0 + 0 ≤ _)⟩)
  dsimp only [Pt.U, Pt.locs, Pt.cells, Pt.slots] at X2 l2 y2 z2 st2 hQ2
  subst l2 y2 z2
  obtain ⟨rfl, N2q, e2⟩ := hQ2
  have N2 := Fr.app N0 N2q
  obtain ⟨c3, Ar3, q3, S3, M3, Hh3, G3⟩ := (id (hS.2.2.2.2.2.2.2.2.2.2.2.2.2.2.2.2.2.2.2.2.2.2.2.2.2.2.2.2.2.2.2.ext O0.2))
  have hin3 : ¬ ((2 : Int32) < 0 ∨ c3.slots.size ≤ ((2 : Int32)).toNatClampNeg) := inb_of S3 ⟨by decide, by decide⟩
  have hat3 : c3.slots[((2 : Int32)).toNatClampNeg]? = some (.int (2 : Int32)) := Hh3.at hin3 rfl
  obtain ⟨T4, X4, e4, st4⟩ := getS2 X2 hx hZ hown (host := "") (Or.inl (hw _ (List.mem_of_getElem? (i := 23) rfl))) Via.refl e2 (hS.2.2.2.2.2.1.ext O0.2) (g := (mkF m 62 #[.val (.ref a_MANDATORY), .val (.int (1 : Int32)), .unset] [])) rfl (hb hby d_prog_19_method_4_62)
  obtain ⟨fs, hr, hrun, hended, hW, hsame⟩ := X4.leave (v := (some (.ref a_JOIN))) (fun h => by rw [Bd.returns] at h; cases h)
  refine ⟨_, _, pre0 _ ?_, hrun, hended, _, _, rfl, ?_, ⟨_, rfl⟩, hW, hsame.mono (by decide) (by decide)⟩
  · refine XS.iloadN X0.here hx rfl (hb hby d_prog_19_method_4_0) rfl ?_
    show Steps p.tables e below (s₁.setTop (mkF m 1 #[.val (.ref a_MANDATORY), .val (.int (1 : Int32)), .unset] [(.int (1 : Int32))])) _
    refine XS.ifNo X0.here hx rfl (hb hby d_prog_19_method_4_1) rfl ((if0 _ _).trans (feq (by decide : ¬ ((1 : Int32) = (0 : Int32)))).1) ?_
    show Steps p.tables e below (s₁.setTop (mkF m 4 #[.val (.ref a_MANDATORY), .val (.int (1 : Int32)), .unset] [])) _
    refine st1 _ ?_
    show Steps p.tables e below (T1.setTop (mkF m 7 #[.val (.ref a_MANDATORY), .val (.int (1 : Int32)), .unset] [(.ref a__SwitchMap_com_example_demarc_demarc_TransactionAttributeType)])) _
    refine XS.aloadN X1.here hx rfl (hb hby d_prog_19_method_4_7) rfl rfl ?_
    show Steps p.tables e below (T1.setTop (mkF m 8 #[.val (.ref a_MANDATORY), .val (.int (1 : Int32)), .unset] [(.ref a_MANDATORY), (.ref a__SwitchMap_com_example_demarc_demarc_TransactionAttributeType)])) _
    refine st2.trans ?_
    show Steps p.tables e below (T2.setTop (mkF m 11 #[.val (.ref a_MANDATORY), .val (.int (1 : Int32)), .unset] [(.int (2 : Int32)), (.ref a__SwitchMap_com_example_demarc_demarc_TransactionAttributeType)])) _
    refine X2.iaload hx (j := (2 : Int32)) (v := (.int (2 : Int32))) (by rw [e2]; exact Ar3.1) (State.isArrayOf_alike hZ.alike Ar3.2.1) Ar3.2.2 hin3 hat3 (g := (mkF m 11 #[.val (.ref a_MANDATORY), .val (.int (1 : Int32)), .unset] [(.int (2 : Int32)), (.ref a__SwitchMap_com_example_demarc_demarc_TransactionAttributeType)])) rfl rfl (hb hby d_prog_19_method_4_11) _ ?_
    show Steps p.tables e below (T2.setTop (mkF m 12 #[.val (.ref a_MANDATORY), .val (.int (1 : Int32)), .unset] [(.int (2 : Int32))])) _
    refine XS.tswIn X2.here hx rfl (pc0 := 12) (pc' := 62) rfl (hb hby d_prog_19_method_4_12) rfl (by decide) (o := 50) rfl (by decide) (by decide) ?_
    show Steps p.tables e below (T2.setTop (mkF m 62 #[.val (.ref a_MANDATORY), .val (.int (1 : Int32)), .unset] [])) _
    refine st4 _ ?_
    show Steps p.tables e below (T4.setTop (mkF m 65 #[.val (.ref a_MANDATORY), .val (.int (1 : Int32)), .unset] [(.ref a_JOIN)])) _
    refine XS.goto X4.here hx rfl (pc0 := 65) (pc' := 83) rfl (hb hby d_prog_19_method_4_65) (by decide) (by decide) ?_
    show Steps p.tables e below (T4.setTop (mkF m 83 #[.val (.ref a_MANDATORY), .val (.int (1 : Int32)), .unset] [(.ref a_JOIN)])) _
    refine XS.astoreN X4.here hx rfl (hb hby d_prog_19_method_4_83) rfl rfl (l' := #[.val (.ref a_MANDATORY), .val (.int (1 : Int32)), .val (.ref a_JOIN)]) rfl ?_
    show Steps p.tables e below (T4.setTop (mkF m 84 #[.val (.ref a_MANDATORY), .val (.int (1 : Int32)), .val (.ref a_JOIN)] [])) _
    refine XS.goto X4.here hx rfl (pc0 := 84) (pc' := 158) rfl (hb hby d_prog_19_method_4_84) (by decide) (by decide) ?_
    show Steps p.tables e below (T4.setTop (mkF m 158 #[.val (.ref a_MANDATORY), .val (.int (1 : Int32)), .val (.ref a_JOIN)] [])) _
    refine XS.aloadN X4.here hx rfl (hb hby d_prog_19_method_4_158) rfl rfl ?_
    show Steps p.tables e below (T4.setTop (mkF m 159 #[.val (.ref a_MANDATORY), .val (.int (1 : Int32)), .val (.ref a_JOIN)] [(.ref a_JOIN)])) _
    exact retOut X4 hx Bd.returns rfl (Or.inr (Or.inr (Or.inr (Or.inr ⟨rfl, rfl, rfl⟩)))) (hb hby d_prog_19_method_4_159) hr
  · show QR a_JOIN h0 n0 _ T4.heap _
    rw [e4]
    exact ⟨rfl, N2, rfl⟩
set_option maxRecDepth 65536 in
set_option maxHeartbeats 40000000 in
theorem rm_of_MANDATORY_0 (l : Launch) (Z : State) (a0 : Array Value) (hw : ∀ d ∈ tables_1, d.before a0 Z = true) (ws : List Jvm.Cond) (a_REQUIRED : Addr) (a__SwitchMap_com_example_demarc_demarc_TransactionAttributeType : Addr) (a_JOIN : Addr) (a_NONE : Addr) (a_NEW : Addr) (a_NOT_SUPPORTED : Addr) (a_MANDATORY : Addr) (a_REFUSED : Addr) (a_REQUIRES_NEW : Addr) (a_NEVER : Addr) (a_SUPPORTS : Addr) (k_a__SwitchMap_com_example_demarc_demarc_TransactionAttributeType : ClassId) (hS : SB Z a_REQUIRED a__SwitchMap_com_example_demarc_demarc_TransactionAttributeType a_JOIN a_NONE a_NEW a_NOT_SUPPORTED a_MANDATORY a_REFUSED a_REQUIRES_NEW a_NEVER a_SUPPORTS k_a__SwitchMap_com_example_demarc_demarc_TransactionAttributeType) (h0 : Heap) (n0 : Nat) (O0 : Old Z n0 h0) :
    MetFree l (⟨"com/example/demarc/demarc/Placement", "of", "(Lcom/example/demarc/demarc/TransactionAttributeType;Z)Lcom/example/demarc/demarc/Placement;"⟩ : MethodName) (head1 (Jvm.Cond.code (⟨"com/example/demarc/demarc/Placement", "of", "(Lcom/example/demarc/demarc/TransactionAttributeType;Z)Lcom/example/demarc/demarc/Placement;"⟩ : MethodName) prog_19_method_4_code 3 (some (.object "com/example/demarc/demarc/Placement")) :: ws) ({ frames := 1, cells := 0, slots := 0, locals := 13 } : Room)) (fun a U => a = #[(.ref a_MANDATORY), (.int (0 : Int32))] ∧ Z.Warmed39 U.vm ∧ U.heap = h0) (fun _ _ _ _ _ => True) (fun _ U o U' => ∃ v L, o = .returned v ∧ QR a_REFUSED h0 n0 v U'.heap L ∧ FrameEnd U o U' L ({ frames := 1, cells := 0, slots := 0, locals := 13 } : Room).cells ({ frames := 1, cells := 0, slots := 0, locals := 13 } : Room).slots) := by
  refine MetFree.of_bodySF (plainFor_of_name pn_1) hisR ?_
  intro p e s m args below meth c s₁ Bd hml0 hP hK
  obtain ⟨rfl, hZ, hh⟩ := hP
  have hx := Bd.exec
  have hby := Bd.bytes
  have hml : c.maxLocals = 3 := hml0
  have hown : s.vm.findClass "com/example/demarc/demarc/Placement" = some m.cls := findClass_of_methodNamed Bd.named
  have hnm := (name_of_methodNamed Bd.named Bd.method).1
  have X0 : Stand p l e ({ frames := 1, cells := 0, slots := 0, locals := 13 } : Room) s m #[(.ref a_MANDATORY), (.int (0 : Int32))] below meth c s₁ [] 0 0 := Stand.of_body Bd
  have e0 : s₁.heap = h0 := by rw [← hh, Bd.state]; rfl
  have N0 := Fr.nil n0
  have pre0 : ∀ t, Steps p.tables e below (s₁.setTop (mkF m 0 #[.val (.ref a_MANDATORY), .val (.int (0 : Int32)), .unset] [])) t → Steps p.tables e below (s₁.setTop (entryFrame m #[(.ref a_MANDATORY), (.int (0 : Int32))] 3)) t := fun t k => castTop (ef_rm_of_MANDATORY_0 m (a_MANDATORY) ((0 : Int32))) k
  obtain ⟨T1, X1, e1, st1⟩ := getS2 X0 hx hZ hown (host := "") (Or.inl (hw _ (List.mem_of_getElem? (i := 11) rfl))) Via.refl e0 (hS.2.2.1.ext O0.2) (g := (mkF m 87 #[.val (.ref a_MANDATORY), .val (.int (0 : Int32)), .unset] [])) rfl (hb hby d_prog_19_method_4_87)
  obtain ⟨cq2, kq2, q2a, q2b, q2c⟩ := isOf hZ e1 ((hS.2.2.2.2.2.2.2.2.2.2.2.2.2.2.2.2.1.ext O0.2))
  obtain ⟨_, _, ⟨T2, L2, k2, n2⟩, -, X2, ⟨Lc2, hQ2, l2, y2, z2⟩, st2⟩ := X1.virtualBackUp hx (x := (⟨"com/example/demarc/demarc/TransactionAttributeType", "ordinal", "()I"⟩ : MethodName)) (y := (⟨"java/lang/Enum", "ordinal", "()I"⟩ : MethodName)) (owner := "java/lang/Enum") hown (mvT hZ (hw _ (List.mem_of_getElem? (i := 14) rfl))) (mvT hZ (hw _ (List.mem_of_getElem? (i := 15) rfl))) (mvT hZ (hw _ (List.mem_of_getElem? (i := 16) rfl))) (by decide) (mvT hZ (hw _ (List.mem_of_getElem? (i := 18) rfl))) (mvT hZ (hw _ (List.mem_of_getElem? (i := 17) rfl))) (backOf (W := 1) (rm_ord l Z a0 hw [] a_MANDATORY (2 : Int32) h0 n0 (hS.2.2.2.2.2.2.2.2.2.2.2.2.2.2.2.2.2.2.1.ext O0.2)) hZ (hw _ (List.mem_of_getElem? (i := 20) rfl)) (hw _ (List.mem_of_getElem? (i := 19) rfl)) (by decide) (by decide)) q2a q2c (g := (mkF m 91 #[.val (.ref a_MANDATORY), .val (.int (0 : Int32)), .unset] [(.ref a_MANDATORY), (.ref a__SwitchMap_com_example_demarc_demarc_TransactionAttributeType)])) rfl (by rw [hml]; rfl) (Steps.refl _) (argsL := []) (rest := [(.ref a__SwitchMap_com_example_demarc_demarc_TransactionAttributeType)]) (lenOf pd_0 rfl) rfl (by show 2 * 0 + _ ≤ _; exact Nat.le_of_eq rfl) (hb hby d_prog_19_method_4_91) (fun _ _ => ⟨rfl, e1, (by decide : 0 + 0 ≤ _), (by decide : 0 + 0 ≤ _)⟩)
  dsimp only [Pt.U, Pt.locs, Pt.cells, Pt.slots] at X2 l2 y2 z2 st2 hQ2
  subst l2 y2 z2
  obtain ⟨rfl, N2q, e2⟩ := hQ2
  have N2 := Fr.app N0 N2q
  obtain ⟨c3, Ar3, q3, S3, M3, Hh3, G3⟩ := (id (hS.2.2.2.2.2.2.2.2.2.2.2.2.2.2.2.2.2.2.2.2.2.2.2.2.2.2.2.2.2.2.2.ext O0.2))
  have hin3 : ¬ ((2 : Int32) < 0 ∨ c3.slots.size ≤ ((2 : Int32)).toNatClampNeg) := inb_of S3 ⟨by decide, by decide⟩
  have hat3 : c3.slots[((2 : Int32)).toNatClampNeg]? = some (.int (2 : Int32)) := Hh3.at hin3 rfl
  obtain ⟨T4, X4, e4, st4⟩ := getS2 X2 hx hZ hown (host := "") (Or.inl (hw _ (List.mem_of_getElem? (i := 33) rfl))) Via.refl e2 (hS.2.2.2.2.2.2.2.2.2.2.2.2.2.2.2.2.2.2.2.2.1.ext O0.2) (g := (mkF m 154 #[.val (.ref a_MANDATORY), .val (.int (0 : Int32)), .unset] [])) rfl (hb hby d_prog_19_method_4_154)
  obtain ⟨fs, hr, hrun, hended, hW, hsame⟩ := X4.leave (v := (some (.ref a_REFUSED))) (fun h => by rw [Bd.returns] at h; cases h)
  refine ⟨_, _, pre0 _ ?_, hrun, hended, _, _, rfl, ?_, ⟨_, rfl⟩, hW, hsame.mono (by decide) (by decide)⟩
  · refine XS.iloadN X0.here hx rfl (hb hby d_prog_19_method_4_0) rfl ?_
    show Steps p.tables e below (s₁.setTop (mkF m 1 #[.val (.ref a_MANDATORY), .val (.int (0 : Int32)), .unset] [(.int (0 : Int32))])) _
    refine XS.ifYes X0.here hx rfl (pc0 := 1) (pc' := 87) rfl (hb hby d_prog_19_method_4_1) rfl ((if0 _ _).trans (teq (by decide : (0 : Int32) = (0 : Int32))).1) (by decide) (by decide) ?_
    show Steps p.tables e below (s₁.setTop (mkF m 87 #[.val (.ref a_MANDATORY), .val (.int (0 : Int32)), .unset] [])) _
    refine st1 _ ?_
    show Steps p.tables e below (T1.setTop (mkF m 90 #[.val (.ref a_MANDATORY), .val (.int (0 : Int32)), .unset] [(.ref a__SwitchMap_com_example_demarc_demarc_TransactionAttributeType)])) _
    refine XS.aloadN X1.here hx rfl (hb hby d_prog_19_method_4_90) rfl rfl ?_
    show Steps p.tables e below (T1.setTop (mkF m 91 #[.val (.ref a_MANDATORY), .val (.int (0 : Int32)), .unset] [(.ref a_MANDATORY), (.ref a__SwitchMap_com_example_demarc_demarc_TransactionAttributeType)])) _
    refine st2.trans ?_
    show Steps p.tables e below (T2.setTop (mkF m 94 #[.val (.ref a_MANDATORY), .val (.int (0 : Int32)), .unset] [(.int (2 : Int32)), (.ref a__SwitchMap_com_example_demarc_demarc_TransactionAttributeType)])) _
    refine X2.iaload hx (j := (2 : Int32)) (v := (.int (2 : Int32))) (by rw [e2]; exact Ar3.1) (State.isArrayOf_alike hZ.alike Ar3.2.1) Ar3.2.2 hin3 hat3 (g := (mkF m 94 #[.val (.ref a_MANDATORY), .val (.int (0 : Int32)), .unset] [(.int (2 : Int32)), (.ref a__SwitchMap_com_example_demarc_demarc_TransactionAttributeType)])) rfl rfl (hb hby d_prog_19_method_4_94) _ ?_
    show Steps p.tables e below (T2.setTop (mkF m 95 #[.val (.ref a_MANDATORY), .val (.int (0 : Int32)), .unset] [(.int (2 : Int32))])) _
    refine XS.tswIn X2.here hx rfl (pc0 := 95) (pc' := 154) rfl (hb hby d_prog_19_method_4_95) rfl (by decide) (o := 59) rfl (by decide) (by decide) ?_
    show Steps p.tables e below (T2.setTop (mkF m 154 #[.val (.ref a_MANDATORY), .val (.int (0 : Int32)), .unset] [])) _
    refine st4 _ ?_
    show Steps p.tables e below (T4.setTop (mkF m 157 #[.val (.ref a_MANDATORY), .val (.int (0 : Int32)), .unset] [(.ref a_REFUSED)])) _
    refine XS.astoreN X4.here hx rfl (hb hby d_prog_19_method_4_157) rfl rfl (l' := #[.val (.ref a_MANDATORY), .val (.int (0 : Int32)), .val (.ref a_REFUSED)]) rfl ?_
    show Steps p.tables e below (T4.setTop (mkF m 158 #[.val (.ref a_MANDATORY), .val (.int (0 : Int32)), .val (.ref a_REFUSED)] [])) _
    refine XS.aloadN X4.here hx rfl (hb hby d_prog_19_method_4_158) rfl rfl ?_
    show Steps p.tables e below (T4.setTop (mkF m 159 #[.val (.ref a_MANDATORY), .val (.int (0 : Int32)), .val (.ref a_REFUSED)] [(.ref a_REFUSED)])) _
    exact retOut X4 hx Bd.returns rfl (Or.inr (Or.inr (Or.inr (Or.inr ⟨rfl, rfl, rfl⟩)))) (hb hby d_prog_19_method_4_159) hr
  · show QR a_REFUSED h0 n0 _ T4.heap _
    rw [e4]
    exact ⟨rfl, N2, rfl⟩
set_option maxRecDepth 65536 in
set_option maxHeartbeats 40000000 in
theorem rm_of_REQUIRES_NEW_1 (l : Launch) (Z : State) (a0 : Array Value) (hw : ∀ d ∈ tables_1, d.before a0 Z = true) (ws : List Jvm.Cond) (a_REQUIRED : Addr) (a__SwitchMap_com_example_demarc_demarc_TransactionAttributeType : Addr) (a_JOIN : Addr) (a_NONE : Addr) (a_NEW : Addr) (a_NOT_SUPPORTED : Addr) (a_MANDATORY : Addr) (a_REFUSED : Addr) (a_REQUIRES_NEW : Addr) (a_NEVER : Addr) (a_SUPPORTS : Addr) (k_a__SwitchMap_com_example_demarc_demarc_TransactionAttributeType : ClassId) (hS : SB Z a_REQUIRED a__SwitchMap_com_example_demarc_demarc_TransactionAttributeType a_JOIN a_NONE a_NEW a_NOT_SUPPORTED a_MANDATORY a_REFUSED a_REQUIRES_NEW a_NEVER a_SUPPORTS k_a__SwitchMap_com_example_demarc_demarc_TransactionAttributeType) (h0 : Heap) (n0 : Nat) (O0 : Old Z n0 h0) :
    MetFree l (⟨"com/example/demarc/demarc/Placement", "of", "(Lcom/example/demarc/demarc/TransactionAttributeType;Z)Lcom/example/demarc/demarc/Placement;"⟩ : MethodName) (head1 (Jvm.Cond.code (⟨"com/example/demarc/demarc/Placement", "of", "(Lcom/example/demarc/demarc/TransactionAttributeType;Z)Lcom/example/demarc/demarc/Placement;"⟩ : MethodName) prog_19_method_4_code 3 (some (.object "com/example/demarc/demarc/Placement")) :: ws) ({ frames := 1, cells := 0, slots := 0, locals := 13 } : Room)) (fun a U => a = #[(.ref a_REQUIRES_NEW), (.int (1 : Int32))] ∧ Z.Warmed39 U.vm ∧ U.heap = h0) (fun _ _ _ _ _ => True) (fun _ U o U' => ∃ v L, o = .returned v ∧ QR a_NEW h0 n0 v U'.heap L ∧ FrameEnd U o U' L ({ frames := 1, cells := 0, slots := 0, locals := 13 } : Room).cells ({ frames := 1, cells := 0, slots := 0, locals := 13 } : Room).slots) := by
  refine MetFree.of_bodySF (plainFor_of_name pn_1) hisR ?_
  intro p e s m args below meth c s₁ Bd hml0 hP hK
  obtain ⟨rfl, hZ, hh⟩ := hP
  have hx := Bd.exec
  have hby := Bd.bytes
  have hml : c.maxLocals = 3 := hml0
  have hown : s.vm.findClass "com/example/demarc/demarc/Placement" = some m.cls := findClass_of_methodNamed Bd.named
  have hnm := (name_of_methodNamed Bd.named Bd.method).1
  have X0 : Stand p l e ({ frames := 1, cells := 0, slots := 0, locals := 13 } : Room) s m #[(.ref a_REQUIRES_NEW), (.int (1 : Int32))] below meth c s₁ [] 0 0 := Stand.of_body Bd
  have e0 : s₁.heap = h0 := by rw [← hh, Bd.state]; rfl
  have N0 := Fr.nil n0
  have pre0 : ∀ t, Steps p.tables e below (s₁.setTop (mkF m 0 #[.val (.ref a_REQUIRES_NEW), .val (.int (1 : Int32)), .unset] [])) t → Steps p.tables e below (s₁.setTop (entryFrame m #[(.ref a_REQUIRES_NEW), (.int (1 : Int32))] 3)) t := fun t k => castTop (ef_rm_of_REQUIRES_NEW_1 m (a_REQUIRES_NEW) ((1 : Int32))) k
  obtain ⟨T1, X1, e1, st1⟩ := getS2 X0 hx hZ hown (host := "") (Or.inl (hw _ (List.mem_of_getElem? (i := 11) rfl))) Via.refl e0 (hS.2.2.1.ext O0.2) (g := (mkF m 4 #[.val (.ref a_REQUIRES_NEW), .val (.int (1 : Int32)), .unset] [])) rfl (hb hby d_prog_19_method_4_4)
  obtain ⟨cq2, kq2, q2a, q2b, q2c⟩ := isOf hZ e1 ((hS.2.2.2.2.2.2.2.2.2.2.2.2.2.2.2.2.2.2.2.2.2.2.1.ext O0.2))
  obtain ⟨_, _, ⟨T2, L2, k2, n2⟩, -, X2, ⟨Lc2, hQ2, l2, y2, z2⟩, st2⟩ := X1.virtualBackUp hx (x := (⟨"com/example/demarc/demarc/TransactionAttributeType", "ordinal", "()I"⟩ : MethodName)) (y := (⟨"java/lang/Enum", "ordinal", "()I"⟩ : MethodName)) (owner := "java/lang/Enum") hown (mvT hZ (hw _ (List.mem_of_getElem? (i := 14) rfl))) (mvT hZ (hw _ (List.mem_of_getElem? (i := 15) rfl))) (mvT hZ (hw _ (List.mem_of_getElem? (i := 16) rfl))) (by decide) (mvT hZ (hw _ (List.mem_of_getElem? (i := 18) rfl))) (mvT hZ (hw _ (List.mem_of_getElem? (i := 17) rfl))) (backOf (W := 1) (rm_ord l Z a0 hw [] a_REQUIRES_NEW (1 : Int32) h0 n0 (hS.2.2.2.2.2.2.2.2.2.2.2.2.2.2.2.2.2.2.2.2.2.2.2.2.1.ext O0.2)) hZ (hw _ (List.mem_of_getElem? (i := 20) rfl)) (hw _ (List.mem_of_getElem? (i := 19) rfl)) (by decide) (by decide)) q2a q2c (g := (mkF m 8 #[.val (.ref a_REQUIRES_NEW), .val (.int (1 : Int32)), .unset] [(.ref a_REQUIRES_NEW), (.ref a__SwitchMap_com_example_demarc_demarc_TransactionAttributeType)])) rfl (by rw [hml]; rfl) (Steps.refl _) (argsL := []) (rest := [(.ref a__SwitchMap_com_example_demarc_demarc_TransactionAttributeType)]) (lenOf pd_0 rfl) rfl (by show 2 * 0 + _ ≤ _; exact Nat.le_of_eq rfl) (hb hby d_prog_19_method_4_8) (fun _ _ => ⟨rfl, e1, (by decide : 0 + 0 ≤ _), (by decide : 0 + 0 ≤ _)⟩)
  dsimp only [Pt.U, Pt.locs, Pt.cells, Pt.slots] at X2 l2 y2 z2 st2 hQ2
  subst l2 y2 z2
  obtain ⟨rfl, N2q, e2⟩ := hQ2
  have N2 := Fr.app N0 N2q
  obtain ⟨c3, Ar3, q3, S3, M3, Hh3, G3⟩ := (id (hS.2.2.2.2.2.2.2.2.2.2.2.2.2.2.2.2.2.2.2.2.2.2.2.2.2.2.2.2.2.2.2.ext O0.2))
  have hin3 : ¬ ((1 : Int32) < 0 ∨ c3.slots.size ≤ ((1 : Int32)).toNatClampNeg) := inb_of S3 ⟨by decide, by decide⟩
  have hat3 : c3.slots[((1 : Int32)).toNatClampNeg]? = some (.int (4 : Int32)) := Hh3.at hin3 rfl
  obtain ⟨T4, X4, e4, st4⟩ := getS2 X2 hx hZ hown (host := "") (Or.inl (hw _ (List.mem_of_getElem? (i := 27) rfl))) Via.refl e2 (hS.2.2.2.2.2.2.2.2.2.2.2.1.ext O0.2) (g := (mkF m 68 #[.val (.ref a_REQUIRES_NEW), .val (.int (1 : Int32)), .unset] [])) rfl (hb hby d_prog_19_method_4_68)
  obtain ⟨fs, hr, hrun, hended, hW, hsame⟩ := X4.leave (v := (some (.ref a_NEW))) (fun h => by rw [Bd.returns] at h; cases h)
  refine ⟨_, _, pre0 _ ?_, hrun, hended, _, _, rfl, ?_, ⟨_, rfl⟩, hW, hsame.mono (by decide) (by decide)⟩
  · refine XS.iloadN X0.here hx rfl (hb hby d_prog_19_method_4_0) rfl ?_
    show Steps p.tables e below (s₁.setTop (mkF m 1 #[.val (.ref a_REQUIRES_NEW), .val (.int (1 : Int32)), .unset] [(.int (1 : Int32))])) _
    refine XS.ifNo X0.here hx rfl (hb hby d_prog_19_method_4_1) rfl ((if0 _ _).trans (feq (by decide : ¬ ((1 : Int32) = (0 : Int32)))).1) ?_
    show Steps p.tables e below (s₁.setTop (mkF m 4 #[.val (.ref a_REQUIRES_NEW), .val (.int (1 : Int32)), .unset] [])) _
    refine st1 _ ?_
    show Steps p.tables e below (T1.setTop (mkF m 7 #[.val (.ref a_REQUIRES_NEW), .val (.int (1 : Int32)), .unset] [(.ref a__SwitchMap_com_example_demarc_demarc_TransactionAttributeType)])) _
    refine XS.aloadN X1.here hx rfl (hb hby d_prog_19_method_4_7) rfl rfl ?_
    show Steps p.tables e below (T1.setTop (mkF m 8 #[.val (.ref a_REQUIRES_NEW), .val (.int (1 : Int32)), .unset] [(.ref a_REQUIRES_NEW), (.ref a__SwitchMap_com_example_demarc_demarc_TransactionAttributeType)])) _
    refine st2.trans ?_
    show Steps p.tables e below (T2.setTop (mkF m 11 #[.val (.ref a_REQUIRES_NEW), .val (.int (1 : Int32)), .unset] [(.int (1 : Int32)), (.ref a__SwitchMap_com_example_demarc_demarc_TransactionAttributeType)])) _
    refine X2.iaload hx (j := (1 : Int32)) (v := (.int (4 : Int32))) (by rw [e2]; exact Ar3.1) (State.isArrayOf_alike hZ.alike Ar3.2.1) Ar3.2.2 hin3 hat3 (g := (mkF m 11 #[.val (.ref a_REQUIRES_NEW), .val (.int (1 : Int32)), .unset] [(.int (1 : Int32)), (.ref a__SwitchMap_com_example_demarc_demarc_TransactionAttributeType)])) rfl rfl (hb hby d_prog_19_method_4_11) _ ?_
    show Steps p.tables e below (T2.setTop (mkF m 12 #[.val (.ref a_REQUIRES_NEW), .val (.int (1 : Int32)), .unset] [(.int (4 : Int32))])) _
    refine XS.tswIn X2.here hx rfl (pc0 := 12) (pc' := 68) rfl (hb hby d_prog_19_method_4_12) rfl (by decide) (o := 56) rfl (by decide) (by decide) ?_
    show Steps p.tables e below (T2.setTop (mkF m 68 #[.val (.ref a_REQUIRES_NEW), .val (.int (1 : Int32)), .unset] [])) _
    refine st4 _ ?_
    show Steps p.tables e below (T4.setTop (mkF m 71 #[.val (.ref a_REQUIRES_NEW), .val (.int (1 : Int32)), .unset] [(.ref a_NEW)])) _
    refine XS.goto X4.here hx rfl (pc0 := 71) (pc' := 83) rfl (hb hby d_prog_19_method_4_71) (by decide) (by decide) ?_
    show Steps p.tables e below (T4.setTop (mkF m 83 #[.val (.ref a_REQUIRES_NEW), .val (.int (1 : Int32)), .unset] [(.ref a_NEW)])) _
    refine XS.astoreN X4.here hx rfl (hb hby d_prog_19_method_4_83) rfl rfl (l' := #[.val (.ref a_REQUIRES_NEW), .val (.int (1 : Int32)), .val (.ref a_NEW)]) rfl ?_
    show Steps p.tables e below (T4.setTop (mkF m 84 #[.val (.ref a_REQUIRES_NEW), .val (.int (1 : Int32)), .val (.ref a_NEW)] [])) _
    refine XS.goto X4.here hx rfl (pc0 := 84) (pc' := 158) rfl (hb hby d_prog_19_method_4_84) (by decide) (by decide) ?_
    show Steps p.tables e below (T4.setTop (mkF m 158 #[.val (.ref a_REQUIRES_NEW), .val (.int (1 : Int32)), .val (.ref a_NEW)] [])) _
    refine XS.aloadN X4.here hx rfl (hb hby d_prog_19_method_4_158) rfl rfl ?_
    show Steps p.tables e below (T4.setTop (mkF m 159 #[.val (.ref a_REQUIRES_NEW), .val (.int (1 : Int32)), .val (.ref a_NEW)] [(.ref a_NEW)])) _
    exact retOut X4 hx Bd.returns rfl (Or.inr (Or.inr (Or.inr (Or.inr ⟨rfl, rfl, rfl⟩)))) (hb hby d_prog_19_method_4_159) hr
  · show QR a_NEW h0 n0 _ T4.heap _
    rw [e4]
    exact ⟨rfl, N2, rfl⟩
set_option maxRecDepth 65536 in
set_option maxHeartbeats 40000000 in
theorem rm_of_REQUIRES_NEW_0 (l : Launch) (Z : State) (a0 : Array Value) (hw : ∀ d ∈ tables_1, d.before a0 Z = true) (ws : List Jvm.Cond) (a_REQUIRED : Addr) (a__SwitchMap_com_example_demarc_demarc_TransactionAttributeType : Addr) (a_JOIN : Addr) (a_NONE : Addr) (a_NEW : Addr) (a_NOT_SUPPORTED : Addr) (a_MANDATORY : Addr) (a_REFUSED : Addr) (a_REQUIRES_NEW : Addr) (a_NEVER : Addr) (a_SUPPORTS : Addr) (k_a__SwitchMap_com_example_demarc_demarc_TransactionAttributeType : ClassId) (hS : SB Z a_REQUIRED a__SwitchMap_com_example_demarc_demarc_TransactionAttributeType a_JOIN a_NONE a_NEW a_NOT_SUPPORTED a_MANDATORY a_REFUSED a_REQUIRES_NEW a_NEVER a_SUPPORTS k_a__SwitchMap_com_example_demarc_demarc_TransactionAttributeType) (h0 : Heap) (n0 : Nat) (O0 : Old Z n0 h0) :
    MetFree l (⟨"com/example/demarc/demarc/Placement", "of", "(Lcom/example/demarc/demarc/TransactionAttributeType;Z)Lcom/example/demarc/demarc/Placement;"⟩ : MethodName) (head1 (Jvm.Cond.code (⟨"com/example/demarc/demarc/Placement", "of", "(Lcom/example/demarc/demarc/TransactionAttributeType;Z)Lcom/example/demarc/demarc/Placement;"⟩ : MethodName) prog_19_method_4_code 3 (some (.object "com/example/demarc/demarc/Placement")) :: ws) ({ frames := 1, cells := 0, slots := 0, locals := 13 } : Room)) (fun a U => a = #[(.ref a_REQUIRES_NEW), (.int (0 : Int32))] ∧ Z.Warmed39 U.vm ∧ U.heap = h0) (fun _ _ _ _ _ => True) (fun _ U o U' => ∃ v L, o = .returned v ∧ QR a_NEW h0 n0 v U'.heap L ∧ FrameEnd U o U' L ({ frames := 1, cells := 0, slots := 0, locals := 13 } : Room).cells ({ frames := 1, cells := 0, slots := 0, locals := 13 } : Room).slots) := by
  refine MetFree.of_bodySF (plainFor_of_name pn_1) hisR ?_
  intro p e s m args below meth c s₁ Bd hml0 hP hK
  obtain ⟨rfl, hZ, hh⟩ := hP
  have hx := Bd.exec
  have hby := Bd.bytes
  have hml : c.maxLocals = 3 := hml0
  have hown : s.vm.findClass "com/example/demarc/demarc/Placement" = some m.cls := findClass_of_methodNamed Bd.named
  have hnm := (name_of_methodNamed Bd.named Bd.method).1
  have X0 : Stand p l e ({ frames := 1, cells := 0, slots := 0, locals := 13 } : Room) s m #[(.ref a_REQUIRES_NEW), (.int (0 : Int32))] below meth c s₁ [] 0 0 := Stand.of_body Bd
  have e0 : s₁.heap = h0 := by rw [← hh, Bd.state]; rfl
  have N0 := Fr.nil n0
  have pre0 : ∀ t, Steps p.tables e below (s₁.setTop (mkF m 0 #[.val (.ref a_REQUIRES_NEW), .val (.int (0 : Int32)), .unset] [])) t → Steps p.tables e below (s₁.setTop (entryFrame m #[(.ref a_REQUIRES_NEW), (.int (0 : Int32))] 3)) t := fun t k => castTop (ef_rm_of_REQUIRES_NEW_0 m (a_REQUIRES_NEW) ((0 : Int32))) k
  obtain ⟨T1, X1, e1, st1⟩ := getS2 X0 hx hZ hown (host := "") (Or.inl (hw _ (List.mem_of_getElem? (i := 11) rfl))) Via.refl e0 (hS.2.2.1.ext O0.2) (g := (mkF m 87 #[.val (.ref a_REQUIRES_NEW), .val (.int (0 : Int32)), .unset] [])) rfl (hb hby d_prog_19_method_4_87)
  obtain ⟨cq2, kq2, q2a, q2b, q2c⟩ := isOf hZ e1 ((hS.2.2.2.2.2.2.2.2.2.2.2.2.2.2.2.2.2.2.2.2.2.2.1.ext O0.2))
  obtain ⟨_, _, ⟨T2, L2, k2, n2⟩, -, X2, ⟨Lc2, hQ2, l2, y2, z2⟩, st2⟩ := X1.virtualBackUp hx (x := (⟨"com/example/demarc/demarc/TransactionAttributeType", "ordinal", "()I"⟩ : MethodName)) (y := (⟨"java/lang/Enum", "ordinal", "()I"⟩ : MethodName)) (owner := "java/lang/Enum") hown (mvT hZ (hw _ (List.mem_of_getElem? (i := 14) rfl))) (mvT hZ (hw _ (List.mem_of_getElem? (i := 15) rfl))) (mvT hZ (hw _ (List.mem_of_getElem? (i := 16) rfl))) (by decide) (mvT hZ (hw _ (List.mem_of_getElem? (i := 18) rfl))) (mvT hZ (hw _ (List.mem_of_getElem? (i := 17) rfl))) (backOf (W := 1) (rm_ord l Z a0 hw [] a_REQUIRES_NEW (1 : Int32) h0 n0 (hS.2.2.2.2.2.2.2.2.2.2.2.2.2.2.2.2.2.2.2.2.2.2.2.2.1.ext O0.2)) hZ (hw _ (List.mem_of_getElem? (i := 20) rfl)) (hw _ (List.mem_of_getElem? (i := 19) rfl)) (by decide) (by decide)) q2a q2c (g := (mkF m 91 #[.val (.ref a_REQUIRES_NEW), .val (.int (0 : Int32)), .unset] [(.ref a_REQUIRES_NEW), (.ref a__SwitchMap_com_example_demarc_demarc_TransactionAttributeType)])) rfl (by rw [hml]; rfl) (Steps.refl _) (argsL := []) (rest := [(.ref a__SwitchMap_com_example_demarc_demarc_TransactionAttributeType)]) (lenOf pd_0 rfl) rfl (by show 2 * 0 + _ ≤ _; exact Nat.le_of_eq rfl) (hb hby d_prog_19_method_4_91) (fun _ _ => ⟨rfl, e1, (by decide : 0 + 0 ≤ _), (by decide : 0 + 0 ≤ _)⟩)
  dsimp only [Pt.U, Pt.locs, Pt.cells, Pt.slots] at X2 l2 y2 z2 st2 hQ2
  subst l2 y2 z2
  obtain ⟨rfl, N2q, e2⟩ := hQ2
  have N2 := Fr.app N0 N2q
  obtain ⟨c3, Ar3, q3, S3, M3, Hh3, G3⟩ := (id (hS.2.2.2.2.2.2.2.2.2.2.2.2.2.2.2.2.2.2.2.2.2.2.2.2.2.2.2.2.2.2.2.ext O0.2))
  have hin3 : ¬ ((1 : Int32) < 0 ∨ c3.slots.size ≤ ((1 : Int32)).toNatClampNeg) := inb_of S3 ⟨by decide, by decide⟩
  have hat3 : c3.slots[((1 : Int32)).toNatClampNeg]? = some (.int (4 : Int32)) := Hh3.at hin3 rfl
  obtain ⟨T4, X4, e4, st4⟩ := getS2 X2 hx hZ hown (host := "") (Or.inl (hw _ (List.mem_of_getElem? (i := 27) rfl))) Via.refl e2 (hS.2.2.2.2.2.2.2.2.2.2.2.1.ext O0.2) (g := (mkF m 142 #[.val (.ref a_REQUIRES_NEW), .val (.int (0 : Int32)), .unset] [])) rfl (hb hby d_prog_19_method_4_142)
  obtain ⟨fs, hr, hrun, hended, hW, hsame⟩ := X4.leave (v := (some (.ref a_NEW))) (fun h => by rw [Bd.returns] at h; cases h)
  refine ⟨_, _, pre0 _ ?_, hrun, hended, _, _, rfl, ?_, ⟨_, rfl⟩, hW, hsame.mono (by decide) (by decide)⟩
  · refine XS.iloadN X0.here hx rfl (hb hby d_prog_19_method_4_0) rfl ?_
    show Steps p.tables e below (s₁.setTop (mkF m 1 #[.val (.ref a_REQUIRES_NEW), .val (.int (0 : Int32)), .unset] [(.int (0 : Int32))])) _
    refine XS.ifYes X0.here hx rfl (pc0 := 1) (pc' := 87) rfl (hb hby d_prog_19_method_4_1) rfl ((if0 _ _).trans (teq (by decide : (0 : Int32) = (0 : Int32))).1) (by decide) (by decide) ?_
    show Steps p.tables e below (s₁.setTop (mkF m 87 #[.val (.ref a_REQUIRES_NEW), .val (.int (0 : Int32)), .unset] [])) _
    refine st1 _ ?_
    show Steps p.tables e below (T1.setTop (mkF m 90 #[.val (.ref a_REQUIRES_NEW), .val (.int (0 : Int32)), .unset] [(.ref a__SwitchMap_com_example_demarc_demarc_TransactionAttributeType)])) _
    refine XS.aloadN X1.here hx rfl (hb hby d_prog_19_method_4_90) rfl rfl ?_
    show Steps p.tables e below (T1.setTop (mkF m 91 #[.val (.ref a_REQUIRES_NEW), .val (.int (0 : Int32)), .unset] [(.ref a_REQUIRES_NEW), (.ref a__SwitchMap_com_example_demarc_demarc_TransactionAttributeType)])) _
    refine st2.trans ?_
    show Steps p.tables e below (T2.setTop (mkF m 94 #[.val (.ref a_REQUIRES_NEW), .val (.int (0 : Int32)), .unset] [(.int (1 : Int32)), (.ref a__SwitchMap_com_example_demarc_demarc_TransactionAttributeType)])) _
    refine X2.iaload hx (j := (1 : Int32)) (v := (.int (4 : Int32))) (by rw [e2]; exact Ar3.1) (State.isArrayOf_alike hZ.alike Ar3.2.1) Ar3.2.2 hin3 hat3 (g := (mkF m 94 #[.val (.ref a_REQUIRES_NEW), .val (.int (0 : Int32)), .unset] [(.int (1 : Int32)), (.ref a__SwitchMap_com_example_demarc_demarc_TransactionAttributeType)])) rfl rfl (hb hby d_prog_19_method_4_94) _ ?_
    show Steps p.tables e below (T2.setTop (mkF m 95 #[.val (.ref a_REQUIRES_NEW), .val (.int (0 : Int32)), .unset] [(.int (4 : Int32))])) _
    refine XS.tswIn X2.here hx rfl (pc0 := 95) (pc' := 142) rfl (hb hby d_prog_19_method_4_95) rfl (by decide) (o := 47) rfl (by decide) (by decide) ?_
    show Steps p.tables e below (T2.setTop (mkF m 142 #[.val (.ref a_REQUIRES_NEW), .val (.int (0 : Int32)), .unset] [])) _
    refine st4 _ ?_
    show Steps p.tables e below (T4.setTop (mkF m 145 #[.val (.ref a_REQUIRES_NEW), .val (.int (0 : Int32)), .unset] [(.ref a_NEW)])) _
    refine XS.goto X4.here hx rfl (pc0 := 145) (pc' := 157) rfl (hb hby d_prog_19_method_4_145) (by decide) (by decide) ?_
    show Steps p.tables e below (T4.setTop (mkF m 157 #[.val (.ref a_REQUIRES_NEW), .val (.int (0 : Int32)), .unset] [(.ref a_NEW)])) _
    refine XS.astoreN X4.here hx rfl (hb hby d_prog_19_method_4_157) rfl rfl (l' := #[.val (.ref a_REQUIRES_NEW), .val (.int (0 : Int32)), .val (.ref a_NEW)]) rfl ?_
    show Steps p.tables e below (T4.setTop (mkF m 158 #[.val (.ref a_REQUIRES_NEW), .val (.int (0 : Int32)), .val (.ref a_NEW)] [])) _
    refine XS.aloadN X4.here hx rfl (hb hby d_prog_19_method_4_158) rfl rfl ?_
    show Steps p.tables e below (T4.setTop (mkF m 159 #[.val (.ref a_REQUIRES_NEW), .val (.int (0 : Int32)), .val (.ref a_NEW)] [(.ref a_NEW)])) _
    exact retOut X4 hx Bd.returns rfl (Or.inr (Or.inr (Or.inr (Or.inr ⟨rfl, rfl, rfl⟩)))) (hb hby d_prog_19_method_4_159) hr
  · show QR a_NEW h0 n0 _ T4.heap _
    rw [e4]
    exact ⟨rfl, N2, rfl⟩
set_option maxRecDepth 65536 in
set_option maxHeartbeats 40000000 in
theorem rm_of_NEVER_1 (l : Launch) (Z : State) (a0 : Array Value) (hw : ∀ d ∈ tables_1, d.before a0 Z = true) (ws : List Jvm.Cond) (a_REQUIRED : Addr) (a__SwitchMap_com_example_demarc_demarc_TransactionAttributeType : Addr) (a_JOIN : Addr) (a_NONE : Addr) (a_NEW : Addr) (a_NOT_SUPPORTED : Addr) (a_MANDATORY : Addr) (a_REFUSED : Addr) (a_REQUIRES_NEW : Addr) (a_NEVER : Addr) (a_SUPPORTS : Addr) (k_a__SwitchMap_com_example_demarc_demarc_TransactionAttributeType : ClassId) (hS : SB Z a_REQUIRED a__SwitchMap_com_example_demarc_demarc_TransactionAttributeType a_JOIN a_NONE a_NEW a_NOT_SUPPORTED a_MANDATORY a_REFUSED a_REQUIRES_NEW a_NEVER a_SUPPORTS k_a__SwitchMap_com_example_demarc_demarc_TransactionAttributeType) (h0 : Heap) (n0 : Nat) (O0 : Old Z n0 h0) :
    MetFree l (⟨"com/example/demarc/demarc/Placement", "of", "(Lcom/example/demarc/demarc/TransactionAttributeType;Z)Lcom/example/demarc/demarc/Placement;"⟩ : MethodName) (head1 (Jvm.Cond.code (⟨"com/example/demarc/demarc/Placement", "of", "(Lcom/example/demarc/demarc/TransactionAttributeType;Z)Lcom/example/demarc/demarc/Placement;"⟩ : MethodName) prog_19_method_4_code 3 (some (.object "com/example/demarc/demarc/Placement")) :: ws) ({ frames := 1, cells := 0, slots := 0, locals := 13 } : Room)) (fun a U => a = #[(.ref a_NEVER), (.int (1 : Int32))] ∧ Z.Warmed39 U.vm ∧ U.heap = h0) (fun _ _ _ _ _ => True) (fun _ U o U' => ∃ v L, o = .returned v ∧ QR a_REFUSED h0 n0 v U'.heap L ∧ FrameEnd U o U' L ({ frames := 1, cells := 0, slots := 0, locals := 13 } : Room).cells ({ frames := 1, cells := 0, slots := 0, locals := 13 } : Room).slots) := by
  refine MetFree.of_bodySF (plainFor_of_name pn_1) hisR ?_
  intro p e s m args below meth c s₁ Bd hml0 hP hK
  obtain ⟨rfl, hZ, hh⟩ := hP
  have hx := Bd.exec
  have hby := Bd.bytes
  have hml : c.maxLocals = 3 := hml0
  have hown : s.vm.findClass "com/example/demarc/demarc/Placement" = some m.cls := findClass_of_methodNamed Bd.named
  have hnm := (name_of_methodNamed Bd.named Bd.method).1
  have X0 : Stand p l e ({ frames := 1, cells := 0, slots := 0, locals := 13 } : Room) s m #[(.ref a_NEVER), (.int (1 : Int32))] below meth c s₁ [] 0 0 := Stand.of_body Bd
  have e0 : s₁.heap = h0 := by rw [← hh, Bd.state]; rfl
  have N0 := Fr.nil n0
  have pre0 : ∀ t, Steps p.tables e below (s₁.setTop (mkF m 0 #[.val (.ref a_NEVER), .val (.int (1 : Int32)), .unset] [])) t → Steps p.tables e below (s₁.setTop (entryFrame m #[(.ref a_NEVER), (.int (1 : Int32))] 3)) t := fun t k => castTop (ef_rm_of_NEVER_1 m (a_NEVER) ((1 : Int32))) k
  obtain ⟨T1, X1, e1, st1⟩ := getS2 X0 hx hZ hown (host := "") (Or.inl (hw _ (List.mem_of_getElem? (i := 11) rfl))) Via.refl e0 (hS.2.2.1.ext O0.2) (g := (mkF m 4 #[.val (.ref a_NEVER), .val (.int (1 : Int32)), .unset] [])) rfl (hb hby d_prog_19_method_4_4)
  obtain ⟨cq2, kq2, q2a, q2b, q2c⟩ := isOf hZ e1 ((hS.2.2.2.2.2.2.2.2.2.2.2.2.2.2.2.2.2.2.2.2.2.2.2.2.2.1.ext O0.2))
  obtain ⟨_, _, ⟨T2, L2, k2, n2⟩, -, X2, ⟨Lc2, hQ2, l2, y2, z2⟩, st2⟩ := X1.virtualBackUp hx (x := (⟨"com/example/demarc/demarc/TransactionAttributeType", "ordinal", "()I"⟩ : MethodName)) (y := (⟨"java/lang/Enum", "ordinal", "()I"⟩ : MethodName)) (owner := "java/lang/Enum") hown (mvT hZ (hw _ (List.mem_of_getElem? (i := 14) rfl))) (mvT hZ (hw _ (List.mem_of_getElem? (i := 15) rfl))) (mvT hZ (hw _ (List.mem_of_getElem? (i := 16) rfl))) (by decide) (mvT hZ (hw _ (List.mem_of_getElem? (i := 18) rfl))) (mvT hZ (hw _ (List.mem_of_getElem? (i := 17) rfl))) (backOf (W := 1) (rm_ord l Z a0 hw [] a_NEVER (5 : Int32) h0 n0 (hS.2.2.2.2.2.2.2.2.2.2.2.2.2.2.2.2.2.2.2.2.2.2.2.2.2.2.2.1.ext O0.2)) hZ (hw _ (List.mem_of_getElem? (i := 20) rfl)) (hw _ (List.mem_of_getElem? (i := 19) rfl)) (by decide) (by decide)) q2a q2c (g := (mkF m 8 #[.val (.ref a_NEVER), .val (.int (1 : Int32)), .unset] [(.ref a_NEVER), (.ref a__SwitchMap_com_example_demarc_demarc_TransactionAttributeType)])) rfl (by rw [hml]; rfl) (Steps.refl _) (argsL := []) (rest := [(.ref a__SwitchMap_com_example_demarc_demarc_TransactionAttributeType)]) (lenOf pd_0 rfl) rfl (by show 2 * 0 + _ ≤ _; exact Nat.le_of_eq rfl) (hb hby d_prog_19_method_4_8) (fun _ _ => ⟨rfl, e1, (by decide : 0 + 0 ≤ _), (by decide : 0 + 0 ≤ _)⟩)
  dsimp only [Pt.U, Pt.locs, Pt.cells, Pt.slots] at X2 l2 y2 z2 st2 hQ2
  subst l2 y2 z2
  obtain ⟨rfl, N2q, e2⟩ := hQ2
  have N2 := Fr.app N0 N2q
  obtain ⟨c3, Ar3, q3, S3, M3, Hh3, G3⟩ := (id (hS.2.2.2.2.2.2.2.2.2.2.2.2.2.2.2.2.2.2.2.2.2.2.2.2.2.2.2.2.2.2.2.ext O0.2))
  have hin3 : ¬ ((5 : Int32) < 0 ∨ c3.slots.size ≤ ((5 : Int32)).toNatClampNeg) := inb_of S3 ⟨by decide, by decide⟩
  have hat3 : c3.slots[((5 : Int32)).toNatClampNeg]? = some (.int (6 : Int32)) := Hh3.at hin3 rfl
  obtain ⟨T4, X4, e4, st4⟩ := getS2 X2 hx hZ hown (host := "") (Or.inl (hw _ (List.mem_of_getElem? (i := 33) rfl))) Via.refl e2 (hS.2.2.2.2.2.2.2.2.2.2.2.2.2.2.2.2.2.2.2.2.1.ext O0.2) (g := (mkF m 80 #[.val (.ref a_NEVER), .val (.int (1 : Int32)), .unset] [])) rfl (hb hby d_prog_19_method_4_80)
  obtain ⟨fs, hr, hrun, hended, hW, hsame⟩ := X4.leave (v := (some (.ref a_REFUSED))) (fun h => by rw [Bd.returns] at h; cases h)
  refine ⟨_, _, pre0 _ ?_, hrun, hended, _, _, rfl, ?_, ⟨_, rfl⟩, hW, hsame.mono (by decide) (by decide)⟩
  · refine XS.iloadN X0.here hx rfl (hb hby d_prog_19_method_4_0) rfl ?_
    show Steps p.tables e below (s₁.setTop (mkF m 1 #[.val (.ref a_NEVER), .val (.int (1 : Int32)), .unset] [(.int (1 : Int32))])) _
    refine XS.ifNo X0.here hx rfl (hb hby d_prog_19_method_4_1) rfl ((if0 _ _).trans (feq (by decide : ¬ ((1 : Int32) = (0 : Int32)))).1) ?_
    show Steps p.tables e below (s₁.setTop (mkF m 4 #[.val (.ref a_NEVER), .val (.int (1 : Int32)), .unset] [])) _
    refine st1 _ ?_
    show Steps p.tables e below (T1.setTop (mkF m 7 #[.val (.ref a_NEVER), .val (.int (1 : Int32)), .unset] [(.ref a__SwitchMap_com_example_demarc_demarc_TransactionAttributeType)])) _
    refine XS.aloadN X1.here hx rfl (hb hby d_prog_19_method_4_7) rfl rfl ?_
    show Steps p.tables e below (T1.setTop (mkF m 8 #[.val (.ref a_NEVER), .val (.int (1 : Int32)), .unset] [(.ref a_NEVER), (.ref a__SwitchMap_com_example_demarc_demarc_TransactionAttributeType)])) _
    refine st2.trans ?_
    show Steps p.tables e below (T2.setTop (mkF m 11 #[.val (.ref a_NEVER), .val (.int (1 : Int32)), .unset] [(.int (5 : Int32)), (.ref a__SwitchMap_com_example_demarc_demarc_TransactionAttributeType)])) _
    refine X2.iaload hx (j := (5 : Int32)) (v := (.int (6 : Int32))) (by rw [e2]; exact Ar3.1) (State.isArrayOf_alike hZ.alike Ar3.2.1) Ar3.2.2 hin3 hat3 (g := (mkF m 11 #[.val (.ref a_NEVER), .val (.int (1 : Int32)), .unset] [(.int (5 : Int32)), (.ref a__SwitchMap_com_example_demarc_demarc_TransactionAttributeType)])) rfl rfl (hb hby d_prog_19_method_4_11) _ ?_
    show Steps p.tables e below (T2.setTop (mkF m 12 #[.val (.ref a_NEVER), .val (.int (1 : Int32)), .unset] [(.int (6 : Int32))])) _
    refine XS.tswIn X2.here hx rfl (pc0 := 12) (pc' := 80) rfl (hb hby d_prog_19_method_4_12) rfl (by decide) (o := 68) rfl (by decide) (by decide) ?_
    show Steps p.tables e below (T2.setTop (mkF m 80 #[.val (.ref a_NEVER), .val (.int (1 : Int32)), .unset] [])) _
    refine st4 _ ?_
    show Steps p.tables e below (T4.setTop (mkF m 83 #[.val (.ref a_NEVER), .val (.int (1 : Int32)), .unset] [(.ref a_REFUSED)])) _
    refine XS.astoreN X4.here hx rfl (hb hby d_prog_19_method_4_83) rfl rfl (l' := #[.val (.ref a_NEVER), .val (.int (1 : Int32)), .val (.ref a_REFUSED)]) rfl ?_
    show Steps p.tables e below (T4.setTop (mkF m 84 #[.val (.ref a_NEVER), .val (.int (1 : Int32)), .val (.ref a_REFUSED)] [])) _
    refine XS.goto X4.here hx rfl (pc0 := 84) (pc' := 158) rfl (hb hby d_prog_19_method_4_84) (by decide) (by decide) ?_
    show Steps p.tables e below (T4.setTop (mkF m 158 #[.val (.ref a_NEVER), .val (.int (1 : Int32)), .val (.ref a_REFUSED)] [])) _
    refine XS.aloadN X4.here hx rfl (hb hby d_prog_19_method_4_158) rfl rfl ?_
    show Steps p.tables e below (T4.setTop (mkF m 159 #[.val (.ref a_NEVER), .val (.int (1 : Int32)), .val (.ref a_REFUSED)] [(.ref a_REFUSED)])) _
    exact retOut X4 hx Bd.returns rfl (Or.inr (Or.inr (Or.inr (Or.inr ⟨rfl, rfl, rfl⟩)))) (hb hby d_prog_19_method_4_159) hr
  · show QR a_REFUSED h0 n0 _ T4.heap _
    rw [e4]
    exact ⟨rfl, N2, rfl⟩
set_option maxRecDepth 65536 in
set_option maxHeartbeats 40000000 in
theorem rm_of_NEVER_0 (l : Launch) (Z : State) (a0 : Array Value) (hw : ∀ d ∈ tables_1, d.before a0 Z = true) (ws : List Jvm.Cond) (a_REQUIRED : Addr) (a__SwitchMap_com_example_demarc_demarc_TransactionAttributeType : Addr) (a_JOIN : Addr) (a_NONE : Addr) (a_NEW : Addr) (a_NOT_SUPPORTED : Addr) (a_MANDATORY : Addr) (a_REFUSED : Addr) (a_REQUIRES_NEW : Addr) (a_NEVER : Addr) (a_SUPPORTS : Addr) (k_a__SwitchMap_com_example_demarc_demarc_TransactionAttributeType : ClassId) (hS : SB Z a_REQUIRED a__SwitchMap_com_example_demarc_demarc_TransactionAttributeType a_JOIN a_NONE a_NEW a_NOT_SUPPORTED a_MANDATORY a_REFUSED a_REQUIRES_NEW a_NEVER a_SUPPORTS k_a__SwitchMap_com_example_demarc_demarc_TransactionAttributeType) (h0 : Heap) (n0 : Nat) (O0 : Old Z n0 h0) :
    MetFree l (⟨"com/example/demarc/demarc/Placement", "of", "(Lcom/example/demarc/demarc/TransactionAttributeType;Z)Lcom/example/demarc/demarc/Placement;"⟩ : MethodName) (head1 (Jvm.Cond.code (⟨"com/example/demarc/demarc/Placement", "of", "(Lcom/example/demarc/demarc/TransactionAttributeType;Z)Lcom/example/demarc/demarc/Placement;"⟩ : MethodName) prog_19_method_4_code 3 (some (.object "com/example/demarc/demarc/Placement")) :: ws) ({ frames := 1, cells := 0, slots := 0, locals := 13 } : Room)) (fun a U => a = #[(.ref a_NEVER), (.int (0 : Int32))] ∧ Z.Warmed39 U.vm ∧ U.heap = h0) (fun _ _ _ _ _ => True) (fun _ U o U' => ∃ v L, o = .returned v ∧ QR a_NONE h0 n0 v U'.heap L ∧ FrameEnd U o U' L ({ frames := 1, cells := 0, slots := 0, locals := 13 } : Room).cells ({ frames := 1, cells := 0, slots := 0, locals := 13 } : Room).slots) := by
  refine MetFree.of_bodySF (plainFor_of_name pn_1) hisR ?_
  intro p e s m args below meth c s₁ Bd hml0 hP hK
  obtain ⟨rfl, hZ, hh⟩ := hP
  have hx := Bd.exec
  have hby := Bd.bytes
  have hml : c.maxLocals = 3 := hml0
  have hown : s.vm.findClass "com/example/demarc/demarc/Placement" = some m.cls := findClass_of_methodNamed Bd.named
  have hnm := (name_of_methodNamed Bd.named Bd.method).1
  have X0 : Stand p l e ({ frames := 1, cells := 0, slots := 0, locals := 13 } : Room) s m #[(.ref a_NEVER), (.int (0 : Int32))] below meth c s₁ [] 0 0 := Stand.of_body Bd
  have e0 : s₁.heap = h0 := by rw [← hh, Bd.state]; rfl
  have N0 := Fr.nil n0
  have pre0 : ∀ t, Steps p.tables e below (s₁.setTop (mkF m 0 #[.val (.ref a_NEVER), .val (.int (0 : Int32)), .unset] [])) t → Steps p.tables e below (s₁.setTop (entryFrame m #[(.ref a_NEVER), (.int (0 : Int32))] 3)) t := fun t k => castTop (ef_rm_of_NEVER_0 m (a_NEVER) ((0 : Int32))) k
  obtain ⟨T1, X1, e1, st1⟩ := getS2 X0 hx hZ hown (host := "") (Or.inl (hw _ (List.mem_of_getElem? (i := 11) rfl))) Via.refl e0 (hS.2.2.1.ext O0.2) (g := (mkF m 87 #[.val (.ref a_NEVER), .val (.int (0 : Int32)), .unset] [])) rfl (hb hby d_prog_19_method_4_87)
  obtain ⟨cq2, kq2, q2a, q2b, q2c⟩ := isOf hZ e1 ((hS.2.2.2.2.2.2.2.2.2.2.2.2.2.2.2.2.2.2.2.2.2.2.2.2.2.1.ext O0.2))
  obtain ⟨_, _, ⟨T2, L2, k2, n2⟩, -, X2, ⟨Lc2, hQ2, l2, y2, z2⟩, st2⟩ := X1.virtualBackUp hx (x := (⟨"com/example/demarc/demarc/TransactionAttributeType", "ordinal", "()I"⟩ : MethodName)) (y := (⟨"java/lang/Enum", "ordinal", "()I"⟩ : MethodName)) (owner := "java/lang/Enum") hown (mvT hZ (hw _ (List.mem_of_getElem? (i := 14) rfl))) (mvT hZ (hw _ (List.mem_of_getElem? (i := 15) rfl))) (mvT hZ (hw _ (List.mem_of_getElem? (i := 16) rfl))) (by decide) (mvT hZ (hw _ (List.mem_of_getElem? (i := 18) rfl))) (mvT hZ (hw _ (List.mem_of_getElem? (i := 17) rfl))) (backOf (W := 1) (rm_ord l Z a0 hw [] a_NEVER (5 : Int32) h0 n0 (hS.2.2.2.2.2.2.2.2.2.2.2.2.2.2.2.2.2.2.2.2.2.2.2.2.2.2.2.1.ext O0.2)) hZ (hw _ (List.mem_of_getElem? (i := 20) rfl)) (hw _ (List.mem_of_getElem? (i := 19) rfl)) (by decide) (by decide)) q2a q2c (g := (mkF m 91 #[.val (.ref a_NEVER), .val (.int (0 : Int32)), .unset] [(.ref a_NEVER), (.ref a__SwitchMap_com_example_demarc_demarc_TransactionAttributeType)])) rfl (by rw [hml]; rfl) (Steps.refl _) (argsL := []) (rest := [(.ref a__SwitchMap_com_example_demarc_demarc_TransactionAttributeType)]) (lenOf pd_0 rfl) rfl (by show 2 * 0 + _ ≤ _; exact Nat.le_of_eq rfl) (hb hby d_prog_19_method_4_91) (fun _ _ => ⟨rfl, e1, (by decide : 0 + 0 ≤ _), (by decide : 0 + 0 ≤ _)⟩)
  dsimp only [Pt.U, Pt.locs, Pt.cells, Pt.slots] at X2 l2 y2 z2 st2 hQ2
  subst l2 y2 z2
  obtain ⟨rfl, N2q, e2⟩ := hQ2
  have N2 := Fr.app N0 N2q
  obtain ⟨c3, Ar3, q3, S3, M3, Hh3, G3⟩ := (id (hS.2.2.2.2.2.2.2.2.2.2.2.2.2.2.2.2.2.2.2.2.2.2.2.2.2.2.2.2.2.2.2.ext O0.2))
  have hin3 : ¬ ((5 : Int32) < 0 ∨ c3.slots.size ≤ ((5 : Int32)).toNatClampNeg) := inb_of S3 ⟨by decide, by decide⟩
  have hat3 : c3.slots[((5 : Int32)).toNatClampNeg]? = some (.int (6 : Int32)) := Hh3.at hin3 rfl
  obtain ⟨T4, X4, e4, st4⟩ := getS2 X2 hx hZ hown (host := "") (Or.inl (hw _ (List.mem_of_getElem? (i := 25) rfl))) Via.refl e2 (hS.2.2.2.2.2.2.2.1.ext O0.2) (g := (mkF m 148 #[.val (.ref a_NEVER), .val (.int (0 : Int32)), .unset] [])) rfl (hb hby d_prog_19_method_4_148)
  obtain ⟨fs, hr, hrun, hended, hW, hsame⟩ := X4.leave (v := (some (.ref a_NONE))) (fun h => by rw [Bd.returns] at h; cases h)
  refine ⟨_, _, pre0 _ ?_, hrun, hended, _, _, rfl, ?_, ⟨_, rfl⟩, hW, hsame.mono (by decide) (by decide)⟩
  · refine XS.iloadN X0.here hx rfl (hb hby d_prog_19_method_4_0) rfl ?_
    show Steps p.tables e below (s₁.setTop (mkF m 1 #[.val (.ref a_NEVER), .val (.int (0 : Int32)), .unset] [(.int (0 : Int32))])) _
    refine XS.ifYes X0.here hx rfl (pc0 := 1) (pc' := 87) rfl (hb hby d_prog_19_method_4_1) rfl ((if0 _ _).trans (teq (by decide : (0 : Int32) = (0 : Int32))).1) (by decide) (by decide) ?_
    show Steps p.tables e below (s₁.setTop (mkF m 87 #[.val (.ref a_NEVER), .val (.int (0 : Int32)), .unset] [])) _
    refine st1 _ ?_
    show Steps p.tables e below (T1.setTop (mkF m 90 #[.val (.ref a_NEVER), .val (.int (0 : Int32)), .unset] [(.ref a__SwitchMap_com_example_demarc_demarc_TransactionAttributeType)])) _
    refine XS.aloadN X1.here hx rfl (hb hby d_prog_19_method_4_90) rfl rfl ?_
    show Steps p.tables e below (T1.setTop (mkF m 91 #[.val (.ref a_NEVER), .val (.int (0 : Int32)), .unset] [(.ref a_NEVER), (.ref a__SwitchMap_com_example_demarc_demarc_TransactionAttributeType)])) _
    refine st2.trans ?_
    show Steps p.tables e below (T2.setTop (mkF m 94 #[.val (.ref a_NEVER), .val (.int (0 : Int32)), .unset] [(.int (5 : Int32)), (.ref a__SwitchMap_com_example_demarc_demarc_TransactionAttributeType)])) _
    refine X2.iaload hx (j := (5 : Int32)) (v := (.int (6 : Int32))) (by rw [e2]; exact Ar3.1) (State.isArrayOf_alike hZ.alike Ar3.2.1) Ar3.2.2 hin3 hat3 (g := (mkF m 94 #[.val (.ref a_NEVER), .val (.int (0 : Int32)), .unset] [(.int (5 : Int32)), (.ref a__SwitchMap_com_example_demarc_demarc_TransactionAttributeType)])) rfl rfl (hb hby d_prog_19_method_4_94) _ ?_
    show Steps p.tables e below (T2.setTop (mkF m 95 #[.val (.ref a_NEVER), .val (.int (0 : Int32)), .unset] [(.int (6 : Int32))])) _
    refine XS.tswIn X2.here hx rfl (pc0 := 95) (pc' := 148) rfl (hb hby d_prog_19_method_4_95) rfl (by decide) (o := 53) rfl (by decide) (by decide) ?_
    show Steps p.tables e below (T2.setTop (mkF m 148 #[.val (.ref a_NEVER), .val (.int (0 : Int32)), .unset] [])) _
    refine st4 _ ?_
    show Steps p.tables e below (T4.setTop (mkF m 151 #[.val (.ref a_NEVER), .val (.int (0 : Int32)), .unset] [(.ref a_NONE)])) _
    refine XS.goto X4.here hx rfl (pc0 := 151) (pc' := 157) rfl (hb hby d_prog_19_method_4_151) (by decide) (by decide) ?_
    show Steps p.tables e below (T4.setTop (mkF m 157 #[.val (.ref a_NEVER), .val (.int (0 : Int32)), .unset] [(.ref a_NONE)])) _
    refine XS.astoreN X4.here hx rfl (hb hby d_prog_19_method_4_157) rfl rfl (l' := #[.val (.ref a_NEVER), .val (.int (0 : Int32)), .val (.ref a_NONE)]) rfl ?_
    show Steps p.tables e below (T4.setTop (mkF m 158 #[.val (.ref a_NEVER), .val (.int (0 : Int32)), .val (.ref a_NONE)] [])) _
    refine XS.aloadN X4.here hx rfl (hb hby d_prog_19_method_4_158) rfl rfl ?_
    show Steps p.tables e below (T4.setTop (mkF m 159 #[.val (.ref a_NEVER), .val (.int (0 : Int32)), .val (.ref a_NONE)] [(.ref a_NONE)])) _
    exact retOut X4 hx Bd.returns rfl (Or.inr (Or.inr (Or.inr (Or.inr ⟨rfl, rfl, rfl⟩)))) (hb hby d_prog_19_method_4_159) hr
  · show QR a_NONE h0 n0 _ T4.heap _
    rw [e4]
    exact ⟨rfl, N2, rfl⟩
set_option maxRecDepth 65536 in
set_option maxHeartbeats 40000000 in
theorem rm_of_SUPPORTS_1 (l : Launch) (Z : State) (a0 : Array Value) (hw : ∀ d ∈ tables_1, d.before a0 Z = true) (ws : List Jvm.Cond) (a_REQUIRED : Addr) (a__SwitchMap_com_example_demarc_demarc_TransactionAttributeType : Addr) (a_JOIN : Addr) (a_NONE : Addr) (a_NEW : Addr) (a_NOT_SUPPORTED : Addr) (a_MANDATORY : Addr) (a_REFUSED : Addr) (a_REQUIRES_NEW : Addr) (a_NEVER : Addr) (a_SUPPORTS : Addr) (k_a__SwitchMap_com_example_demarc_demarc_TransactionAttributeType : ClassId) (hS : SB Z a_REQUIRED a__SwitchMap_com_example_demarc_demarc_TransactionAttributeType a_JOIN a_NONE a_NEW a_NOT_SUPPORTED a_MANDATORY a_REFUSED a_REQUIRES_NEW a_NEVER a_SUPPORTS k_a__SwitchMap_com_example_demarc_demarc_TransactionAttributeType) (h0 : Heap) (n0 : Nat) (O0 : Old Z n0 h0) :
    MetFree l (⟨"com/example/demarc/demarc/Placement", "of", "(Lcom/example/demarc/demarc/TransactionAttributeType;Z)Lcom/example/demarc/demarc/Placement;"⟩ : MethodName) (head1 (Jvm.Cond.code (⟨"com/example/demarc/demarc/Placement", "of", "(Lcom/example/demarc/demarc/TransactionAttributeType;Z)Lcom/example/demarc/demarc/Placement;"⟩ : MethodName) prog_19_method_4_code 3 (some (.object "com/example/demarc/demarc/Placement")) :: ws) ({ frames := 1, cells := 0, slots := 0, locals := 13 } : Room)) (fun a U => a = #[(.ref a_SUPPORTS), (.int (1 : Int32))] ∧ Z.Warmed39 U.vm ∧ U.heap = h0) (fun _ _ _ _ _ => True) (fun _ U o U' => ∃ v L, o = .returned v ∧ QR a_JOIN h0 n0 v U'.heap L ∧ FrameEnd U o U' L ({ frames := 1, cells := 0, slots := 0, locals := 13 } : Room).cells ({ frames := 1, cells := 0, slots := 0, locals := 13 } : Room).slots) := by
  refine MetFree.of_bodySF (plainFor_of_name pn_1) hisR ?_
  intro p e s m args below meth c s₁ Bd hml0 hP hK
  obtain ⟨rfl, hZ, hh⟩ := hP
  have hx := Bd.exec
  have hby := Bd.bytes
  have hml : c.maxLocals = 3 := hml0
  have hown : s.vm.findClass "com/example/demarc/demarc/Placement" = some m.cls := findClass_of_methodNamed Bd.named
  have hnm := (name_of_methodNamed Bd.named Bd.method).1
  have X0 : Stand p l e ({ frames := 1, cells := 0, slots := 0, locals := 13 } : Room) s m #[(.ref a_SUPPORTS), (.int (1 : Int32))] below meth c s₁ [] 0 0 := Stand.of_body Bd
  have e0 : s₁.heap = h0 := by rw [← hh, Bd.state]; rfl
  have N0 := Fr.nil n0
  have pre0 : ∀ t, Steps p.tables e below (s₁.setTop (mkF m 0 #[.val (.ref a_SUPPORTS), .val (.int (1 : Int32)), .unset] [])) t → Steps p.tables e below (s₁.setTop (entryFrame m #[(.ref a_SUPPORTS), (.int (1 : Int32))] 3)) t := fun t k => castTop (ef_rm_of_SUPPORTS_1 m (a_SUPPORTS) ((1 : Int32))) k
  obtain ⟨T1, X1, e1, st1⟩ := getS2 X0 hx hZ hown (host := "") (Or.inl (hw _ (List.mem_of_getElem? (i := 11) rfl))) Via.refl e0 (hS.2.2.1.ext O0.2) (g := (mkF m 4 #[.val (.ref a_SUPPORTS), .val (.int (1 : Int32)), .unset] [])) rfl (hb hby d_prog_19_method_4_4)
  obtain ⟨cq2, kq2, q2a, q2b, q2c⟩ := isOf hZ e1 ((hS.2.2.2.2.2.2.2.2.2.2.2.2.2.2.2.2.2.2.2.2.2.2.2.2.2.2.2.2.1.ext O0.2))
  obtain ⟨_, _, ⟨T2, L2, k2, n2⟩, -, X2, ⟨Lc2, hQ2, l2, y2, z2⟩, st2⟩ := X1.virtualBackUp hx (x := (⟨"com/example/demarc/demarc/TransactionAttributeType", "ordinal", "()I"⟩ : MethodName)) (y := (⟨"java/lang/Enum", "ordinal", "()I"⟩ : MethodName)) (owner := "java/lang/Enum") hown (mvT hZ (hw _ (List.mem_of_getElem? (i := 14) rfl))) (mvT hZ (hw _ (List.mem_of_getElem? (i := 15) rfl))) (mvT hZ (hw _ (List.mem_of_getElem? (i := 16) rfl))) (by decide) (mvT hZ (hw _ (List.mem_of_getElem? (i := 18) rfl))) (mvT hZ (hw _ (List.mem_of_getElem? (i := 17) rfl))) (backOf (W := 1) (rm_ord l Z a0 hw [] a_SUPPORTS (4 : Int32) h0 n0 (hS.2.2.2.2.2.2.2.2.2.2.2.2.2.2.2.2.2.2.2.2.2.2.2.2.2.2.2.2.2.2.1.ext O0.2)) hZ (hw _ (List.mem_of_getElem? (i := 20) rfl)) (hw _ (List.mem_of_getElem? (i := 19) rfl)) (by decide) (by decide)) q2a q2c (g := (mkF m 8 #[.val (.ref a_SUPPORTS), .val (.int (1 : Int32)), .unset] [(.ref a_SUPPORTS), (.ref a__SwitchMap_com_example_demarc_demarc_TransactionAttributeType)])) rfl (by rw [hml]; rfl) (Steps.refl _) (argsL := []) (rest := [(.ref a__SwitchMap_com_example_demarc_demarc_TransactionAttributeType)]) (lenOf pd_0 rfl) rfl (by show 2 * 0 + _ ≤ _; exact Nat.le_of_eq rfl) (hb hby d_prog_19_method_4_8) (fun _ _ => ⟨rfl, e1, (by decide : 0 + 0 ≤ _), (by decide : 0 + 0 ≤ _)⟩)
  dsimp only [Pt.U, Pt.locs, Pt.cells, Pt.slots] at X2 l2 y2 z2 st2 hQ2
  subst l2 y2 z2
  obtain ⟨rfl, N2q, e2⟩ := hQ2
  have N2 := Fr.app N0 N2q
  obtain ⟨c3, Ar3, q3, S3, M3, Hh3, G3⟩ := (id (hS.2.2.2.2.2.2.2.2.2.2.2.2.2.2.2.2.2.2.2.2.2.2.2.2.2.2.2.2.2.2.2.ext O0.2))
  have hin3 : ¬ ((4 : Int32) < 0 ∨ c3.slots.size ≤ ((4 : Int32)).toNatClampNeg) := inb_of S3 ⟨by decide, by decide⟩
  have hat3 : c3.slots[((4 : Int32)).toNatClampNeg]? = some (.int (3 : Int32)) := Hh3.at hin3 rfl
  obtain ⟨T4, X4, e4, st4⟩ := getS2 X2 hx hZ hown (host := "") (Or.inl (hw _ (List.mem_of_getElem? (i := 23) rfl))) Via.refl e2 (hS.2.2.2.2.2.1.ext O0.2) (g := (mkF m 62 #[.val (.ref a_SUPPORTS), .val (.int (1 : Int32)), .unset] [])) rfl (hb hby d_prog_19_method_4_62)
  obtain ⟨fs, hr, hrun, hended, hW, hsame⟩ := X4.leave (v := (some (.ref a_JOIN))) (fun h => by rw [Bd.returns] at h; cases h)
  refine ⟨_, _, pre0 _ ?_, hrun, hended, _, _, rfl, ?_, ⟨_, rfl⟩, hW, hsame.mono (by decide) (by decide)⟩
  · refine XS.iloadN X0.here hx rfl (hb hby d_prog_19_method_4_0) rfl ?_
    show Steps p.tables e below (s₁.setTop (mkF m 1 #[.val (.ref a_SUPPORTS), .val (.int (1 : Int32)), .unset] [(.int (1 : Int32))])) _
    refine XS.ifNo X0.here hx rfl (hb hby d_prog_19_method_4_1) rfl ((if0 _ _).trans (feq (by decide : ¬ ((1 : Int32) = (0 : Int32)))).1) ?_
    show Steps p.tables e below (s₁.setTop (mkF m 4 #[.val (.ref a_SUPPORTS), .val (.int (1 : Int32)), .unset] [])) _
    refine st1 _ ?_
    show Steps p.tables e below (T1.setTop (mkF m 7 #[.val (.ref a_SUPPORTS), .val (.int (1 : Int32)), .unset] [(.ref a__SwitchMap_com_example_demarc_demarc_TransactionAttributeType)])) _
    refine XS.aloadN X1.here hx rfl (hb hby d_prog_19_method_4_7) rfl rfl ?_
    show Steps p.tables e below (T1.setTop (mkF m 8 #[.val (.ref a_SUPPORTS), .val (.int (1 : Int32)), .unset] [(.ref a_SUPPORTS), (.ref a__SwitchMap_com_example_demarc_demarc_TransactionAttributeType)])) _
    refine st2.trans ?_
    show Steps p.tables e below (T2.setTop (mkF m 11 #[.val (.ref a_SUPPORTS), .val (.int (1 : Int32)), .unset] [(.int (4 : Int32)), (.ref a__SwitchMap_com_example_demarc_demarc_TransactionAttributeType)])) _
    refine X2.iaload hx (j := (4 : Int32)) (v := (.int (3 : Int32))) (by rw [e2]; exact Ar3.1) (State.isArrayOf_alike hZ.alike Ar3.2.1) Ar3.2.2 hin3 hat3 (g := (mkF m 11 #[.val (.ref a_SUPPORTS), .val (.int (1 : Int32)), .unset] [(.int (4 : Int32)), (.ref a__SwitchMap_com_example_demarc_demarc_TransactionAttributeType)])) rfl rfl (hb hby d_prog_19_method_4_11) _ ?_
    show Steps p.tables e below (T2.setTop (mkF m 12 #[.val (.ref a_SUPPORTS), .val (.int (1 : Int32)), .unset] [(.int (3 : Int32))])) _
    refine XS.tswIn X2.here hx rfl (pc0 := 12) (pc' := 62) rfl (hb hby d_prog_19_method_4_12) rfl (by decide) (o := 50) rfl (by decide) (by decide) ?_
    show Steps p.tables e below (T2.setTop (mkF m 62 #[.val (.ref a_SUPPORTS), .val (.int (1 : Int32)), .unset] [])) _
    refine st4 _ ?_
    show Steps p.tables e below (T4.setTop (mkF m 65 #[.val (.ref a_SUPPORTS), .val (.int (1 : Int32)), .unset] [(.ref a_JOIN)])) _
    refine XS.goto X4.here hx rfl (pc0 := 65) (pc' := 83) rfl (hb hby d_prog_19_method_4_65) (by decide) (by decide) ?_
    show Steps p.tables e below (T4.setTop (mkF m 83 #[.val (.ref a_SUPPORTS), .val (.int (1 : Int32)), .unset] [(.ref a_JOIN)])) _
    refine XS.astoreN X4.here hx rfl (hb hby d_prog_19_method_4_83) rfl rfl (l' := #[.val (.ref a_SUPPORTS), .val (.int (1 : Int32)), .val (.ref a_JOIN)]) rfl ?_
    show Steps p.tables e below (T4.setTop (mkF m 84 #[.val (.ref a_SUPPORTS), .val (.int (1 : Int32)), .val (.ref a_JOIN)] [])) _
    refine XS.goto X4.here hx rfl (pc0 := 84) (pc' := 158) rfl (hb hby d_prog_19_method_4_84) (by decide) (by decide) ?_
    show Steps p.tables e below (T4.setTop (mkF m 158 #[.val (.ref a_SUPPORTS), .val (.int (1 : Int32)), .val (.ref a_JOIN)] [])) _
    refine XS.aloadN X4.here hx rfl (hb hby d_prog_19_method_4_158) rfl rfl ?_
    show Steps p.tables e below (T4.setTop (mkF m 159 #[.val (.ref a_SUPPORTS), .val (.int (1 : Int32)), .val (.ref a_JOIN)] [(.ref a_JOIN)])) _
    exact retOut X4 hx Bd.returns rfl (Or.inr (Or.inr (Or.inr (Or.inr ⟨rfl, rfl, rfl⟩)))) (hb hby d_prog_19_method_4_159) hr
  · show QR a_JOIN h0 n0 _ T4.heap _
    rw [e4]
    exact ⟨rfl, N2, rfl⟩
set_option maxRecDepth 65536 in
set_option maxHeartbeats 40000000 in
theorem rm_of_SUPPORTS_0 (l : Launch) (Z : State) (a0 : Array Value) (hw : ∀ d ∈ tables_1, d.before a0 Z = true) (ws : List Jvm.Cond) (a_REQUIRED : Addr) (a__SwitchMap_com_example_demarc_demarc_TransactionAttributeType : Addr) (a_JOIN : Addr) (a_NONE : Addr) (a_NEW : Addr) (a_NOT_SUPPORTED : Addr) (a_MANDATORY : Addr) (a_REFUSED : Addr) (a_REQUIRES_NEW : Addr) (a_NEVER : Addr) (a_SUPPORTS : Addr) (k_a__SwitchMap_com_example_demarc_demarc_TransactionAttributeType : ClassId) (hS : SB Z a_REQUIRED a__SwitchMap_com_example_demarc_demarc_TransactionAttributeType a_JOIN a_NONE a_NEW a_NOT_SUPPORTED a_MANDATORY a_REFUSED a_REQUIRES_NEW a_NEVER a_SUPPORTS k_a__SwitchMap_com_example_demarc_demarc_TransactionAttributeType) (h0 : Heap) (n0 : Nat) (O0 : Old Z n0 h0) :
    MetFree l (⟨"com/example/demarc/demarc/Placement", "of", "(Lcom/example/demarc/demarc/TransactionAttributeType;Z)Lcom/example/demarc/demarc/Placement;"⟩ : MethodName) (head1 (Jvm.Cond.code (⟨"com/example/demarc/demarc/Placement", "of", "(Lcom/example/demarc/demarc/TransactionAttributeType;Z)Lcom/example/demarc/demarc/Placement;"⟩ : MethodName) prog_19_method_4_code 3 (some (.object "com/example/demarc/demarc/Placement")) :: ws) ({ frames := 1, cells := 0, slots := 0, locals := 13 } : Room)) (fun a U => a = #[(.ref a_SUPPORTS), (.int (0 : Int32))] ∧ Z.Warmed39 U.vm ∧ U.heap = h0) (fun _ _ _ _ _ => True) (fun _ U o U' => ∃ v L, o = .returned v ∧ QR a_NONE h0 n0 v U'.heap L ∧ FrameEnd U o U' L ({ frames := 1, cells := 0, slots := 0, locals := 13 } : Room).cells ({ frames := 1, cells := 0, slots := 0, locals := 13 } : Room).slots) := by
  refine MetFree.of_bodySF (plainFor_of_name pn_1) hisR ?_
  intro p e s m args below meth c s₁ Bd hml0 hP hK
  obtain ⟨rfl, hZ, hh⟩ := hP
  have hx := Bd.exec
  have hby := Bd.bytes
  have hml : c.maxLocals = 3 := hml0
  have hown : s.vm.findClass "com/example/demarc/demarc/Placement" = some m.cls := findClass_of_methodNamed Bd.named
  have hnm := (name_of_methodNamed Bd.named Bd.method).1
  have X0 : Stand p l e ({ frames := 1, cells := 0, slots := 0, locals := 13 } : Room) s m #[(.ref a_SUPPORTS), (.int (0 : Int32))] below meth c s₁ [] 0 0 := Stand.of_body Bd
  have e0 : s₁.heap = h0 := by rw [← hh, Bd.state]; rfl
  have N0 := Fr.nil n0
  have pre0 : ∀ t, Steps p.tables e below (s₁.setTop (mkF m 0 #[.val (.ref a_SUPPORTS), .val (.int (0 : Int32)), .unset] [])) t → Steps p.tables e below (s₁.setTop (entryFrame m #[(.ref a_SUPPORTS), (.int (0 : Int32))] 3)) t := fun t k => castTop (ef_rm_of_SUPPORTS_0 m (a_SUPPORTS) ((0 : Int32))) k
  obtain ⟨T1, X1, e1, st1⟩ := getS2 X0 hx hZ hown (host := "") (Or.inl (hw _ (List.mem_of_getElem? (i := 11) rfl))) Via.refl e0 (hS.2.2.1.ext O0.2) (g := (mkF m 87 #[.val (.ref a_SUPPORTS), .val (.int (0 : Int32)), .unset] [])) rfl (hb hby d_prog_19_method_4_87)
  obtain ⟨cq2, kq2, q2a, q2b, q2c⟩ := isOf hZ e1 ((hS.2.2.2.2.2.2.2.2.2.2.2.2.2.2.2.2.2.2.2.2.2.2.2.2.2.2.2.2.1.ext O0.2))
  obtain ⟨_, _, ⟨T2, L2, k2, n2⟩, -, X2, ⟨Lc2, hQ2, l2, y2, z2⟩, st2⟩ := X1.virtualBackUp hx (x := (⟨"com/example/demarc/demarc/TransactionAttributeType", "ordinal", "()I"⟩ : MethodName)) (y := (⟨"java/lang/Enum", "ordinal", "()I"⟩ : MethodName)) (owner := "java/lang/Enum") hown (mvT hZ (hw _ (List.mem_of_getElem? (i := 14) rfl))) (mvT hZ (hw _ (List.mem_of_getElem? (i := 15) rfl))) (mvT hZ (hw _ (List.mem_of_getElem? (i := 16) rfl))) (by decide) (mvT hZ (hw _ (List.mem_of_getElem? (i := 18) rfl))) (mvT hZ (hw _ (List.mem_of_getElem? (i := 17) rfl))) (backOf (W := 1) (rm_ord l Z a0 hw [] a_SUPPORTS (4 : Int32) h0 n0 (hS.2.2.2.2.2.2.2.2.2.2.2.2.2.2.2.2.2.2.2.2.2.2.2.2.2.2.2.2.2.2.1.ext O0.2)) hZ (hw _ (List.mem_of_getElem? (i := 20) rfl)) (hw _ (List.mem_of_getElem? (i := 19) rfl)) (by decide) (by decide)) q2a q2c (g := (mkF m 91 #[.val (.ref a_SUPPORTS), .val (.int (0 : Int32)), .unset] [(.ref a_SUPPORTS), (.ref a__SwitchMap_com_example_demarc_demarc_TransactionAttributeType)])) rfl (by rw [hml]; rfl) (Steps.refl _) (argsL := []) (rest := [(.ref a__SwitchMap_com_example_demarc_demarc_TransactionAttributeType)]) (lenOf pd_0 rfl) rfl (by show 2 * 0 + _ ≤ _; exact Nat.le_of_eq rfl) (hb hby d_prog_19_method_4_91) (fun _ _ => ⟨rfl, e1, (by decide : 0 + 0 ≤ _), (by decide : 0 + 0 ≤ _)⟩)
  dsimp only [Pt.U, Pt.locs, Pt.cells, Pt.slots] at X2 l2 y2 z2 st2 hQ2
  subst l2 y2 z2
  obtain ⟨rfl, N2q, e2⟩ := hQ2
  have N2 := Fr.app N0 N2q
  obtain ⟨c3, Ar3, q3, S3, M3, Hh3, G3⟩ := (id (hS.2.2.2.2.2.2.2.2.2.2.2.2.2.2.2.2.2.2.2.2.2.2.2.2.2.2.2.2.2.2.2.ext O0.2))
  have hin3 : ¬ ((4 : Int32) < 0 ∨ c3.slots.size ≤ ((4 : Int32)).toNatClampNeg) := inb_of S3 ⟨by decide, by decide⟩
  have hat3 : c3.slots[((4 : Int32)).toNatClampNeg]? = some (.int (3 : Int32)) := Hh3.at hin3 rfl
  obtain ⟨T4, X4, e4, st4⟩ := getS2 X2 hx hZ hown (host := "") (Or.inl (hw _ (List.mem_of_getElem? (i := 25) rfl))) Via.refl e2 (hS.2.2.2.2.2.2.2.1.ext O0.2) (g := (mkF m 148 #[.val (.ref a_SUPPORTS), .val (.int (0 : Int32)), .unset] [])) rfl (hb hby d_prog_19_method_4_148)
  obtain ⟨fs, hr, hrun, hended, hW, hsame⟩ := X4.leave (v := (some (.ref a_NONE))) (fun h => by rw [Bd.returns] at h; cases h)
  refine ⟨_, _, pre0 _ ?_, hrun, hended, _, _, rfl, ?_, ⟨_, rfl⟩, hW, hsame.mono (by decide) (by decide)⟩
  · refine XS.iloadN X0.here hx rfl (hb hby d_prog_19_method_4_0) rfl ?_
    show Steps p.tables e below (s₁.setTop (mkF m 1 #[.val (.ref a_SUPPORTS), .val (.int (0 : Int32)), .unset] [(.int (0 : Int32))])) _
    refine XS.ifYes X0.here hx rfl (pc0 := 1) (pc' := 87) rfl (hb hby d_prog_19_method_4_1) rfl ((if0 _ _).trans (teq (by decide : (0 : Int32) = (0 : Int32))).1) (by decide) (by decide) ?_
    show Steps p.tables e below (s₁.setTop (mkF m 87 #[.val (.ref a_SUPPORTS), .val (.int (0 : Int32)), .unset] [])) _
    refine st1 _ ?_
    show Steps p.tables e below (T1.setTop (mkF m 90 #[.val (.ref a_SUPPORTS), .val (.int (0 : Int32)), .unset] [(.ref a__SwitchMap_com_example_demarc_demarc_TransactionAttributeType)])) _
    refine XS.aloadN X1.here hx rfl (hb hby d_prog_19_method_4_90) rfl rfl ?_
    show Steps p.tables e below (T1.setTop (mkF m 91 #[.val (.ref a_SUPPORTS), .val (.int (0 : Int32)), .unset] [(.ref a_SUPPORTS), (.ref a__SwitchMap_com_example_demarc_demarc_TransactionAttributeType)])) _
    refine st2.trans ?_
    show Steps p.tables e below (T2.setTop (mkF m 94 #[.val (.ref a_SUPPORTS), .val (.int (0 : Int32)), .unset] [(.int (4 : Int32)), (.ref a__SwitchMap_com_example_demarc_demarc_TransactionAttributeType)])) _
    refine X2.iaload hx (j := (4 : Int32)) (v := (.int (3 : Int32))) (by rw [e2]; exact Ar3.1) (State.isArrayOf_alike hZ.alike Ar3.2.1) Ar3.2.2 hin3 hat3 (g := (mkF m 94 #[.val (.ref a_SUPPORTS), .val (.int (0 : Int32)), .unset] [(.int (4 : Int32)), (.ref a__SwitchMap_com_example_demarc_demarc_TransactionAttributeType)])) rfl rfl (hb hby d_prog_19_method_4_94) _ ?_
    show Steps p.tables e below (T2.setTop (mkF m 95 #[.val (.ref a_SUPPORTS), .val (.int (0 : Int32)), .unset] [(.int (3 : Int32))])) _
    refine XS.tswIn X2.here hx rfl (pc0 := 95) (pc' := 148) rfl (hb hby d_prog_19_method_4_95) rfl (by decide) (o := 53) rfl (by decide) (by decide) ?_
    show Steps p.tables e below (T2.setTop (mkF m 148 #[.val (.ref a_SUPPORTS), .val (.int (0 : Int32)), .unset] [])) _
    refine st4 _ ?_
    show Steps p.tables e below (T4.setTop (mkF m 151 #[.val (.ref a_SUPPORTS), .val (.int (0 : Int32)), .unset] [(.ref a_NONE)])) _
    refine XS.goto X4.here hx rfl (pc0 := 151) (pc' := 157) rfl (hb hby d_prog_19_method_4_151) (by decide) (by decide) ?_
    show Steps p.tables e below (T4.setTop (mkF m 157 #[.val (.ref a_SUPPORTS), .val (.int (0 : Int32)), .unset] [(.ref a_NONE)])) _
    refine XS.astoreN X4.here hx rfl (hb hby d_prog_19_method_4_157) rfl rfl (l' := #[.val (.ref a_SUPPORTS), .val (.int (0 : Int32)), .val (.ref a_NONE)]) rfl ?_
    show Steps p.tables e below (T4.setTop (mkF m 158 #[.val (.ref a_SUPPORTS), .val (.int (0 : Int32)), .val (.ref a_NONE)] [])) _
    refine XS.aloadN X4.here hx rfl (hb hby d_prog_19_method_4_158) rfl rfl ?_
    show Steps p.tables e below (T4.setTop (mkF m 159 #[.val (.ref a_SUPPORTS), .val (.int (0 : Int32)), .val (.ref a_NONE)] [(.ref a_NONE)])) _
    exact retOut X4 hx Bd.returns rfl (Or.inr (Or.inr (Or.inr (Or.inr ⟨rfl, rfl, rfl⟩)))) (hb hby d_prog_19_method_4_159) hr
  · show QR a_NONE h0 n0 _ T4.heap _
    rw [e4]
    exact ⟨rfl, N2, rfl⟩
set_option maxRecDepth 65536 in
set_option maxHeartbeats 40000000 in
theorem rm_alw_REQUIRED (l : Launch) (Z : State) (a0 : Array Value) (hw : ∀ d ∈ tables_1, d.before a0 Z = true) (ws : List Jvm.Cond) (a_REQUIRED : Addr) (a__SwitchMap_com_example_demarc_demarc_TransactionAttributeType : Addr) (a_JOIN : Addr) (a_NONE : Addr) (a_NEW : Addr) (a_NOT_SUPPORTED : Addr) (a_MANDATORY : Addr) (a_REFUSED : Addr) (a_REQUIRES_NEW : Addr) (a_NEVER : Addr) (a_SUPPORTS : Addr) (k_a__SwitchMap_com_example_demarc_demarc_TransactionAttributeType : ClassId) (hS : SB Z a_REQUIRED a__SwitchMap_com_example_demarc_demarc_TransactionAttributeType a_JOIN a_NONE a_NEW a_NOT_SUPPORTED a_MANDATORY a_REFUSED a_REQUIRES_NEW a_NEVER a_SUPPORTS k_a__SwitchMap_com_example_demarc_demarc_TransactionAttributeType) (h0 : Heap) (n0 : Nat) (O0 : Old Z n0 h0) :
    MetFree l (⟨"com/example/demarc/demarc/Placement", "alwaysInTransaction", "(Lcom/example/demarc/demarc/TransactionAttributeType;)Z"⟩ : MethodName) (head1 (Jvm.Cond.code (⟨"com/example/demarc/demarc/Placement", "alwaysInTransaction", "(Lcom/example/demarc/demarc/TransactionAttributeType;)Z"⟩ : MethodName) prog_19_method_5_code 1 (some .boolean) :: ws) ({ frames := 2, cells := 0, slots := 0, locals := 27 } : Room)) (fun a U => a = #[(.ref a_REQUIRED)] ∧ Z.Warmed39 U.vm ∧ U.heap = h0) (fun _ _ _ _ _ => True) (fun _ U o U' => ∃ v L, o = .returned v ∧ QI (1 : Int32) h0 n0 v U'.heap L ∧ FrameEnd U o U' L ({ frames := 2, cells := 0, slots := 0, locals := 27 } : Room).cells ({ frames := 2, cells := 0, slots := 0, locals := 27 } : Room).slots) := by
  refine MetFree.of_bodySF (plainFor_of_name pn_1) hisR ?_
  intro p e s m args below meth c s₁ Bd hml0 hP hK
  obtain ⟨rfl, hZ, hh⟩ := hP
  have hx := Bd.exec
  have hby := Bd.bytes
  have hml : c.maxLocals = 1 := hml0
  have hown : s.vm.findClass "com/example/demarc/demarc/Placement" = some m.cls := findClass_of_methodNamed Bd.named
  have hnm := (name_of_methodNamed Bd.named Bd.method).1
  have X0 : Stand p l e ({ frames := 2, cells := 0, slots := 0, locals := 27 } : Room) s m #[(.ref a_REQUIRED)] below meth c s₁ [] 0 0 := Stand.of_body Bd
  have e0 : s₁.heap = h0 := by rw [← hh, Bd.state]; rfl
  have N0 := Fr.nil n0
  have pre0 : ∀ t, Steps p.tables e below (s₁.setTop (mkF m 0 #[.val (.ref a_REQUIRED)] [])) t → Steps p.tables e below (s₁.setTop (entryFrame m #[(.ref a_REQUIRED)] 1)) t := fun t k => castTop (ef_rm_alw_REQUIRED m (a_REQUIRED)) k
  obtain ⟨_, _, ⟨T1, L1, k1, n1⟩, -, X1, ⟨Lc1, hQ1, l1, y1, z1⟩, st1⟩ := Jvm.LawKit.callS X0 hx (y := (⟨"com/example/demarc/demarc/Placement", "of", "(Lcom/example/demarc/demarc/TransactionAttributeType;Z)Lcom/example/demarc/demarc/Placement;"⟩ : MethodName)) hown (mvT hZ (hw _ (List.mem_of_getElem? (i := 8) rfl))) (mvT hZ (hw _ (List.mem_of_getElem? (i := 9) rfl))) (mvT hZ (hw _ (List.mem_of_getElem? (i := 6) rfl))) (mvT hZ (hw _ (List.mem_of_getElem? (i := 10) rfl))) (by decide) (backOf (W := 0) (rm_of_REQUIRED_1 l Z a0 hw [] a_REQUIRED a__SwitchMap_com_example_demarc_demarc_TransactionAttributeType a_JOIN a_NONE a_NEW a_NOT_SUPPORTED a_MANDATORY a_REFUSED a_REQUIRES_NEW a_NEVER a_SUPPORTS k_a__SwitchMap_com_example_demarc_demarc_TransactionAttributeType hS h0 n0 O0) hZ (hw _ (List.mem_of_getElem? (i := 10) rfl)) (hw _ (List.mem_of_getElem? (i := 6) rfl)) (by decide) (by decide)) (g := (mkF m 2 #[.val (.ref a_REQUIRED)] [(.int (1 : Int32)), (.ref a_REQUIRED)])) rfl (by rw [hml]; rfl) (argsL := [(.ref a_REQUIRED), (.int (1 : Int32))]) (rest := []) (lenOf pd_1 rfl) rfl (by show 2 * 0 + _ ≤ _; exact Nat.le_of_eq rfl) (hb hby d_prog_19_method_5_2) (fun _ _ => ⟨rfl, e0, (by decide : 0 + 0 ≤ _), (by decide : 0 + 0 ≤ _)⟩)
  dsimp only [Pt.U, Pt.locs, Pt.cells, Pt.slots] at X1 l1 y1 z1 st1 hQ1
  subst l1 y1 z1
  obtain ⟨rfl, N1q, e1⟩ := hQ1
  have N1 := Fr.app N0 N1q
  obtain ⟨T2, X2, e2, st2⟩ := getS2 X1 hx hZ hown (host := "") (Or.inl (hw _ (List.mem_of_getElem? (i := 25) rfl))) Via.refl e1 (hS.2.2.2.2.2.2.2.1.ext O0.2) (g := (mkF m 5 #[.val (.ref a_REQUIRED)] [(.ref a_JOIN)])) rfl (hb hby d_prog_19_method_5_5)
  obtain ⟨_, _, ⟨T3, L3, k3, n3⟩, -, X3, ⟨Lc3, hQ3, l3, y3, z3⟩, st3⟩ := Jvm.LawKit.callS X2 hx (y := (⟨"com/example/demarc/demarc/Placement", "of", "(Lcom/example/demarc/demarc/TransactionAttributeType;Z)Lcom/example/demarc/demarc/Placement;"⟩ : MethodName)) hown (mvT hZ (hw _ (List.mem_of_getElem? (i := 8) rfl))) (mvT hZ (hw _ (List.mem_of_getElem? (i := 9) rfl))) (mvT hZ (hw _ (List.mem_of_getElem? (i := 6) rfl))) (mvT hZ (hw _ (List.mem_of_getElem? (i := 10) rfl))) (by decide) (backOf (W := 0) (rm_of_REQUIRED_0 l Z a0 hw [] a_REQUIRED a__SwitchMap_com_example_demarc_demarc_TransactionAttributeType a_JOIN a_NONE a_NEW a_NOT_SUPPORTED a_MANDATORY a_REFUSED a_REQUIRES_NEW a_NEVER a_SUPPORTS k_a__SwitchMap_com_example_demarc_demarc_TransactionAttributeType hS h0 n0 O0) hZ (hw _ (List.mem_of_getElem? (i := 10) rfl)) (hw _ (List.mem_of_getElem? (i := 6) rfl)) (by decide) (by decide)) (g := (mkF m 13 #[.val (.ref a_REQUIRED)] [(.int (0 : Int32)), (.ref a_REQUIRED)])) rfl (by rw [hml]; rfl) (argsL := [(.ref a_REQUIRED), (.int (0 : Int32))]) (rest := []) (lenOf pd_1 rfl) rfl (by show 2 * 0 + _ ≤ _; exact Nat.le_of_eq rfl) (hb hby d_prog_19_method_5_13) (fun _ _ => ⟨rfl, e2, (by decide : 0 + 0 ≤ _), (by decide : 0 + 0 ≤ _)⟩)
  dsimp only [Pt.U, Pt.locs, Pt.cells, Pt.slots] at X3 l3 y3 z3 st3 hQ3
  subst l3 y3 z3
  obtain ⟨rfl, N3q, e3⟩ := hQ3
  have N3 := Fr.app N1 N3q
  obtain ⟨T4, X4, e4, st4⟩ := getS2 X3 hx hZ hown (host := "") (Or.inl (hw _ (List.mem_of_getElem? (i := 25) rfl))) Via.refl e3 (hS.2.2.2.2.2.2.2.1.ext O0.2) (g := (mkF m 16 #[.val (.ref a_REQUIRED)] [(.ref a_NEW)])) rfl (hb hby d_prog_19_method_5_16)
  obtain ⟨fs, hr, hrun, hended, hW, hsame⟩ := X4.leave (v := (some (.int (1 : Int32)))) (fun h => by rw [Bd.returns] at h; cases h)
  refine ⟨_, _, pre0 _ ?_, hrun, hended, _, _, rfl, ?_, ⟨_, rfl⟩, hW, hsame.mono (by decide) (by decide)⟩
  · refine XS.aloadN X0.here hx rfl (hb hby d_prog_19_method_5_0) rfl rfl ?_
    show Steps p.tables e below (s₁.setTop (mkF m 1 #[.val (.ref a_REQUIRED)] [(.ref a_REQUIRED)])) _
    refine XS.iconst X0.here hx rfl (hb hby d_prog_19_method_5_1) ?_
    show Steps p.tables e below (s₁.setTop (mkF m 2 #[.val (.ref a_REQUIRED)] [(.int (1 : Int32)), (.ref a_REQUIRED)])) _
    refine st1 _ ?_
    show Steps p.tables e below (T1.setTop (mkF m 5 #[.val (.ref a_REQUIRED)] [(.ref a_JOIN)])) _
    refine st2 _ ?_
    show Steps p.tables e below (T2.setTop (mkF m 8 #[.val (.ref a_REQUIRED)] [(.ref a_NONE), (.ref a_JOIN)])) _
    refine Jvm.RoadKit.acmp (g := (mkF m 8 #[.val (.ref a_REQUIRED)] [(.ref a_NONE), (.ref a_JOIN)])) X2 hx rfl rfl rfl (pc0 := 8) (pc' := 11) (same := false) rfl (hb hby d_prog_19_method_5_8) rfl (decide_eq_false fun q => (Fld.ne hS.2.2.2.2.2.2.2.2.1 hS.2.2.2.2.2.2.2.2.2.1 (fun q => absurd (Value.int.inj q) (by decide))) (Value.ref.inj q)) (by decide) (by decide) ?_
    show Steps p.tables e below (T2.setTop (mkF m 11 #[.val (.ref a_REQUIRED)] [])) _
    refine XS.aloadN X2.here hx rfl (hb hby d_prog_19_method_5_11) rfl rfl ?_
    show Steps p.tables e below (T2.setTop (mkF m 12 #[.val (.ref a_REQUIRED)] [(.ref a_REQUIRED)])) _
    refine XS.iconst X2.here hx rfl (hb hby d_prog_19_method_5_12) ?_
    show Steps p.tables e below (T2.setTop (mkF m 13 #[.val (.ref a_REQUIRED)] [(.int (0 : Int32)), (.ref a_REQUIRED)])) _
    refine st3 _ ?_
    show Steps p.tables e below (T3.setTop (mkF m 16 #[.val (.ref a_REQUIRED)] [(.ref a_NEW)])) _
    refine st4 _ ?_
    show Steps p.tables e below (T4.setTop (mkF m 19 #[.val (.ref a_REQUIRED)] [(.ref a_NONE), (.ref a_NEW)])) _
    refine Jvm.RoadKit.acmp (g := (mkF m 19 #[.val (.ref a_REQUIRED)] [(.ref a_NONE), (.ref a_NEW)])) X4 hx rfl rfl rfl (pc0 := 19) (pc' := 22) (same := false) rfl (hb hby d_prog_19_method_5_19) rfl (decide_eq_false fun q => (Fld.ne hS.2.2.2.2.2.2.2.2.2.2.2.2.1 hS.2.2.2.2.2.2.2.2.2.1 (fun q => absurd (Value.int.inj q) (by decide))) (Value.ref.inj q)) (by decide) (by decide) ?_
    show Steps p.tables e below (T4.setTop (mkF m 22 #[.val (.ref a_REQUIRED)] [])) _
    refine XS.iconst X4.here hx rfl (hb hby d_prog_19_method_5_22) ?_
    show Steps p.tables e below (T4.setTop (mkF m 23 #[.val (.ref a_REQUIRED)] [(.int (1 : Int32))])) _
    refine XS.goto X4.here hx rfl (pc0 := 23) (pc' := 27) rfl (hb hby d_prog_19_method_5_23) (by decide) (by decide) ?_
    show Steps p.tables e below (T4.setTop (mkF m 27 #[.val (.ref a_REQUIRED)] [(.int (1 : Int32))])) _
    exact retN X4 hx (t := .boolean) Bd.returns (by simp) (hb hby d_prog_19_method_5_27) hr
  · show QI (1 : Int32) h0 n0 _ T4.heap _
    rw [e4]
    exact ⟨rfl, N3, rfl⟩
set_option maxRecDepth 65536 in
set_option maxHeartbeats 40000000 in
theorem rm_alw_NOT_SUPPORTED (l : Launch) (Z : State) (a0 : Array Value) (hw : ∀ d ∈ tables_1, d.before a0 Z = true) (ws : List Jvm.Cond) (a_REQUIRED : Addr) (a__SwitchMap_com_example_demarc_demarc_TransactionAttributeType : Addr) (a_JOIN : Addr) (a_NONE : Addr) (a_NEW : Addr) (a_NOT_SUPPORTED : Addr) (a_MANDATORY : Addr) (a_REFUSED : Addr) (a_REQUIRES_NEW : Addr) (a_NEVER : Addr) (a_SUPPORTS : Addr) (k_a__SwitchMap_com_example_demarc_demarc_TransactionAttributeType : ClassId) (hS : SB Z a_REQUIRED a__SwitchMap_com_example_demarc_demarc_TransactionAttributeType a_JOIN a_NONE a_NEW a_NOT_SUPPORTED a_MANDATORY a_REFUSED a_REQUIRES_NEW a_NEVER a_SUPPORTS k_a__SwitchMap_com_example_demarc_demarc_TransactionAttributeType) (h0 : Heap) (n0 : Nat) (O0 : Old Z n0 h0) :
    MetFree l (⟨"com/example/demarc/demarc/Placement", "alwaysInTransaction", "(Lcom/example/demarc/demarc/TransactionAttributeType;)Z"⟩ : MethodName) (head1 (Jvm.Cond.code (⟨"com/example/demarc/demarc/Placement", "alwaysInTransaction", "(Lcom/example/demarc/demarc/TransactionAttributeType;)Z"⟩ : MethodName) prog_19_method_5_code 1 (some .boolean) :: ws) ({ frames := 2, cells := 0, slots := 0, locals := 27 } : Room)) (fun a U => a = #[(.ref a_NOT_SUPPORTED)] ∧ Z.Warmed39 U.vm ∧ U.heap = h0) (fun _ _ _ _ _ => True) (fun _ U o U' => ∃ v L, o = .returned v ∧ QI (0 : Int32) h0 n0 v U'.heap L ∧ FrameEnd U o U' L ({ frames := 2, cells := 0, slots := 0, locals := 27 } : Room).cells ({ frames := 2, cells := 0, slots := 0, locals := 27 } : Room).slots) := by
  refine MetFree.of_bodySF (plainFor_of_name pn_1) hisR ?_
  intro p e s m args below meth c s₁ Bd hml0 hP hK
  obtain ⟨rfl, hZ, hh⟩ := hP
  have hx := Bd.exec
  have hby := Bd.bytes
  have hml : c.maxLocals = 1 := hml0
  have hown : s.vm.findClass "com/example/demarc/demarc/Placement" = some m.cls := findClass_of_methodNamed Bd.named
  have hnm := (name_of_methodNamed Bd.named Bd.method).1
  have X0 : Stand p l e ({ frames := 2, cells := 0, slots := 0, locals := 27 } : Room) s m #[(.ref a_NOT_SUPPORTED)] below meth c s₁ [] 0 0 := Stand.of_body Bd
  have e0 : s₁.heap = h0 := by rw [← hh, Bd.state]; rfl
  have N0 := Fr.nil n0
  have pre0 : ∀ t, Steps p.tables e below (s₁.setTop (mkF m 0 #[.val (.ref a_NOT_SUPPORTED)] [])) t → Steps p.tables e below (s₁.setTop (entryFrame m #[(.ref a_NOT_SUPPORTED)] 1)) t := fun t k => castTop (ef_rm_alw_NOT_SUPPORTED m (a_NOT_SUPPORTED)) k
  obtain ⟨_, _, ⟨T1, L1, k1, n1⟩, -, X1, ⟨Lc1, hQ1, l1, y1, z1⟩, st1⟩ := Jvm.LawKit.callS X0 hx (y := (⟨"com/example/demarc/demarc/Placement", "of", "(Lcom/example/demarc/demarc/TransactionAttributeType;Z)Lcom/example/demarc/demarc/Placement;"⟩ : MethodName)) hown (mvT hZ (hw _ (List.mem_of_getElem? (i := 8) rfl))) (mvT hZ (hw _ (List.mem_of_getElem? (i := 9) rfl))) (mvT hZ (hw _ (List.mem_of_getElem? (i := 6) rfl))) (mvT hZ (hw _ (List.mem_of_getElem? (i := 10) rfl))) (by decide) (backOf (W := 0) (rm_of_NOT_SUPPORTED_1 l Z a0 hw [] a_REQUIRED a__SwitchMap_com_example_demarc_demarc_TransactionAttributeType a_JOIN a_NONE a_NEW a_NOT_SUPPORTED a_MANDATORY a_REFUSED a_REQUIRES_NEW a_NEVER a_SUPPORTS k_a__SwitchMap_com_example_demarc_demarc_TransactionAttributeType hS h0 n0 O0) hZ (hw _ (List.mem_of_getElem? (i := 10) rfl)) (hw _ (List.mem_of_getElem? (i := 6) rfl)) (by decide) (by decide)) (g := (mkF m 2 #[.val (.ref a_NOT_SUPPORTED)] [(.int (1 : Int32)), (.ref a_NOT_SUPPORTED)])) rfl (by rw [hml]; rfl) (argsL := [(.ref a_NOT_SUPPORTED), (.int (1 : Int32))]) (rest := []) (lenOf pd_1 rfl) rfl (by show 2 * 0 + _ ≤ _; exact Nat.le_of_eq rfl) (hb hby d_prog_19_method_5_2) (fun _ _ => ⟨rfl, e0, (by decide : 0 + 0 ≤ _), (by decide : 0 + 0 ≤ _)⟩)
  dsimp only [Pt.U, Pt.locs, Pt.cells, Pt.slots] at X1 l1 y1 z1 st1 hQ1
  subst l1 y1 z1
  obtain ⟨rfl, N1q, e1⟩ := hQ1
  have N1 := Fr.app N0 N1q
  obtain ⟨T2, X2, e2, st2⟩ := getS2 X1 hx hZ hown (host := "") (Or.inl (hw _ (List.mem_of_getElem? (i := 25) rfl))) Via.refl e1 (hS.2.2.2.2.2.2.2.1.ext O0.2) (g := (mkF m 5 #[.val (.ref a_NOT_SUPPORTED)] [(.ref a_NONE)])) rfl (hb hby d_prog_19_method_5_5)
  obtain ⟨fs, hr, hrun, hended, hW, hsame⟩ := X2.leave (v := (some (.int (0 : Int32)))) (fun h => by rw [Bd.returns] at h; cases h)
  refine ⟨_, _, pre0 _ ?_, hrun, hended, _, _, rfl, ?_, ⟨_, rfl⟩, hW, hsame.mono (by decide) (by decide)⟩
  · refine XS.aloadN X0.here hx rfl (hb hby d_prog_19_method_5_0) rfl rfl ?_
    show Steps p.tables e below (s₁.setTop (mkF m 1 #[.val (.ref a_NOT_SUPPORTED)] [(.ref a_NOT_SUPPORTED)])) _
    refine XS.iconst X0.here hx rfl (hb hby d_prog_19_method_5_1) ?_
    show Steps p.tables e below (s₁.setTop (mkF m 2 #[.val (.ref a_NOT_SUPPORTED)] [(.int (1 : Int32)), (.ref a_NOT_SUPPORTED)])) _
    refine st1 _ ?_
    show Steps p.tables e below (T1.setTop (mkF m 5 #[.val (.ref a_NOT_SUPPORTED)] [(.ref a_NONE)])) _
    refine st2 _ ?_
    show Steps p.tables e below (T2.setTop (mkF m 8 #[.val (.ref a_NOT_SUPPORTED)] [(.ref a_NONE), (.ref a_NONE)])) _
    refine Jvm.RoadKit.acmp (g := (mkF m 8 #[.val (.ref a_NOT_SUPPORTED)] [(.ref a_NONE), (.ref a_NONE)])) X2 hx rfl rfl rfl (pc0 := 8) (pc' := 26) (same := true) rfl (hb hby d_prog_19_method_5_8) rfl (decide_eq_true rfl) (by decide) (by decide) ?_
    show Steps p.tables e below (T2.setTop (mkF m 26 #[.val (.ref a_NOT_SUPPORTED)] [])) _
    refine XS.iconst X2.here hx rfl (hb hby d_prog_19_method_5_26) ?_
    show Steps p.tables e below (T2.setTop (mkF m 27 #[.val (.ref a_NOT_SUPPORTED)] [(.int (0 : Int32))])) _
    exact retN X2 hx (t := .boolean) Bd.returns (by simp) (hb hby d_prog_19_method_5_27) hr
  · show QI (0 : Int32) h0 n0 _ T2.heap _
    rw [e2]
    exact ⟨rfl, N1, rfl⟩
set_option maxRecDepth 65536 in
set_option maxHeartbeats 40000000 in
theorem rm_alw_MANDATORY (l : Launch) (Z : State) (a0 : Array Value) (hw : ∀ d ∈ tables_1, d.before a0 Z = true) (ws : List Jvm.Cond) (a_REQUIRED : Addr) (a__SwitchMap_com_example_demarc_demarc_TransactionAttributeType : Addr) (a_JOIN : Addr) (a_NONE : Addr) (a_NEW : Addr) (a_NOT_SUPPORTED : Addr) (a_MANDATORY : Addr) (a_REFUSED : Addr) (a_REQUIRES_NEW : Addr) (a_NEVER : Addr) (a_SUPPORTS : Addr) (k_a__SwitchMap_com_example_demarc_demarc_TransactionAttributeType : ClassId) (hS : SB Z a_REQUIRED a__SwitchMap_com_example_demarc_demarc_TransactionAttributeType a_JOIN a_NONE a_NEW a_NOT_SUPPORTED a_MANDATORY a_REFUSED a_REQUIRES_NEW a_NEVER a_SUPPORTS k_a__SwitchMap_com_example_demarc_demarc_TransactionAttributeType) (h0 : Heap) (n0 : Nat) (O0 : Old Z n0 h0) :
    MetFree l (⟨"com/example/demarc/demarc/Placement", "alwaysInTransaction", "(Lcom/example/demarc/demarc/TransactionAttributeType;)Z"⟩ : MethodName) (head1 (Jvm.Cond.code (⟨"com/example/demarc/demarc/Placement", "alwaysInTransaction", "(Lcom/example/demarc/demarc/TransactionAttributeType;)Z"⟩ : MethodName) prog_19_method_5_code 1 (some .boolean) :: ws) ({ frames := 2, cells := 0, slots := 0, locals := 27 } : Room)) (fun a U => a = #[(.ref a_MANDATORY)] ∧ Z.Warmed39 U.vm ∧ U.heap = h0) (fun _ _ _ _ _ => True) (fun _ U o U' => ∃ v L, o = .returned v ∧ QI (1 : Int32) h0 n0 v U'.heap L ∧ FrameEnd U o U' L ({ frames := 2, cells := 0, slots := 0, locals := 27 } : Room).cells ({ frames := 2, cells := 0, slots := 0, locals := 27 } : Room).slots) := by
  refine MetFree.of_bodySF (plainFor_of_name pn_1) hisR ?_
  intro p e s m args below meth c s₁ Bd hml0 hP hK
  obtain ⟨rfl, hZ, hh⟩ := hP
  have hx := Bd.exec
  have hby := Bd.bytes
  have hml : c.maxLocals = 1 := hml0
  have hown : s.vm.findClass "com/example/demarc/demarc/Placement" = some m.cls := findClass_of_methodNamed Bd.named
  have hnm := (name_of_methodNamed Bd.named Bd.method).1
  have X0 : Stand p l e ({ frames := 2, cells := 0, slots := 0, locals := 27 } : Room) s m #[(.ref a_MANDATORY)] below meth c s₁ [] 0 0 := Stand.of_body Bd
  have e0 : s₁.heap = h0 := by rw [← hh, Bd.state]; rfl
  have N0 := Fr.nil n0
  have pre0 : ∀ t, Steps p.tables e below (s₁.setTop (mkF m 0 #[.val (.ref a_MANDATORY)] [])) t → Steps p.tables e below (s₁.setTop (entryFrame m #[(.ref a_MANDATORY)] 1)) t := fun t k => castTop (ef_rm_alw_MANDATORY m (a_MANDATORY)) k
  obtain ⟨_, _, ⟨T1, L1, k1, n1⟩, -, X1, ⟨Lc1, hQ1, l1, y1, z1⟩, st1⟩ := Jvm.LawKit.callS X0 hx (y := (⟨"com/example/demarc/demarc/Placement", "of", "(Lcom/example/demarc/demarc/TransactionAttributeType;Z)Lcom/example/demarc/demarc/Placement;"⟩ : MethodName)) hown (mvT hZ (hw _ (List.mem_of_getElem? (i := 8) rfl))) (mvT hZ (hw _ (List.mem_of_getElem? (i := 9) rfl))) (mvT hZ (hw _ (List.mem_of_getElem? (i := 6) rfl))) (mvT hZ (hw _ (List.mem_of_getElem? (i := 10) rfl))) (by decide) (backOf (W := 0) (rm_of_MANDATORY_1 l Z a0 hw [] a_REQUIRED a__SwitchMap_com_example_demarc_demarc_TransactionAttributeType a_JOIN a_NONE a_NEW a_NOT_SUPPORTED a_MANDATORY a_REFUSED a_REQUIRES_NEW a_NEVER a_SUPPORTS k_a__SwitchMap_com_example_demarc_demarc_TransactionAttributeType hS h0 n0 O0) hZ (hw _ (List.mem_of_getElem? (i := 10) rfl)) (hw _ (List.mem_of_getElem? (i := 6) rfl)) (by decide) (by decide)) (g := (mkF m 2 #[.val (.ref a_MANDATORY)] [(.int (1 : Int32)), (.ref a_MANDATORY)])) rfl (by rw [hml]; rfl) (argsL := [(.ref a_MANDATORY), (.int (1 : Int32))]) (rest := []) (lenOf pd_1 rfl) rfl (by show 2 * 0 + _ ≤ _; exact Nat.le_of_eq rfl) (hb hby d_prog_19_method_5_2) (fun _ _ => ⟨rfl, e0, (by decide : 0 + 0 ≤ _), (by decide : 0 + 0 ≤ _)⟩)
  dsimp only [Pt.U, Pt.locs, Pt.cells, Pt.slots] at X1 l1 y1 z1 st1 hQ1
  subst l1 y1 z1
  obtain ⟨rfl, N1q, e1⟩ := hQ1
  have N1 := Fr.app N0 N1q
  obtain ⟨T2, X2, e2, st2⟩ := getS2 X1 hx hZ hown (host := "") (Or.inl (hw _ (List.mem_of_getElem? (i := 25) rfl))) Via.refl e1 (hS.2.2.2.2.2.2.2.1.ext O0.2) (g := (mkF m 5 #[.val (.ref a_MANDATORY)] [(.ref a_JOIN)])) rfl (hb hby d_prog_19_method_5_5)
  obtain ⟨_, _, ⟨T3, L3, k3, n3⟩, -, X3, ⟨Lc3, hQ3, l3, y3, z3⟩, st3⟩ := Jvm.LawKit.callS X2 hx (y := (⟨"com/example/demarc/demarc/Placement", "of", "(Lcom/example/demarc/demarc/TransactionAttributeType;Z)Lcom/example/demarc/demarc/Placement;"⟩ : MethodName)) hown (mvT hZ (hw _ (List.mem_of_getElem? (i := 8) rfl))) (mvT hZ (hw _ (List.mem_of_getElem? (i := 9) rfl))) (mvT hZ (hw _ (List.mem_of_getElem? (i := 6) rfl))) (mvT hZ (hw _ (List.mem_of_getElem? (i := 10) rfl))) (by decide) (backOf (W := 0) (rm_of_MANDATORY_0 l Z a0 hw [] a_REQUIRED a__SwitchMap_com_example_demarc_demarc_TransactionAttributeType a_JOIN a_NONE a_NEW a_NOT_SUPPORTED a_MANDATORY a_REFUSED a_REQUIRES_NEW a_NEVER a_SUPPORTS k_a__SwitchMap_com_example_demarc_demarc_TransactionAttributeType hS h0 n0 O0) hZ (hw _ (List.mem_of_getElem? (i := 10) rfl)) (hw _ (List.mem_of_getElem? (i := 6) rfl)) (by decide) (by decide)) (g := (mkF m 13 #[.val (.ref a_MANDATORY)] [(.int (0 : Int32)), (.ref a_MANDATORY)])) rfl (by rw [hml]; rfl) (argsL := [(.ref a_MANDATORY), (.int (0 : Int32))]) (rest := []) (lenOf pd_1 rfl) rfl (by show 2 * 0 + _ ≤ _; exact Nat.le_of_eq rfl) (hb hby d_prog_19_method_5_13) (fun _ _ => ⟨rfl, e2, (by decide : 0 + 0 ≤ _), (by decide : 0 + 0 ≤ _)⟩)
  dsimp only [Pt.U, Pt.locs, Pt.cells, Pt.slots] at X3 l3 y3 z3 st3 hQ3
  subst l3 y3 z3
  obtain ⟨rfl, N3q, e3⟩ := hQ3
  have N3 := Fr.app N1 N3q
  obtain ⟨T4, X4, e4, st4⟩ := getS2 X3 hx hZ hown (host := "") (Or.inl (hw _ (List.mem_of_getElem? (i := 25) rfl))) Via.refl e3 (hS.2.2.2.2.2.2.2.1.ext O0.2) (g := (mkF m 16 #[.val (.ref a_MANDATORY)] [(.ref a_REFUSED)])) rfl (hb hby d_prog_19_method_5_16)
  obtain ⟨fs, hr, hrun, hended, hW, hsame⟩ := X4.leave (v := (some (.int (1 : Int32)))) (fun h => by rw [Bd.returns] at h; cases h)
  refine ⟨_, _, pre0 _ ?_, hrun, hended, _, _, rfl, ?_, ⟨_, rfl⟩, hW, hsame.mono (by decide) (by decide)⟩
  · refine XS.aloadN X0.here hx rfl (hb hby d_prog_19_method_5_0) rfl rfl ?_
    show Steps p.tables e below (s₁.setTop (mkF m 1 #[.val (.ref a_MANDATORY)] [(.ref a_MANDATORY)])) _
    refine XS.iconst X0.here hx rfl (hb hby d_prog_19_method_5_1) ?_
    show Steps p.tables e below (s₁.setTop (mkF m 2 #[.val (.ref a_MANDATORY)] [(.int (1 : Int32)), (.ref a_MANDATORY)])) _
    refine st1 _ ?_
    show Steps p.tables e below (T1.setTop (mkF m 5 #[.val (.ref a_MANDATORY)] [(.ref a_JOIN)])) _
    refine st2 _ ?_
    show Steps p.tables e below (T2.setTop (mkF m 8 #[.val (.ref a_MANDATORY)] [(.ref a_NONE), (.ref a_JOIN)])) _
    refine Jvm.RoadKit.acmp (g := (mkF m 8 #[.val (.ref a_MANDATORY)] [(.ref a_NONE), (.ref a_JOIN)])) X2 hx rfl rfl rfl (pc0 := 8) (pc' := 11) (same := false) rfl (hb hby d_prog_19_method_5_8) rfl (decide_eq_false fun q => (Fld.ne hS.2.2.2.2.2.2.2.2.1 hS.2.2.2.2.2.2.2.2.2.1 (fun q => absurd (Value.int.inj q) (by decide))) (Value.ref.inj q)) (by decide) (by decide) ?_
    show Steps p.tables e below (T2.setTop (mkF m 11 #[.val (.ref a_MANDATORY)] [])) _
    refine XS.aloadN X2.here hx rfl (hb hby d_prog_19_method_5_11) rfl rfl ?_
    show Steps p.tables e below (T2.setTop (mkF m 12 #[.val (.ref a_MANDATORY)] [(.ref a_MANDATORY)])) _
    refine XS.iconst X2.here hx rfl (hb hby d_prog_19_method_5_12) ?_
    show Steps p.tables e below (T2.setTop (mkF m 13 #[.val (.ref a_MANDATORY)] [(.int (0 : Int32)), (.ref a_MANDATORY)])) _
    refine st3 _ ?_
    show Steps p.tables e below (T3.setTop (mkF m 16 #[.val (.ref a_MANDATORY)] [(.ref a_REFUSED)])) _
    refine st4 _ ?_
    show Steps p.tables e below (T4.setTop (mkF m 19 #[.val (.ref a_MANDATORY)] [(.ref a_NONE), (.ref a_REFUSED)])) _
    refine Jvm.RoadKit.acmp (g := (mkF m 19 #[.val (.ref a_MANDATORY)] [(.ref a_NONE), (.ref a_REFUSED)])) X4 hx rfl rfl rfl (pc0 := 19) (pc' := 22) (same := false) rfl (hb hby d_prog_19_method_5_19) rfl (decide_eq_false fun q => (Fld.ne hS.2.2.2.2.2.2.2.2.2.2.2.2.2.2.2.2.2.2.2.2.2.1 hS.2.2.2.2.2.2.2.2.2.1 (fun q => absurd (Value.int.inj q) (by decide))) (Value.ref.inj q)) (by decide) (by decide) ?_
    show Steps p.tables e below (T4.setTop (mkF m 22 #[.val (.ref a_MANDATORY)] [])) _
    refine XS.iconst X4.here hx rfl (hb hby d_prog_19_method_5_22) ?_
    show Steps p.tables e below (T4.setTop (mkF m 23 #[.val (.ref a_MANDATORY)] [(.int (1 : Int32))])) _
    refine XS.goto X4.here hx rfl (pc0 := 23) (pc' := 27) rfl (hb hby d_prog_19_method_5_23) (by decide) (by decide) ?_
    show Steps p.tables e below (T4.setTop (mkF m 27 #[.val (.ref a_MANDATORY)] [(.int (1 : Int32))])) _
    exact retN X4 hx (t := .boolean) Bd.returns (by simp) (hb hby d_prog_19_method_5_27) hr
  · show QI (1 : Int32) h0 n0 _ T4.heap _
    rw [e4]
    exact ⟨rfl, N3, rfl⟩
set_option maxRecDepth 65536 in
set_option maxHeartbeats 40000000 in
theorem rm_alw_REQUIRES_NEW (l : Launch) (Z : State) (a0 : Array Value) (hw : ∀ d ∈ tables_1, d.before a0 Z = true) (ws : List Jvm.Cond) (a_REQUIRED : Addr) (a__SwitchMap_com_example_demarc_demarc_TransactionAttributeType : Addr) (a_JOIN : Addr) (a_NONE : Addr) (a_NEW : Addr) (a_NOT_SUPPORTED : Addr) (a_MANDATORY : Addr) (a_REFUSED : Addr) (a_REQUIRES_NEW : Addr) (a_NEVER : Addr) (a_SUPPORTS : Addr) (k_a__SwitchMap_com_example_demarc_demarc_TransactionAttributeType : ClassId) (hS : SB Z a_REQUIRED a__SwitchMap_com_example_demarc_demarc_TransactionAttributeType a_JOIN a_NONE a_NEW a_NOT_SUPPORTED a_MANDATORY a_REFUSED a_REQUIRES_NEW a_NEVER a_SUPPORTS k_a__SwitchMap_com_example_demarc_demarc_TransactionAttributeType) (h0 : Heap) (n0 : Nat) (O0 : Old Z n0 h0) :
    MetFree l (⟨"com/example/demarc/demarc/Placement", "alwaysInTransaction", "(Lcom/example/demarc/demarc/TransactionAttributeType;)Z"⟩ : MethodName) (head1 (Jvm.Cond.code (⟨"com/example/demarc/demarc/Placement", "alwaysInTransaction", "(Lcom/example/demarc/demarc/TransactionAttributeType;)Z"⟩ : MethodName) prog_19_method_5_code 1 (some .boolean) :: ws) ({ frames := 2, cells := 0, slots := 0, locals := 27 } : Room)) (fun a U => a = #[(.ref a_REQUIRES_NEW)] ∧ Z.Warmed39 U.vm ∧ U.heap = h0) (fun _ _ _ _ _ => True) (fun _ U o U' => ∃ v L, o = .returned v ∧ QI (1 : Int32) h0 n0 v U'.heap L ∧ FrameEnd U o U' L ({ frames := 2, cells := 0, slots := 0, locals := 27 } : Room).cells ({ frames := 2, cells := 0, slots := 0, locals := 27 } : Room).slots) := by
  refine MetFree.of_bodySF (plainFor_of_name pn_1) hisR ?_
  intro p e s m args below meth c s₁ Bd hml0 hP hK
  obtain ⟨rfl, hZ, hh⟩ := hP
  have hx := Bd.exec
  have hby := Bd.bytes
  have hml : c.maxLocals = 1 := hml0
  have hown : s.vm.findClass "com/example/demarc/demarc/Placement" = some m.cls := findClass_of_methodNamed Bd.named
  have hnm := (name_of_methodNamed Bd.named Bd.method).1
  have X0 : Stand p l e ({ frames := 2, cells := 0, slots := 0, locals := 27 } : Room) s m #[(.ref a_REQUIRES_NEW)] below meth c s₁ [] 0 0 := Stand.of_body Bd
  have e0 : s₁.heap = h0 := by rw [← hh, Bd.state]; rfl
  have N0 := Fr.nil n0
  have pre0 : ∀ t, Steps p.tables e below (s₁.setTop (mkF m 0 #[.val (.ref a_REQUIRES_NEW)] [])) t → Steps p.tables e below (s₁.setTop (entryFrame m #[(.ref a_REQUIRES_NEW)] 1)) t := fun t k => castTop (ef_rm_alw_REQUIRES_NEW m (a_REQUIRES_NEW)) k
  obtain ⟨_, _, ⟨T1, L1, k1, n1⟩, -, X1, ⟨Lc1, hQ1, l1, y1, z1⟩, st1⟩ := Jvm.LawKit.callS X0 hx (y := (⟨"com/example/demarc/demarc/Placement", "of", "(Lcom/example/demarc/demarc/TransactionAttributeType;Z)Lcom/example/demarc/demarc/Placement;"⟩ : MethodName)) hown (mvT hZ (hw _ (List.mem_of_getElem? (i := 8) rfl))) (mvT hZ (hw _ (List.mem_of_getElem? (i := 9) rfl))) (mvT hZ (hw _ (List.mem_of_getElem? (i := 6) rfl))) (mvT hZ (hw _ (List.mem_of_getElem? (i := 10) rfl))) (by decide) (backOf (W := 0) (rm_of_REQUIRES_NEW_1 l Z a0 hw [] a_REQUIRED a__SwitchMap_com_example_demarc_demarc_TransactionAttributeType a_JOIN a_NONE a_NEW a_NOT_SUPPORTED a_MANDATORY a_REFUSED a_REQUIRES_NEW a_NEVER a_SUPPORTS k_a__SwitchMap_com_example_demarc_demarc_TransactionAttributeType hS h0 n0 O0) hZ (hw _ (List.mem_of_getElem? (i := 10) rfl)) (hw _ (List.mem_of_getElem? (i := 6) rfl)) (by decide) (by decide)) (g := (mkF m 2 #[.val (.ref a_REQUIRES_NEW)] [(.int (1 : Int32)), (.ref a_REQUIRES_NEW)])) rfl (by rw [hml]; rfl) (argsL := [(.ref a_REQUIRES_NEW), (.int (1 : Int32))]) (rest := []) (lenOf pd_1 rfl) rfl (by show 2 * 0 + _ ≤ _; exact Nat.le_of_eq rfl) (hb hby d_prog_19_method_5_2) (fun _ _ => ⟨rfl, e0, (by decide : 0 + 0 ≤ _), (by decide : 0 + 0 ≤ _)⟩)
  dsimp only [Pt.U, Pt.locs, Pt.cells, Pt.slots] at X1 l1 y1 z1 st1 hQ1
  subst l1 y1 z1
  obtain ⟨rfl, N1q, e1⟩ := hQ1
  have N1 := Fr.app N0 N1q
  obtain ⟨T2, X2, e2, st2⟩ := getS2 X1 hx hZ hown (host := "") (Or.inl (hw _ (List.mem_of_getElem? (i := 25) rfl))) Via.refl e1 (hS.2.2.2.2.2.2.2.1.ext O0.2) (g := (mkF m 5 #[.val (.ref a_REQUIRES_NEW)] [(.ref a_NEW)])) rfl (hb hby d_prog_19_method_5_5)
  obtain ⟨_, _, ⟨T3, L3, k3, n3⟩, -, X3, ⟨Lc3, hQ3, l3, y3, z3⟩, st3⟩ := Jvm.LawKit.callS X2 hx (y := (⟨"com/example/demarc/demarc/Placement", "of", "(Lcom/example/demarc/demarc/TransactionAttributeType;Z)Lcom/example/demarc/demarc/Placement;"⟩ : MethodName)) hown (mvT hZ (hw _ (List.mem_of_getElem? (i := 8) rfl))) (mvT hZ (hw _ (List.mem_of_getElem? (i := 9) rfl))) (mvT hZ (hw _ (List.mem_of_getElem? (i := 6) rfl))) (mvT hZ (hw _ (List.mem_of_getElem? (i := 10) rfl))) (by decide) (backOf (W := 0) (rm_of_REQUIRES_NEW_0 l Z a0 hw [] a_REQUIRED a__SwitchMap_com_example_demarc_demarc_TransactionAttributeType a_JOIN a_NONE a_NEW a_NOT_SUPPORTED a_MANDATORY a_REFUSED a_REQUIRES_NEW a_NEVER a_SUPPORTS k_a__SwitchMap_com_example_demarc_demarc_TransactionAttributeType hS h0 n0 O0) hZ (hw _ (List.mem_of_getElem? (i := 10) rfl)) (hw _ (List.mem_of_getElem? (i := 6) rfl)) (by decide) (by decide)) (g := (mkF m 13 #[.val (.ref a_REQUIRES_NEW)] [(.int (0 : Int32)), (.ref a_REQUIRES_NEW)])) rfl (by rw [hml]; rfl) (argsL := [(.ref a_REQUIRES_NEW), (.int (0 : Int32))]) (rest := []) (lenOf pd_1 rfl) rfl (by show 2 * 0 + _ ≤ _; exact Nat.le_of_eq rfl) (hb hby d_prog_19_method_5_13) (fun _ _ => ⟨rfl, e2, (by decide : 0 + 0 ≤ _), (by decide : 0 + 0 ≤ _)⟩)
  dsimp only [Pt.U, Pt.locs, Pt.cells, Pt.slots] at X3 l3 y3 z3 st3 hQ3
  subst l3 y3 z3
  obtain ⟨rfl, N3q, e3⟩ := hQ3
  have N3 := Fr.app N1 N3q
  obtain ⟨T4, X4, e4, st4⟩ := getS2 X3 hx hZ hown (host := "") (Or.inl (hw _ (List.mem_of_getElem? (i := 25) rfl))) Via.refl e3 (hS.2.2.2.2.2.2.2.1.ext O0.2) (g := (mkF m 16 #[.val (.ref a_REQUIRES_NEW)] [(.ref a_NEW)])) rfl (hb hby d_prog_19_method_5_16)
  obtain ⟨fs, hr, hrun, hended, hW, hsame⟩ := X4.leave (v := (some (.int (1 : Int32)))) (fun h => by rw [Bd.returns] at h; cases h)
  refine ⟨_, _, pre0 _ ?_, hrun, hended, _, _, rfl, ?_, ⟨_, rfl⟩, hW, hsame.mono (by decide) (by decide)⟩
  · refine XS.aloadN X0.here hx rfl (hb hby d_prog_19_method_5_0) rfl rfl ?_
    show Steps p.tables e below (s₁.setTop (mkF m 1 #[.val (.ref a_REQUIRES_NEW)] [(.ref a_REQUIRES_NEW)])) _
    refine XS.iconst X0.here hx rfl (hb hby d_prog_19_method_5_1) ?_
    show Steps p.tables e below (s₁.setTop (mkF m 2 #[.val (.ref a_REQUIRES_NEW)] [(.int (1 : Int32)), (.ref a_REQUIRES_NEW)])) _
    refine st1 _ ?_
    show Steps p.tables e below (T1.setTop (mkF m 5 #[.val (.ref a_REQUIRES_NEW)] [(.ref a_NEW)])) _
    refine st2 _ ?_
    show Steps p.tables e below (T2.setTop (mkF m 8 #[.val (.ref a_REQUIRES_NEW)] [(.ref a_NONE), (.ref a_NEW)])) _
    refine Jvm.RoadKit.acmp (g := (mkF m 8 #[.val (.ref a_REQUIRES_NEW)] [(.ref a_NONE), (.ref a_NEW)])) X2 hx rfl rfl rfl (pc0 := 8) (pc' := 11) (same := false) rfl (hb hby d_prog_19_method_5_8) rfl (decide_eq_false fun q => (Fld.ne hS.2.2.2.2.2.2.2.2.2.2.2.2.1 hS.2.2.2.2.2.2.2.2.2.1 (fun q => absurd (Value.int.inj q) (by decide))) (Value.ref.inj q)) (by decide) (by decide) ?_
    show Steps p.tables e below (T2.setTop (mkF m 11 #[.val (.ref a_REQUIRES_NEW)] [])) _
    refine XS.aloadN X2.here hx rfl (hb hby d_prog_19_method_5_11) rfl rfl ?_
    show Steps p.tables e below (T2.setTop (mkF m 12 #[.val (.ref a_REQUIRES_NEW)] [(.ref a_REQUIRES_NEW)])) _
    refine XS.iconst X2.here hx rfl (hb hby d_prog_19_method_5_12) ?_
    show Steps p.tables e below (T2.setTop (mkF m 13 #[.val (.ref a_REQUIRES_NEW)] [(.int (0 : Int32)), (.ref a_REQUIRES_NEW)])) _
    refine st3 _ ?_
    show Steps p.tables e below (T3.setTop (mkF m 16 #[.val (.ref a_REQUIRES_NEW)] [(.ref a_NEW)])) _
    refine st4 _ ?_
    show Steps p.tables e below (T4.setTop (mkF m 19 #[.val (.ref a_REQUIRES_NEW)] [(.ref a_NONE), (.ref a_NEW)])) _
    refine Jvm.RoadKit.acmp (g := (mkF m 19 #[.val (.ref a_REQUIRES_NEW)] [(.ref a_NONE), (.ref a_NEW)])) X4 hx rfl rfl rfl (pc0 := 19) (pc' := 22) (same := false) rfl (hb hby d_prog_19_method_5_19) rfl (decide_eq_false fun q => (Fld.ne hS.2.2.2.2.2.2.2.2.2.2.2.2.1 hS.2.2.2.2.2.2.2.2.2.1 (fun q => absurd (Value.int.inj q) (by decide))) (Value.ref.inj q)) (by decide) (by decide) ?_
    show Steps p.tables e below (T4.setTop (mkF m 22 #[.val (.ref a_REQUIRES_NEW)] [])) _
    refine XS.iconst X4.here hx rfl (hb hby d_prog_19_method_5_22) ?_
    show Steps p.tables e below (T4.setTop (mkF m 23 #[.val (.ref a_REQUIRES_NEW)] [(.int (1 : Int32))])) _
    refine XS.goto X4.here hx rfl (pc0 := 23) (pc' := 27) rfl (hb hby d_prog_19_method_5_23) (by decide) (by decide) ?_
    show Steps p.tables e below (T4.setTop (mkF m 27 #[.val (.ref a_REQUIRES_NEW)] [(.int (1 : Int32))])) _
    exact retN X4 hx (t := .boolean) Bd.returns (by simp) (hb hby d_prog_19_method_5_27) hr
  · show QI (1 : Int32) h0 n0 _ T4.heap _
    rw [e4]
    exact ⟨rfl, N3, rfl⟩
set_option maxRecDepth 65536 in
set_option maxHeartbeats 40000000 in
theorem rm_alw_NEVER (l : Launch) (Z : State) (a0 : Array Value) (hw : ∀ d ∈ tables_1, d.before a0 Z = true) (ws : List Jvm.Cond) (a_REQUIRED : Addr) (a__SwitchMap_com_example_demarc_demarc_TransactionAttributeType : Addr) (a_JOIN : Addr) (a_NONE : Addr) (a_NEW : Addr) (a_NOT_SUPPORTED : Addr) (a_MANDATORY : Addr) (a_REFUSED : Addr) (a_REQUIRES_NEW : Addr) (a_NEVER : Addr) (a_SUPPORTS : Addr) (k_a__SwitchMap_com_example_demarc_demarc_TransactionAttributeType : ClassId) (hS : SB Z a_REQUIRED a__SwitchMap_com_example_demarc_demarc_TransactionAttributeType a_JOIN a_NONE a_NEW a_NOT_SUPPORTED a_MANDATORY a_REFUSED a_REQUIRES_NEW a_NEVER a_SUPPORTS k_a__SwitchMap_com_example_demarc_demarc_TransactionAttributeType) (h0 : Heap) (n0 : Nat) (O0 : Old Z n0 h0) :
    MetFree l (⟨"com/example/demarc/demarc/Placement", "alwaysInTransaction", "(Lcom/example/demarc/demarc/TransactionAttributeType;)Z"⟩ : MethodName) (head1 (Jvm.Cond.code (⟨"com/example/demarc/demarc/Placement", "alwaysInTransaction", "(Lcom/example/demarc/demarc/TransactionAttributeType;)Z"⟩ : MethodName) prog_19_method_5_code 1 (some .boolean) :: ws) ({ frames := 2, cells := 0, slots := 0, locals := 27 } : Room)) (fun a U => a = #[(.ref a_NEVER)] ∧ Z.Warmed39 U.vm ∧ U.heap = h0) (fun _ _ _ _ _ => True) (fun _ U o U' => ∃ v L, o = .returned v ∧ QI (0 : Int32) h0 n0 v U'.heap L ∧ FrameEnd U o U' L ({ frames := 2, cells := 0, slots := 0, locals := 27 } : Room).cells ({ frames := 2, cells := 0, slots := 0, locals := 27 } : Room).slots) := by
  refine MetFree.of_bodySF (plainFor_of_name pn_1) hisR ?_
  intro p e s m args below meth c s₁ Bd hml0 hP hK
  obtain ⟨rfl, hZ, hh⟩ := hP
  have hx := Bd.exec
  have hby := Bd.bytes
  have hml : c.maxLocals = 1 := hml0
  have hown : s.vm.findClass "com/example/demarc/demarc/Placement" = some m.cls := findClass_of_methodNamed Bd.named
  have hnm := (name_of_methodNamed Bd.named Bd.method).1
  have X0 : Stand p l e ({ frames := 2, cells := 0, slots := 0, locals := 27 } : Room) s m #[(.ref a_NEVER)] below meth c s₁ [] 0 0 := Stand.of_body Bd
  have e0 : s₁.heap = h0 := by rw [← hh, Bd.state]; rfl
  have N0 := Fr.nil n0
  have pre0 : ∀ t, Steps p.tables e below (s₁.setTop (mkF m 0 #[.val (.ref a_NEVER)] [])) t → Steps p.tables e below (s₁.setTop (entryFrame m #[(.ref a_NEVER)] 1)) t := fun t k => castTop (ef_rm_alw_NEVER m (a_NEVER)) k
  obtain ⟨_, _, ⟨T1, L1, k1, n1⟩, -, X1, ⟨Lc1, hQ1, l1, y1, z1⟩, st1⟩ := Jvm.LawKit.callS X0 hx (y := (⟨"com/example/demarc/demarc/Placement", "of", "(Lcom/example/demarc/demarc/TransactionAttributeType;Z)Lcom/example/demarc/demarc/Placement;"⟩ : MethodName)) hown (mvT hZ (hw _ (List.mem_of_getElem? (i := 8) rfl))) (mvT hZ (hw _ (List.mem_of_getElem? (i := 9) rfl))) (mvT hZ (hw _ (List.mem_of_getElem? (i := 6) rfl))) (mvT hZ (hw _ (List.mem_of_getElem? (i := 10) rfl))) (by decide) (backOf (W := 0) (rm_of_NEVER_1 l Z a0 hw [] a_REQUIRED a__SwitchMap_com_example_demarc_demarc_TransactionAttributeType a_JOIN a_NONE a_NEW a_NOT_SUPPORTED a_MANDATORY a_REFUSED a_REQUIRES_NEW a_NEVER a_SUPPORTS k_a__SwitchMap_com_example_demarc_demarc_TransactionAttributeType hS h0 n0 O0) hZ (hw _ (List.mem_of_getElem? (i := 10) rfl)) (hw _ (List.mem_of_getElem? (i := 6) rfl)) (by decide) (by decide)) (g := (mkF m 2 #[.val (.ref a_NEVER)] [(.int (1 : Int32)), (.ref a_NEVER)])) rfl (by rw [hml]; rfl) (argsL := [(.ref a_NEVER), (.int (1 : Int32))]) (rest := []) (lenOf pd_1 rfl) rfl (by show 2 * 0 + _ ≤ _; exact Nat.le_of_eq rfl) (hb hby d_prog_19_method_5_2) (fun _ _ => ⟨rfl, e0, (by decide : 0 + 0 ≤ _), (by decide : 0 + 0 ≤ _)⟩)
  dsimp only [Pt.U, Pt.locs, Pt.cells, Pt.slots] at X1 l1 y1 z1 st1 hQ1
  subst l1 y1 z1
  obtain ⟨rfl, N1q, e1⟩ := hQ1
  have N1 := Fr.app N0 N1q
  obtain ⟨T2, X2, e2, st2⟩ := getS2 X1 hx hZ hown (host := "") (Or.inl (hw _ (List.mem_of_getElem? (i := 25) rfl))) Via.refl e1 (hS.2.2.2.2.2.2.2.1.ext O0.2) (g := (mkF m 5 #[.val (.ref a_NEVER)] [(.ref a_REFUSED)])) rfl (hb hby d_prog_19_method_5_5)
  obtain ⟨_, _, ⟨T3, L3, k3, n3⟩, -, X3, ⟨Lc3, hQ3, l3, y3, z3⟩, st3⟩ := Jvm.LawKit.callS X2 hx (y := (⟨"com/example/demarc/demarc/Placement", "of", "(Lcom/example/demarc/demarc/TransactionAttributeType;Z)Lcom/example/demarc/demarc/Placement;"⟩ : MethodName)) hown (mvT hZ (hw _ (List.mem_of_getElem? (i := 8) rfl))) (mvT hZ (hw _ (List.mem_of_getElem? (i := 9) rfl))) (mvT hZ (hw _ (List.mem_of_getElem? (i := 6) rfl))) (mvT hZ (hw _ (List.mem_of_getElem? (i := 10) rfl))) (by decide) (backOf (W := 0) (rm_of_NEVER_0 l Z a0 hw [] a_REQUIRED a__SwitchMap_com_example_demarc_demarc_TransactionAttributeType a_JOIN a_NONE a_NEW a_NOT_SUPPORTED a_MANDATORY a_REFUSED a_REQUIRES_NEW a_NEVER a_SUPPORTS k_a__SwitchMap_com_example_demarc_demarc_TransactionAttributeType hS h0 n0 O0) hZ (hw _ (List.mem_of_getElem? (i := 10) rfl)) (hw _ (List.mem_of_getElem? (i := 6) rfl)) (by decide) (by decide)) (g := (mkF m 13 #[.val (.ref a_NEVER)] [(.int (0 : Int32)), (.ref a_NEVER)])) rfl (by rw [hml]; rfl) (argsL := [(.ref a_NEVER), (.int (0 : Int32))]) (rest := []) (lenOf pd_1 rfl) rfl (by show 2 * 0 + _ ≤ _; exact Nat.le_of_eq rfl) (hb hby d_prog_19_method_5_13) (fun _ _ => ⟨rfl, e2, (by decide : 0 + 0 ≤ _), (by decide : 0 + 0 ≤ _)⟩)
  dsimp only [Pt.U, Pt.locs, Pt.cells, Pt.slots] at X3 l3 y3 z3 st3 hQ3
  subst l3 y3 z3
  obtain ⟨rfl, N3q, e3⟩ := hQ3
  have N3 := Fr.app N1 N3q
  obtain ⟨T4, X4, e4, st4⟩ := getS2 X3 hx hZ hown (host := "") (Or.inl (hw _ (List.mem_of_getElem? (i := 25) rfl))) Via.refl e3 (hS.2.2.2.2.2.2.2.1.ext O0.2) (g := (mkF m 16 #[.val (.ref a_NEVER)] [(.ref a_NONE)])) rfl (hb hby d_prog_19_method_5_16)
  obtain ⟨fs, hr, hrun, hended, hW, hsame⟩ := X4.leave (v := (some (.int (0 : Int32)))) (fun h => by rw [Bd.returns] at h; cases h)
  refine ⟨_, _, pre0 _ ?_, hrun, hended, _, _, rfl, ?_, ⟨_, rfl⟩, hW, hsame.mono (by decide) (by decide)⟩
  · refine XS.aloadN X0.here hx rfl (hb hby d_prog_19_method_5_0) rfl rfl ?_
    show Steps p.tables e below (s₁.setTop (mkF m 1 #[.val (.ref a_NEVER)] [(.ref a_NEVER)])) _
    refine XS.iconst X0.here hx rfl (hb hby d_prog_19_method_5_1) ?_
    show Steps p.tables e below (s₁.setTop (mkF m 2 #[.val (.ref a_NEVER)] [(.int (1 : Int32)), (.ref a_NEVER)])) _
    refine st1 _ ?_
    show Steps p.tables e below (T1.setTop (mkF m 5 #[.val (.ref a_NEVER)] [(.ref a_REFUSED)])) _
    refine st2 _ ?_
    show Steps p.tables e below (T2.setTop (mkF m 8 #[.val (.ref a_NEVER)] [(.ref a_NONE), (.ref a_REFUSED)])) _
    refine Jvm.RoadKit.acmp (g := (mkF m 8 #[.val (.ref a_NEVER)] [(.ref a_NONE), (.ref a_REFUSED)])) X2 hx rfl rfl rfl (pc0 := 8) (pc' := 11) (same := false) rfl (hb hby d_prog_19_method_5_8) rfl (decide_eq_false fun q => (Fld.ne hS.2.2.2.2.2.2.2.2.2.2.2.2.2.2.2.2.2.2.2.2.2.1 hS.2.2.2.2.2.2.2.2.2.1 (fun q => absurd (Value.int.inj q) (by decide))) (Value.ref.inj q)) (by decide) (by decide) ?_
    show Steps p.tables e below (T2.setTop (mkF m 11 #[.val (.ref a_NEVER)] [])) _
    refine XS.aloadN X2.here hx rfl (hb hby d_prog_19_method_5_11) rfl rfl ?_
    show Steps p.tables e below (T2.setTop (mkF m 12 #[.val (.ref a_NEVER)] [(.ref a_NEVER)])) _
    refine XS.iconst X2.here hx rfl (hb hby d_prog_19_method_5_12) ?_
    show Steps p.tables e below (T2.setTop (mkF m 13 #[.val (.ref a_NEVER)] [(.int (0 : Int32)), (.ref a_NEVER)])) _
    refine st3 _ ?_
    show Steps p.tables e below (T3.setTop (mkF m 16 #[.val (.ref a_NEVER)] [(.ref a_NONE)])) _
    refine st4 _ ?_
    show Steps p.tables e below (T4.setTop (mkF m 19 #[.val (.ref a_NEVER)] [(.ref a_NONE), (.ref a_NONE)])) _
    refine Jvm.RoadKit.acmp (g := (mkF m 19 #[.val (.ref a_NEVER)] [(.ref a_NONE), (.ref a_NONE)])) X4 hx rfl rfl rfl (pc0 := 19) (pc' := 26) (same := true) rfl (hb hby d_prog_19_method_5_19) rfl (decide_eq_true rfl) (by decide) (by decide) ?_
    show Steps p.tables e below (T4.setTop (mkF m 26 #[.val (.ref a_NEVER)] [])) _
    refine XS.iconst X4.here hx rfl (hb hby d_prog_19_method_5_26) ?_
    show Steps p.tables e below (T4.setTop (mkF m 27 #[.val (.ref a_NEVER)] [(.int (0 : Int32))])) _
    exact retN X4 hx (t := .boolean) Bd.returns (by simp) (hb hby d_prog_19_method_5_27) hr
  · show QI (0 : Int32) h0 n0 _ T4.heap _
    rw [e4]
    exact ⟨rfl, N3, rfl⟩
set_option maxRecDepth 65536 in
set_option maxHeartbeats 40000000 in
theorem rm_alw_SUPPORTS (l : Launch) (Z : State) (a0 : Array Value) (hw : ∀ d ∈ tables_1, d.before a0 Z = true) (ws : List Jvm.Cond) (a_REQUIRED : Addr) (a__SwitchMap_com_example_demarc_demarc_TransactionAttributeType : Addr) (a_JOIN : Addr) (a_NONE : Addr) (a_NEW : Addr) (a_NOT_SUPPORTED : Addr) (a_MANDATORY : Addr) (a_REFUSED : Addr) (a_REQUIRES_NEW : Addr) (a_NEVER : Addr) (a_SUPPORTS : Addr) (k_a__SwitchMap_com_example_demarc_demarc_TransactionAttributeType : ClassId) (hS : SB Z a_REQUIRED a__SwitchMap_com_example_demarc_demarc_TransactionAttributeType a_JOIN a_NONE a_NEW a_NOT_SUPPORTED a_MANDATORY a_REFUSED a_REQUIRES_NEW a_NEVER a_SUPPORTS k_a__SwitchMap_com_example_demarc_demarc_TransactionAttributeType) (h0 : Heap) (n0 : Nat) (O0 : Old Z n0 h0) :
    MetFree l (⟨"com/example/demarc/demarc/Placement", "alwaysInTransaction", "(Lcom/example/demarc/demarc/TransactionAttributeType;)Z"⟩ : MethodName) (head1 (Jvm.Cond.code (⟨"com/example/demarc/demarc/Placement", "alwaysInTransaction", "(Lcom/example/demarc/demarc/TransactionAttributeType;)Z"⟩ : MethodName) prog_19_method_5_code 1 (some .boolean) :: ws) ({ frames := 2, cells := 0, slots := 0, locals := 27 } : Room)) (fun a U => a = #[(.ref a_SUPPORTS)] ∧ Z.Warmed39 U.vm ∧ U.heap = h0) (fun _ _ _ _ _ => True) (fun _ U o U' => ∃ v L, o = .returned v ∧ QI (0 : Int32) h0 n0 v U'.heap L ∧ FrameEnd U o U' L ({ frames := 2, cells := 0, slots := 0, locals := 27 } : Room).cells ({ frames := 2, cells := 0, slots := 0, locals := 27 } : Room).slots) := by
  refine MetFree.of_bodySF (plainFor_of_name pn_1) hisR ?_
  intro p e s m args below meth c s₁ Bd hml0 hP hK
  obtain ⟨rfl, hZ, hh⟩ := hP
  have hx := Bd.exec
  have hby := Bd.bytes
  have hml : c.maxLocals = 1 := hml0
  have hown : s.vm.findClass "com/example/demarc/demarc/Placement" = some m.cls := findClass_of_methodNamed Bd.named
  have hnm := (name_of_methodNamed Bd.named Bd.method).1
  have X0 : Stand p l e ({ frames := 2, cells := 0, slots := 0, locals := 27 } : Room) s m #[(.ref a_SUPPORTS)] below meth c s₁ [] 0 0 := Stand.of_body Bd
  have e0 : s₁.heap = h0 := by rw [← hh, Bd.state]; rfl
  have N0 := Fr.nil n0
  have pre0 : ∀ t, Steps p.tables e below (s₁.setTop (mkF m 0 #[.val (.ref a_SUPPORTS)] [])) t → Steps p.tables e below (s₁.setTop (entryFrame m #[(.ref a_SUPPORTS)] 1)) t := fun t k => castTop (ef_rm_alw_SUPPORTS m (a_SUPPORTS)) k
  obtain ⟨_, _, ⟨T1, L1, k1, n1⟩, -, X1, ⟨Lc1, hQ1, l1, y1, z1⟩, st1⟩ := Jvm.LawKit.callS X0 hx (y := (⟨"com/example/demarc/demarc/Placement", "of", "(Lcom/example/demarc/demarc/TransactionAttributeType;Z)Lcom/example/demarc/demarc/Placement;"⟩ : MethodName)) hown (mvT hZ (hw _ (List.mem_of_getElem? (i := 8) rfl))) (mvT hZ (hw _ (List.mem_of_getElem? (i := 9) rfl))) (mvT hZ (hw _ (List.mem_of_getElem? (i := 6) rfl))) (mvT hZ (hw _ (List.mem_of_getElem? (i := 10) rfl))) (by decide) (backOf (W := 0) (rm_of_SUPPORTS_1 l Z a0 hw [] a_REQUIRED a__SwitchMap_com_example_demarc_demarc_TransactionAttributeType a_JOIN a_NONE a_NEW a_NOT_SUPPORTED a_MANDATORY a_REFUSED a_REQUIRES_NEW a_NEVER a_SUPPORTS k_a__SwitchMap_com_example_demarc_demarc_TransactionAttributeType hS h0 n0 O0) hZ (hw _ (List.mem_of_getElem? (i := 10) rfl)) (hw _ (List.mem_of_getElem? (i := 6) rfl)) (by decide) (by decide)) (g := (mkF m 2 #[.val (.ref a_SUPPORTS)] [(.int (1 : Int32)), (.ref a_SUPPORTS)])) rfl (by rw [hml]; rfl) (argsL := [(.ref a_SUPPORTS), (.int (1 : Int32))]) (rest := []) (lenOf pd_1 rfl) rfl (by show 2 * 0 + _ ≤ _; exact Nat.le_of_eq rfl) (hb hby d_prog_19_method_5_2) (fun _ _ => ⟨rfl, e0, (by decide : 0 + 0 ≤ _), (by decide : 0 + 0 ≤ _)⟩)
  dsimp only [Pt.U, Pt.locs, Pt.cells, Pt.slots] at X1 l1 y1 z1 st1 hQ1
  subst l1 y1 z1
  obtain ⟨rfl, N1q, e1⟩ := hQ1
  have N1 := Fr.app N0 N1q
  obtain ⟨T2, X2, e2, st2⟩ := getS2 X1 hx hZ hown (host := "") (Or.inl (hw _ (List.mem_of_getElem? (i := 25) rfl))) Via.refl e1 (hS.2.2.2.2.2.2.2.1.ext O0.2) (g := (mkF m 5 #[.val (.ref a_SUPPORTS)] [(.ref a_JOIN)])) rfl (hb hby d_prog_19_method_5_5)
  obtain ⟨_, _, ⟨T3, L3, k3, n3⟩, -, X3, ⟨Lc3, hQ3, l3, y3, z3⟩, st3⟩ := Jvm.LawKit.callS X2 hx (y := (⟨"com/example/demarc/demarc/Placement", "of", "(Lcom/example/demarc/demarc/TransactionAttributeType;Z)Lcom/example/demarc/demarc/Placement;"⟩ : MethodName)) hown (mvT hZ (hw _ (List.mem_of_getElem? (i := 8) rfl))) (mvT hZ (hw _ (List.mem_of_getElem? (i := 9) rfl))) (mvT hZ (hw _ (List.mem_of_getElem? (i := 6) rfl))) (mvT hZ (hw _ (List.mem_of_getElem? (i := 10) rfl))) (by decide) (backOf (W := 0) (rm_of_SUPPORTS_0 l Z a0 hw [] a_REQUIRED a__SwitchMap_com_example_demarc_demarc_TransactionAttributeType a_JOIN a_NONE a_NEW a_NOT_SUPPORTED a_MANDATORY a_REFUSED a_REQUIRES_NEW a_NEVER a_SUPPORTS k_a__SwitchMap_com_example_demarc_demarc_TransactionAttributeType hS h0 n0 O0) hZ (hw _ (List.mem_of_getElem? (i := 10) rfl)) (hw _ (List.mem_of_getElem? (i := 6) rfl)) (by decide) (by decide)) (g := (mkF m 13 #[.val (.ref a_SUPPORTS)] [(.int (0 : Int32)), (.ref a_SUPPORTS)])) rfl (by rw [hml]; rfl) (argsL := [(.ref a_SUPPORTS), (.int (0 : Int32))]) (rest := []) (lenOf pd_1 rfl) rfl (by show 2 * 0 + _ ≤ _; exact Nat.le_of_eq rfl) (hb hby d_prog_19_method_5_13) (fun _ _ => ⟨rfl, e2, (by decide : 0 + 0 ≤ _), (by decide : 0 + 0 ≤ _)⟩)
  dsimp only [Pt.U, Pt.locs, Pt.cells, Pt.slots] at X3 l3 y3 z3 st3 hQ3
  subst l3 y3 z3
  obtain ⟨rfl, N3q, e3⟩ := hQ3
  have N3 := Fr.app N1 N3q
  obtain ⟨T4, X4, e4, st4⟩ := getS2 X3 hx hZ hown (host := "") (Or.inl (hw _ (List.mem_of_getElem? (i := 25) rfl))) Via.refl e3 (hS.2.2.2.2.2.2.2.1.ext O0.2) (g := (mkF m 16 #[.val (.ref a_SUPPORTS)] [(.ref a_NONE)])) rfl (hb hby d_prog_19_method_5_16)
  obtain ⟨fs, hr, hrun, hended, hW, hsame⟩ := X4.leave (v := (some (.int (0 : Int32)))) (fun h => by rw [Bd.returns] at h; cases h)
  refine ⟨_, _, pre0 _ ?_, hrun, hended, _, _, rfl, ?_, ⟨_, rfl⟩, hW, hsame.mono (by decide) (by decide)⟩
  · refine XS.aloadN X0.here hx rfl (hb hby d_prog_19_method_5_0) rfl rfl ?_
    show Steps p.tables e below (s₁.setTop (mkF m 1 #[.val (.ref a_SUPPORTS)] [(.ref a_SUPPORTS)])) _
    refine XS.iconst X0.here hx rfl (hb hby d_prog_19_method_5_1) ?_
    show Steps p.tables e below (s₁.setTop (mkF m 2 #[.val (.ref a_SUPPORTS)] [(.int (1 : Int32)), (.ref a_SUPPORTS)])) _
    refine st1 _ ?_
    show Steps p.tables e below (T1.setTop (mkF m 5 #[.val (.ref a_SUPPORTS)] [(.ref a_JOIN)])) _
    refine st2 _ ?_
    show Steps p.tables e below (T2.setTop (mkF m 8 #[.val (.ref a_SUPPORTS)] [(.ref a_NONE), (.ref a_JOIN)])) _
    refine Jvm.RoadKit.acmp (g := (mkF m 8 #[.val (.ref a_SUPPORTS)] [(.ref a_NONE), (.ref a_JOIN)])) X2 hx rfl rfl rfl (pc0 := 8) (pc' := 11) (same := false) rfl (hb hby d_prog_19_method_5_8) rfl (decide_eq_false fun q => (Fld.ne hS.2.2.2.2.2.2.2.2.1 hS.2.2.2.2.2.2.2.2.2.1 (fun q => absurd (Value.int.inj q) (by decide))) (Value.ref.inj q)) (by decide) (by decide) ?_
    show Steps p.tables e below (T2.setTop (mkF m 11 #[.val (.ref a_SUPPORTS)] [])) _
    refine XS.aloadN X2.here hx rfl (hb hby d_prog_19_method_5_11) rfl rfl ?_
    show Steps p.tables e below (T2.setTop (mkF m 12 #[.val (.ref a_SUPPORTS)] [(.ref a_SUPPORTS)])) _
    refine XS.iconst X2.here hx rfl (hb hby d_prog_19_method_5_12) ?_
    show Steps p.tables e below (T2.setTop (mkF m 13 #[.val (.ref a_SUPPORTS)] [(.int (0 : Int32)), (.ref a_SUPPORTS)])) _
    refine st3 _ ?_
    show Steps p.tables e below (T3.setTop (mkF m 16 #[.val (.ref a_SUPPORTS)] [(.ref a_NONE)])) _
    refine st4 _ ?_
    show Steps p.tables e below (T4.setTop (mkF m 19 #[.val (.ref a_SUPPORTS)] [(.ref a_NONE), (.ref a_NONE)])) _
    refine Jvm.RoadKit.acmp (g := (mkF m 19 #[.val (.ref a_SUPPORTS)] [(.ref a_NONE), (.ref a_NONE)])) X4 hx rfl rfl rfl (pc0 := 19) (pc' := 26) (same := true) rfl (hb hby d_prog_19_method_5_19) rfl (decide_eq_true rfl) (by decide) (by decide) ?_
    show Steps p.tables e below (T4.setTop (mkF m 26 #[.val (.ref a_SUPPORTS)] [])) _
    refine XS.iconst X4.here hx rfl (hb hby d_prog_19_method_5_26) ?_
    show Steps p.tables e below (T4.setTop (mkF m 27 #[.val (.ref a_SUPPORTS)] [(.int (0 : Int32))])) _
    exact retN X4 hx (t := .boolean) Bd.returns (by simp) (hb hby d_prog_19_method_5_27) hr
  · show QI (0 : Int32) h0 n0 _ T4.heap _
    rw [e4]
    exact ⟨rfl, N3, rfl⟩
set_option maxRecDepth 65536 in
set_option maxHeartbeats 40000000 in
theorem rm0 (l : Launch) (Z : State) (a0 : Array Value) (hw : ∀ d ∈ tables_1, d.before a0 Z = true) (ws : List Jvm.Cond) (a_REQUIRED : Addr) (a__SwitchMap_com_example_demarc_demarc_TransactionAttributeType : Addr) (a_JOIN : Addr) (a_NONE : Addr) (a_NEW : Addr) (a_NOT_SUPPORTED : Addr) (a_MANDATORY : Addr) (a_REFUSED : Addr) (a_REQUIRES_NEW : Addr) (a_NEVER : Addr) (a_SUPPORTS : Addr) (k_a__SwitchMap_com_example_demarc_demarc_TransactionAttributeType : ClassId) (hS : SB Z a_REQUIRED a__SwitchMap_com_example_demarc_demarc_TransactionAttributeType a_JOIN a_NONE a_NEW a_NOT_SUPPORTED a_MANDATORY a_REFUSED a_REQUIRES_NEW a_NEVER a_SUPPORTS k_a__SwitchMap_com_example_demarc_demarc_TransactionAttributeType) (p0 : Int32) (h0 : Heap) (n0 : Nat) (O0 : Old Z n0 h0) :
    MetFree l x (head1 (Jvm.Cond.code x code maxLocals ret :: ws) room_1) (fun a U => a = #[(.int p0)] ∧ Z.Warmed39 U.vm ∧ U.heap = h0) (fun _ _ _ _ _ => True) (fun _ U o U' => ∃ v L, o = .returned v ∧ Q0 n0 v U'.heap L ∧ FrameEnd U o U' L room_1.cells room_1.slots) := by
  refine MetFree.of_bodySF (plainFor_of_name pn_2) hisR ?_
  intro p e s m args below meth c s₁ Bd hml0 hP hK
  obtain ⟨rfl, hZ, hh⟩ := hP
  have hx := Bd.exec
  have hby := Bd.bytes
  have hml : c.maxLocals = 4 := hml0
  have hown : s.vm.findClass "com/example/demarc/demarc/PlacementAlwaysInTransactionPinLaw" = some m.cls := findClass_of_methodNamed Bd.named
  have hnm := (name_of_methodNamed Bd.named Bd.method).1
  have X0 : Stand p l e room_1 s m #[(.int p0)] below meth c s₁ [] 0 0 := Stand.of_body Bd
  have e0 : s₁.heap = h0 := by rw [← hh, Bd.state]; rfl
  have N0 := Fr.nil n0
  have pre0 : ∀ t, Steps p.tables e below (s₁.setTop (mkF m 0 #[.val (.int p0), .unset, .unset, .unset] [])) t → Steps p.tables e below (s₁.setTop (entryFrame m #[(.int p0)] maxLocals)) t := fun t k => castTop (ef_rm0 m (p0)) k
  have p1 : ∀ t, Steps p.tables e below (s₁.setTop (mkF m 9 #[.val (.int p0), .val (.int ((p0 &&& (2147483647 : Int32)) % (6 : Int32))), .unset, .unset] [(.int ((p0 &&& (2147483647 : Int32)) % (6 : Int32)))])) t → Steps p.tables e below (s₁.setTop (entryFrame m #[(.int p0)] maxLocals)) t := fun t kt => pre0 t (by
    refine XS.iloadN X0.here hx rfl (hb hby at_0) rfl ?_
    show Steps p.tables e below (s₁.setTop (mkF m 1 #[.val (.int p0), .unset, .unset, .unset] [(.int p0)])) _
    refine X0.ldcInt hx hown (mvT hZ (hw _ (List.mem_of_getElem? (i := 0) rfl))) (g := (mkF m 1 #[.val (.int p0), .unset, .unset, .unset] [(.int p0)])) rfl (hb hby at_1) _ ?_
    show Steps p.tables e below (s₁.setTop (mkF m 3 #[.val (.int p0), .unset, .unset, .unset] [(.int (2147483647 : Int32)), (.int p0)])) _
    refine XS.iand X0.here hx rfl (hb hby at_3) rfl ?_
    show Steps p.tables e below (s₁.setTop (mkF m 4 #[.val (.int p0), .unset, .unset, .unset] [(.int (p0 &&& (2147483647 : Int32)))])) _
    refine XS.bipush X0.here hx rfl (hb hby at_4) ?_
    show Steps p.tables e below (s₁.setTop (mkF m 6 #[.val (.int p0), .unset, .unset, .unset] [(.int (6 : Int32)), (.int (p0 &&& (2147483647 : Int32)))])) _
    refine iremM X0 hx rfl (hb hby at_6) rfl (by decide) ?_
    show Steps p.tables e below (s₁.setTop (mkF m 7 #[.val (.int p0), .unset, .unset, .unset] [(.int ((p0 &&& (2147483647 : Int32)) % (6 : Int32)))])) _
    refine XS.istoreN X0.here hx rfl (hb hby at_7) rfl (l' := #[.val (.int p0), .val (.int ((p0 &&& (2147483647 : Int32)) % (6 : Int32))), .unset, .unset]) rfl ?_
    show Steps p.tables e below (s₁.setTop (mkF m 8 #[.val (.int p0), .val (.int ((p0 &&& (2147483647 : Int32)) % (6 : Int32))), .unset, .unset] [])) _
    refine XS.iloadN X0.here hx rfl (hb hby at_8) rfl ?_
    show Steps p.tables e below (s₁.setTop (mkF m 9 #[.val (.int p0), .val (.int ((p0 &&& (2147483647 : Int32)) % (6 : Int32))), .unset, .unset] [(.int ((p0 &&& (2147483647 : Int32)) % (6 : Int32)))])) _
    exact kt)
  by_cases hc9 : ((p0 &&& (2147483647 : Int32)) % (6 : Int32)) = (0 : Int32)
  · obtain ⟨T2, X2, e2, st2⟩ := getS2 X0 hx hZ hown (host := "") (Or.inl (hw _ (List.mem_of_getElem? (i := 1) rfl))) Via.refl e0 (hS.2.1.ext O0.2) (g := (mkF m 12 #[.val (.int p0), .val (.int ((p0 &&& (2147483647 : Int32)) % (6 : Int32))), .unset, .unset] [])) rfl (hb hby at_12)
    obtain ⟨_, _, ⟨T3, L3, k3, n3⟩, -, X3, ⟨Lc3, hQ3, l3, y3, z3⟩, st3⟩ := Jvm.LawKit.callS X2 hx (y := (⟨"com/example/demarc/demarc/Placement", "alwaysInTransaction", "(Lcom/example/demarc/demarc/TransactionAttributeType;)Z"⟩ : MethodName)) hown (mvT hZ (hw _ (List.mem_of_getElem? (i := 4) rfl))) (mvT hZ (hw _ (List.mem_of_getElem? (i := 5) rfl))) (mvT hZ (hw _ (List.mem_of_getElem? (i := 6) rfl))) (mvT hZ (hw _ (List.mem_of_getElem? (i := 7) rfl))) (by decide) (backOf (W := 0) (rm_alw_REQUIRED l Z a0 hw [] a_REQUIRED a__SwitchMap_com_example_demarc_demarc_TransactionAttributeType a_JOIN a_NONE a_NEW a_NOT_SUPPORTED a_MANDATORY a_REFUSED a_REQUIRES_NEW a_NEVER a_SUPPORTS k_a__SwitchMap_com_example_demarc_demarc_TransactionAttributeType hS h0 n0 O0) hZ (hw _ (List.mem_of_getElem? (i := 7) rfl)) (hw _ (List.mem_of_getElem? (i := 6) rfl)) (by decide) (by decide)) (g := (mkF m 84 #[.val (.int p0), .val (.int ((p0 &&& (2147483647 : Int32)) % (6 : Int32))), .val (.ref a_REQUIRED), .val (.int (1 : Int32))] [(.ref a_REQUIRED)])) rfl (by rw [hml]; rfl) (argsL := [(.ref a_REQUIRED)]) (rest := []) (lenOf pd_2 rfl) rfl (by show 2 * 0 + _ ≤ _; exact Nat.le_of_eq rfl) (hb hby at_84) (fun _ _ => ⟨rfl, e2, (by decide : 0 + 0 ≤ _), (by decide : 0 + 0 ≤ _)⟩)
    dsimp only [Pt.U, Pt.locs, Pt.cells, Pt.slots] at X3 l3 y3 z3 st3 hQ3
    subst l3 y3 z3
    obtain ⟨rfl, N3q, e3⟩ := hQ3
    have N3 := Fr.app N0 N3q
    obtain ⟨fs, hr, hrun, hended, hW, hsame⟩ := X3.leave (v := (some (.int (1 : Int32)))) (fun h => by rw [Bd.returns] at h; cases h)
    refine ⟨_, _, p1 _ ?_, hrun, hended, _, _, rfl, ?_, ⟨_, rfl⟩, hW, hsame.mono (by decide) (by decide)⟩
    · refine XS.ifNo X0.here hx rfl (hb hby at_9) rfl ((if0 _ _).trans (teq hc9).2) ?_
      show Steps p.tables e below (s₁.setTop (mkF m 12 #[.val (.int p0), .val (.int ((p0 &&& (2147483647 : Int32)) % (6 : Int32))), .unset, .unset] [])) _
      refine st2 _ ?_
      show Steps p.tables e below (T2.setTop (mkF m 15 #[.val (.int p0), .val (.int ((p0 &&& (2147483647 : Int32)) % (6 : Int32))), .unset, .unset] [(.ref a_REQUIRED)])) _
      refine XS.astoreN X2.here hx rfl (hb hby at_15) rfl rfl (l' := #[.val (.int p0), .val (.int ((p0 &&& (2147483647 : Int32)) % (6 : Int32))), .val (.ref a_REQUIRED), .unset]) rfl ?_
      show Steps p.tables e below (T2.setTop (mkF m 16 #[.val (.int p0), .val (.int ((p0 &&& (2147483647 : Int32)) % (6 : Int32))), .val (.ref a_REQUIRED), .unset] [])) _
      refine XS.iconst X2.here hx rfl (hb hby at_16) ?_
      show Steps p.tables e below (T2.setTop (mkF m 17 #[.val (.int p0), .val (.int ((p0 &&& (2147483647 : Int32)) % (6 : Int32))), .val (.ref a_REQUIRED), .unset] [(.int (1 : Int32))])) _
      refine XS.istoreN X2.here hx rfl (hb hby at_17) rfl (l' := #[.val (.int p0), .val (.int ((p0 &&& (2147483647 : Int32)) % (6 : Int32))), .val (.ref a_REQUIRED), .val (.int (1 : Int32))]) rfl ?_
      show Steps p.tables e below (T2.setTop (mkF m 18 #[.val (.int p0), .val (.int ((p0 &&& (2147483647 : Int32)) % (6 : Int32))), .val (.ref a_REQUIRED), .val (.int (1 : Int32))] [])) _
      refine XS.goto X2.here hx rfl (pc0 := 18) (pc' := 83) rfl (hb hby at_18) (by decide) (by decide) ?_
      show Steps p.tables e below (T2.setTop (mkF m 83 #[.val (.int p0), .val (.int ((p0 &&& (2147483647 : Int32)) % (6 : Int32))), .val (.ref a_REQUIRED), .val (.int (1 : Int32))] [])) _
      refine XS.aloadN X2.here hx rfl (hb hby at_83) rfl rfl ?_
      show Steps p.tables e below (T2.setTop (mkF m 84 #[.val (.int p0), .val (.int ((p0 &&& (2147483647 : Int32)) % (6 : Int32))), .val (.ref a_REQUIRED), .val (.int (1 : Int32))] [(.ref a_REQUIRED)])) _
      refine st3 _ ?_
      show Steps p.tables e below (T3.setTop (mkF m 87 #[.val (.int p0), .val (.int ((p0 &&& (2147483647 : Int32)) % (6 : Int32))), .val (.ref a_REQUIRED), .val (.int (1 : Int32))] [(.int (1 : Int32))])) _
      refine XS.iloadN X3.here hx rfl (hb hby at_87) rfl ?_
      show Steps p.tables e below (T3.setTop (mkF m 88 #[.val (.int p0), .val (.int ((p0 &&& (2147483647 : Int32)) % (6 : Int32))), .val (.ref a_REQUIRED), .val (.int (1 : Int32))] [(.int (1 : Int32)), (.int (1 : Int32))])) _
      refine XS.icmpNo X3.here hx rfl (hb hby at_88) rfl (teq (by decide : (1 : Int32) = (1 : Int32))).2 ?_
      show Steps p.tables e below (T3.setTop (mkF m 91 #[.val (.int p0), .val (.int ((p0 &&& (2147483647 : Int32)) % (6 : Int32))), .val (.ref a_REQUIRED), .val (.int (1 : Int32))] [])) _
      refine XS.iconst X3.here hx rfl (hb hby at_91) ?_
      show Steps p.tables e below (T3.setTop (mkF m 92 #[.val (.int p0), .val (.int ((p0 &&& (2147483647 : Int32)) % (6 : Int32))), .val (.ref a_REQUIRED), .val (.int (1 : Int32))] [(.int (1 : Int32))])) _
      refine XS.goto X3.here hx rfl (pc0 := 92) (pc' := 96) rfl (hb hby at_92) (by decide) (by decide) ?_
      show Steps p.tables e below (T3.setTop (mkF m 96 #[.val (.int p0), .val (.int ((p0 &&& (2147483647 : Int32)) % (6 : Int32))), .val (.ref a_REQUIRED), .val (.int (1 : Int32))] [(.int (1 : Int32))])) _
      exact retN X3 hx (t := .boolean) Bd.returns (by simp) (hb hby at_96) hr
    · show Q0 n0 _ T3.heap _
      rw [e3]
      exact ⟨rfl, N3⟩
  · have p4 : ∀ t, Steps p.tables e below (s₁.setTop (mkF m 23 #[.val (.int p0), .val (.int ((p0 &&& (2147483647 : Int32)) % (6 : Int32))), .unset, .unset] [(.int (1 : Int32)), (.int ((p0 &&& (2147483647 : Int32)) % (6 : Int32)))])) t → Steps p.tables e below (s₁.setTop (entryFrame m #[(.int p0)] maxLocals)) t := fun t kt => p1 t (by
      refine XS.ifYes X0.here hx rfl (pc0 := 9) (pc' := 21) rfl (hb hby at_9) rfl ((if0 _ _).trans (feq hc9).2) (by decide) (by decide) ?_
      show Steps p.tables e below (s₁.setTop (mkF m 21 #[.val (.int p0), .val (.int ((p0 &&& (2147483647 : Int32)) % (6 : Int32))), .unset, .unset] [])) _
      refine XS.iloadN X0.here hx rfl (hb hby at_21) rfl ?_
      show Steps p.tables e below (s₁.setTop (mkF m 22 #[.val (.int p0), .val (.int ((p0 &&& (2147483647 : Int32)) % (6 : Int32))), .unset, .unset] [(.int ((p0 &&& (2147483647 : Int32)) % (6 : Int32)))])) _
      refine XS.iconst X0.here hx rfl (hb hby at_22) ?_
      show Steps p.tables e below (s₁.setTop (mkF m 23 #[.val (.int p0), .val (.int ((p0 &&& (2147483647 : Int32)) % (6 : Int32))), .unset, .unset] [(.int (1 : Int32)), (.int ((p0 &&& (2147483647 : Int32)) % (6 : Int32)))])) _
      exact kt)
    by_cases hc23 : ((p0 &&& (2147483647 : Int32)) % (6 : Int32)) = (1 : Int32)
    · obtain ⟨T5, X5, e5, st5⟩ := getS2 X0 hx hZ hown (host := "") (Or.inl (hw _ (List.mem_of_getElem? (i := 35) rfl))) Via.refl e0 (hS.2.2.2.2.2.2.2.2.2.2.2.2.2.2.2.2.2.2.2.2.2.2.2.1.ext O0.2) (g := (mkF m 26 #[.val (.int p0), .val (.int ((p0 &&& (2147483647 : Int32)) % (6 : Int32))), .unset, .unset] [])) rfl (hb hby at_26)
      obtain ⟨_, _, ⟨T6, L6, k6, n6⟩, -, X6, ⟨Lc6, hQ6, l6, y6, z6⟩, st6⟩ := Jvm.LawKit.callS X5 hx (y := (⟨"com/example/demarc/demarc/Placement", "alwaysInTransaction", "(Lcom/example/demarc/demarc/TransactionAttributeType;)Z"⟩ : MethodName)) hown (mvT hZ (hw _ (List.mem_of_getElem? (i := 4) rfl))) (mvT hZ (hw _ (List.mem_of_getElem? (i := 5) rfl))) (mvT hZ (hw _ (List.mem_of_getElem? (i := 6) rfl))) (mvT hZ (hw _ (List.mem_of_getElem? (i := 7) rfl))) (by decide) (backOf (W := 0) (rm_alw_REQUIRES_NEW l Z a0 hw [] a_REQUIRED a__SwitchMap_com_example_demarc_demarc_TransactionAttributeType a_JOIN a_NONE a_NEW a_NOT_SUPPORTED a_MANDATORY a_REFUSED a_REQUIRES_NEW a_NEVER a_SUPPORTS k_a__SwitchMap_com_example_demarc_demarc_TransactionAttributeType hS h0 n0 O0) hZ (hw _ (List.mem_of_getElem? (i := 7) rfl)) (hw _ (List.mem_of_getElem? (i := 6) rfl)) (by decide) (by decide)) (g := (mkF m 84 #[.val (.int p0), .val (.int ((p0 &&& (2147483647 : Int32)) % (6 : Int32))), .val (.ref a_REQUIRES_NEW), .val (.int (1 : Int32))] [(.ref a_REQUIRES_NEW)])) rfl (by rw [hml]; rfl) (argsL := [(.ref a_REQUIRES_NEW)]) (rest := []) (lenOf pd_2 rfl) rfl (by show 2 * 0 + _ ≤ _; exact Nat.le_of_eq rfl) (hb hby at_84) (fun _ _ => ⟨rfl, e5, (by decide : 0 + 0 ≤ _), (by decide : 0 + 0 ≤ _)⟩)
      dsimp only [Pt.U, Pt.locs, Pt.cells, Pt.slots] at X6 l6 y6 z6 st6 hQ6
      subst l6 y6 z6
      obtain ⟨rfl, N6q, e6⟩ := hQ6
      have N6 := Fr.app N0 N6q
      obtain ⟨fs, hr, hrun, hended, hW, hsame⟩ := X6.leave (v := (some (.int (1 : Int32)))) (fun h => by rw [Bd.returns] at h; cases h)
      refine ⟨_, _, p4 _ ?_, hrun, hended, _, _, rfl, ?_, ⟨_, rfl⟩, hW, hsame.mono (by decide) (by decide)⟩
      · refine XS.icmpNo X0.here hx rfl (hb hby at_23) rfl (teq hc23).2 ?_
        show Steps p.tables e below (s₁.setTop (mkF m 26 #[.val (.int p0), .val (.int ((p0 &&& (2147483647 : Int32)) % (6 : Int32))), .unset, .unset] [])) _
        refine st5 _ ?_
        show Steps p.tables e below (T5.setTop (mkF m 29 #[.val (.int p0), .val (.int ((p0 &&& (2147483647 : Int32)) % (6 : Int32))), .unset, .unset] [(.ref a_REQUIRES_NEW)])) _
        refine XS.astoreN X5.here hx rfl (hb hby at_29) rfl rfl (l' := #[.val (.int p0), .val (.int ((p0 &&& (2147483647 : Int32)) % (6 : Int32))), .val (.ref a_REQUIRES_NEW), .unset]) rfl ?_
        show Steps p.tables e below (T5.setTop (mkF m 30 #[.val (.int p0), .val (.int ((p0 &&& (2147483647 : Int32)) % (6 : Int32))), .val (.ref a_REQUIRES_NEW), .unset] [])) _
        refine XS.iconst X5.here hx rfl (hb hby at_30) ?_
        show Steps p.tables e below (T5.setTop (mkF m 31 #[.val (.int p0), .val (.int ((p0 &&& (2147483647 : Int32)) % (6 : Int32))), .val (.ref a_REQUIRES_NEW), .unset] [(.int (1 : Int32))])) _
        refine XS.istoreN X5.here hx rfl (hb hby at_31) rfl (l' := #[.val (.int p0), .val (.int ((p0 &&& (2147483647 : Int32)) % (6 : Int32))), .val (.ref a_REQUIRES_NEW), .val (.int (1 : Int32))]) rfl ?_
        show Steps p.tables e below (T5.setTop (mkF m 32 #[.val (.int p0), .val (.int ((p0 &&& (2147483647 : Int32)) % (6 : Int32))), .val (.ref a_REQUIRES_NEW), .val (.int (1 : Int32))] [])) _
        refine XS.goto X5.here hx rfl (pc0 := 32) (pc' := 83) rfl (hb hby at_32) (by decide) (by decide) ?_
        show Steps p.tables e below (T5.setTop (mkF m 83 #[.val (.int p0), .val (.int ((p0 &&& (2147483647 : Int32)) % (6 : Int32))), .val (.ref a_REQUIRES_NEW), .val (.int (1 : Int32))] [])) _
        refine XS.aloadN X5.here hx rfl (hb hby at_83) rfl rfl ?_
        show Steps p.tables e below (T5.setTop (mkF m 84 #[.val (.int p0), .val (.int ((p0 &&& (2147483647 : Int32)) % (6 : Int32))), .val (.ref a_REQUIRES_NEW), .val (.int (1 : Int32))] [(.ref a_REQUIRES_NEW)])) _
        refine st6 _ ?_
        show Steps p.tables e below (T6.setTop (mkF m 87 #[.val (.int p0), .val (.int ((p0 &&& (2147483647 : Int32)) % (6 : Int32))), .val (.ref a_REQUIRES_NEW), .val (.int (1 : Int32))] [(.int (1 : Int32))])) _
        refine XS.iloadN X6.here hx rfl (hb hby at_87) rfl ?_
        show Steps p.tables e below (T6.setTop (mkF m 88 #[.val (.int p0), .val (.int ((p0 &&& (2147483647 : Int32)) % (6 : Int32))), .val (.ref a_REQUIRES_NEW), .val (.int (1 : Int32))] [(.int (1 : Int32)), (.int (1 : Int32))])) _
        refine XS.icmpNo X6.here hx rfl (hb hby at_88) rfl (teq (by decide : (1 : Int32) = (1 : Int32))).2 ?_
        show Steps p.tables e below (T6.setTop (mkF m 91 #[.val (.int p0), .val (.int ((p0 &&& (2147483647 : Int32)) % (6 : Int32))), .val (.ref a_REQUIRES_NEW), .val (.int (1 : Int32))] [])) _
        refine XS.iconst X6.here hx rfl (hb hby at_91) ?_
        show Steps p.tables e below (T6.setTop (mkF m 92 #[.val (.int p0), .val (.int ((p0 &&& (2147483647 : Int32)) % (6 : Int32))), .val (.ref a_REQUIRES_NEW), .val (.int (1 : Int32))] [(.int (1 : Int32))])) _
        refine XS.goto X6.here hx rfl (pc0 := 92) (pc' := 96) rfl (hb hby at_92) (by decide) (by decide) ?_
        show Steps p.tables e below (T6.setTop (mkF m 96 #[.val (.int p0), .val (.int ((p0 &&& (2147483647 : Int32)) % (6 : Int32))), .val (.ref a_REQUIRES_NEW), .val (.int (1 : Int32))] [(.int (1 : Int32))])) _
        exact retN X6 hx (t := .boolean) Bd.returns (by simp) (hb hby at_96) hr
      · show Q0 n0 _ T6.heap _
        rw [e6]
        exact ⟨rfl, N6⟩
    · have p7 : ∀ t, Steps p.tables e below (s₁.setTop (mkF m 37 #[.val (.int p0), .val (.int ((p0 &&& (2147483647 : Int32)) % (6 : Int32))), .unset, .unset] [(.int (2 : Int32)), (.int ((p0 &&& (2147483647 : Int32)) % (6 : Int32)))])) t → Steps p.tables e below (s₁.setTop (entryFrame m #[(.int p0)] maxLocals)) t := fun t kt => p4 t (by
        refine XS.icmpYes X0.here hx rfl (pc0 := 23) (pc' := 35) rfl (hb hby at_23) rfl (feq hc23).2 (by decide) (by decide) ?_
        show Steps p.tables e below (s₁.setTop (mkF m 35 #[.val (.int p0), .val (.int ((p0 &&& (2147483647 : Int32)) % (6 : Int32))), .unset, .unset] [])) _
        refine XS.iloadN X0.here hx rfl (hb hby at_35) rfl ?_
        show Steps p.tables e below (s₁.setTop (mkF m 36 #[.val (.int p0), .val (.int ((p0 &&& (2147483647 : Int32)) % (6 : Int32))), .unset, .unset] [(.int ((p0 &&& (2147483647 : Int32)) % (6 : Int32)))])) _
        refine XS.iconst X0.here hx rfl (hb hby at_36) ?_
        show Steps p.tables e below (s₁.setTop (mkF m 37 #[.val (.int p0), .val (.int ((p0 &&& (2147483647 : Int32)) % (6 : Int32))), .unset, .unset] [(.int (2 : Int32)), (.int ((p0 &&& (2147483647 : Int32)) % (6 : Int32)))])) _
        exact kt)
      by_cases hc37 : ((p0 &&& (2147483647 : Int32)) % (6 : Int32)) = (2 : Int32)
      · obtain ⟨T8, X8, e8, st8⟩ := getS2 X0 hx hZ hown (host := "") (Or.inl (hw _ (List.mem_of_getElem? (i := 31) rfl))) Via.refl e0 (hS.2.2.2.2.2.2.2.2.2.2.2.2.2.2.2.2.2.1.ext O0.2) (g := (mkF m 40 #[.val (.int p0), .val (.int ((p0 &&& (2147483647 : Int32)) % (6 : Int32))), .unset, .unset] [])) rfl (hb hby at_40)
        obtain ⟨_, _, ⟨T9, L9, k9, n9⟩, -, X9, ⟨Lc9, hQ9, l9, y9, z9⟩, st9⟩ := Jvm.LawKit.callS X8 hx (y := (⟨"com/example/demarc/demarc/Placement", "alwaysInTransaction", "(Lcom/example/demarc/demarc/TransactionAttributeType;)Z"⟩ : MethodName)) hown (mvT hZ (hw _ (List.mem_of_getElem? (i := 4) rfl))) (mvT hZ (hw _ (List.mem_of_getElem? (i := 5) rfl))) (mvT hZ (hw _ (List.mem_of_getElem? (i := 6) rfl))) (mvT hZ (hw _ (List.mem_of_getElem? (i := 7) rfl))) (by decide) (backOf (W := 0) (rm_alw_MANDATORY l Z a0 hw [] a_REQUIRED a__SwitchMap_com_example_demarc_demarc_TransactionAttributeType a_JOIN a_NONE a_NEW a_NOT_SUPPORTED a_MANDATORY a_REFUSED a_REQUIRES_NEW a_NEVER a_SUPPORTS k_a__SwitchMap_com_example_demarc_demarc_TransactionAttributeType hS h0 n0 O0) hZ (hw _ (List.mem_of_getElem? (i := 7) rfl)) (hw _ (List.mem_of_getElem? (i := 6) rfl)) (by decide) (by decide)) (g := (mkF m 84 #[.val (.int p0), .val (.int ((p0 &&& (2147483647 : Int32)) % (6 : Int32))), .val (.ref a_MANDATORY), .val (.int (1 : Int32))] [(.ref a_MANDATORY)])) rfl (by rw [hml]; rfl) (argsL := [(.ref a_MANDATORY)]) (rest := []) (lenOf pd_2 rfl) rfl (by show 2 * 0 + _ ≤ _; exact Nat.le_of_eq rfl) (hb hby at_84) (fun _ _ => ⟨rfl, e8, (by decide : 0 + 0 ≤ _), (by decide : 0 + 0 ≤ _)⟩)
        dsimp only [Pt.U, Pt.locs, Pt.cells, Pt.slots] at X9 l9 y9 z9 st9 hQ9
        subst l9 y9 z9
        obtain ⟨rfl, N9q, e9⟩ := hQ9
        have N9 := Fr.app N0 N9q
        obtain ⟨fs, hr, hrun, hended, hW, hsame⟩ := X9.leave (v := (some (.int (1 : Int32)))) (fun h => by rw [Bd.returns] at h; cases h)
        refine ⟨_, _, p7 _ ?_, hrun, hended, _, _, rfl, ?_, ⟨_, rfl⟩, hW, hsame.mono (by decide) (by decide)⟩
        · refine XS.icmpNo X0.here hx rfl (hb hby at_37) rfl (teq hc37).2 ?_
          show Steps p.tables e below (s₁.setTop (mkF m 40 #[.val (.int p0), .val (.int ((p0 &&& (2147483647 : Int32)) % (6 : Int32))), .unset, .unset] [])) _
          refine st8 _ ?_
          show Steps p.tables e below (T8.setTop (mkF m 43 #[.val (.int p0), .val (.int ((p0 &&& (2147483647 : Int32)) % (6 : Int32))), .unset, .unset] [(.ref a_MANDATORY)])) _
          refine XS.astoreN X8.here hx rfl (hb hby at_43) rfl rfl (l' := #[.val (.int p0), .val (.int ((p0 &&& (2147483647 : Int32)) % (6 : Int32))), .val (.ref a_MANDATORY), .unset]) rfl ?_
          show Steps p.tables e below (T8.setTop (mkF m 44 #[.val (.int p0), .val (.int ((p0 &&& (2147483647 : Int32)) % (6 : Int32))), .val (.ref a_MANDATORY), .unset] [])) _
          refine XS.iconst X8.here hx rfl (hb hby at_44) ?_
          show Steps p.tables e below (T8.setTop (mkF m 45 #[.val (.int p0), .val (.int ((p0 &&& (2147483647 : Int32)) % (6 : Int32))), .val (.ref a_MANDATORY), .unset] [(.int (1 : Int32))])) _
          refine XS.istoreN X8.here hx rfl (hb hby at_45) rfl (l' := #[.val (.int p0), .val (.int ((p0 &&& (2147483647 : Int32)) % (6 : Int32))), .val (.ref a_MANDATORY), .val (.int (1 : Int32))]) rfl ?_
          show Steps p.tables e below (T8.setTop (mkF m 46 #[.val (.int p0), .val (.int ((p0 &&& (2147483647 : Int32)) % (6 : Int32))), .val (.ref a_MANDATORY), .val (.int (1 : Int32))] [])) _
          refine XS.goto X8.here hx rfl (pc0 := 46) (pc' := 83) rfl (hb hby at_46) (by decide) (by decide) ?_
          show Steps p.tables e below (T8.setTop (mkF m 83 #[.val (.int p0), .val (.int ((p0 &&& (2147483647 : Int32)) % (6 : Int32))), .val (.ref a_MANDATORY), .val (.int (1 : Int32))] [])) _
          refine XS.aloadN X8.here hx rfl (hb hby at_83) rfl rfl ?_
          show Steps p.tables e below (T8.setTop (mkF m 84 #[.val (.int p0), .val (.int ((p0 &&& (2147483647 : Int32)) % (6 : Int32))), .val (.ref a_MANDATORY), .val (.int (1 : Int32))] [(.ref a_MANDATORY)])) _
          refine st9 _ ?_
          show Steps p.tables e below (T9.setTop (mkF m 87 #[.val (.int p0), .val (.int ((p0 &&& (2147483647 : Int32)) % (6 : Int32))), .val (.ref a_MANDATORY), .val (.int (1 : Int32))] [(.int (1 : Int32))])) _
          refine XS.iloadN X9.here hx rfl (hb hby at_87) rfl ?_
          show Steps p.tables e below (T9.setTop (mkF m 88 #[.val (.int p0), .val (.int ((p0 &&& (2147483647 : Int32)) % (6 : Int32))), .val (.ref a_MANDATORY), .val (.int (1 : Int32))] [(.int (1 : Int32)), (.int (1 : Int32))])) _
          refine XS.icmpNo X9.here hx rfl (hb hby at_88) rfl (teq (by decide : (1 : Int32) = (1 : Int32))).2 ?_
          show Steps p.tables e below (T9.setTop (mkF m 91 #[.val (.int p0), .val (.int ((p0 &&& (2147483647 : Int32)) % (6 : Int32))), .val (.ref a_MANDATORY), .val (.int (1 : Int32))] [])) _
          refine XS.iconst X9.here hx rfl (hb hby at_91) ?_
          show Steps p.tables e below (T9.setTop (mkF m 92 #[.val (.int p0), .val (.int ((p0 &&& (2147483647 : Int32)) % (6 : Int32))), .val (.ref a_MANDATORY), .val (.int (1 : Int32))] [(.int (1 : Int32))])) _
          refine XS.goto X9.here hx rfl (pc0 := 92) (pc' := 96) rfl (hb hby at_92) (by decide) (by decide) ?_
          show Steps p.tables e below (T9.setTop (mkF m 96 #[.val (.int p0), .val (.int ((p0 &&& (2147483647 : Int32)) % (6 : Int32))), .val (.ref a_MANDATORY), .val (.int (1 : Int32))] [(.int (1 : Int32))])) _
          exact retN X9 hx (t := .boolean) Bd.returns (by simp) (hb hby at_96) hr
        · show Q0 n0 _ T9.heap _
          rw [e9]
          exact ⟨rfl, N9⟩
      · have p10 : ∀ t, Steps p.tables e below (s₁.setTop (mkF m 51 #[.val (.int p0), .val (.int ((p0 &&& (2147483647 : Int32)) % (6 : Int32))), .unset, .unset] [(.int (3 : Int32)), (.int ((p0 &&& (2147483647 : Int32)) % (6 : Int32)))])) t → Steps p.tables e below (s₁.setTop (entryFrame m #[(.int p0)] maxLocals)) t := fun t kt => p7 t (by
          refine XS.icmpYes X0.here hx rfl (pc0 := 37) (pc' := 49) rfl (hb hby at_37) rfl (feq hc37).2 (by decide) (by decide) ?_
          show Steps p.tables e below (s₁.setTop (mkF m 49 #[.val (.int p0), .val (.int ((p0 &&& (2147483647 : Int32)) % (6 : Int32))), .unset, .unset] [])) _
          refine XS.iloadN X0.here hx rfl (hb hby at_49) rfl ?_
          show Steps p.tables e below (s₁.setTop (mkF m 50 #[.val (.int p0), .val (.int ((p0 &&& (2147483647 : Int32)) % (6 : Int32))), .unset, .unset] [(.int ((p0 &&& (2147483647 : Int32)) % (6 : Int32)))])) _
          refine XS.iconst X0.here hx rfl (hb hby at_50) ?_
          show Steps p.tables e below (s₁.setTop (mkF m 51 #[.val (.int p0), .val (.int ((p0 &&& (2147483647 : Int32)) % (6 : Int32))), .unset, .unset] [(.int (3 : Int32)), (.int ((p0 &&& (2147483647 : Int32)) % (6 : Int32)))])) _
          exact kt)
        by_cases hc51 : ((p0 &&& (2147483647 : Int32)) % (6 : Int32)) = (3 : Int32)
        · obtain ⟨T11, X11, e11, st11⟩ := getS2 X0 hx hZ hown (host := "") (Or.inl (hw _ (List.mem_of_getElem? (i := 29) rfl))) Via.refl e0 (hS.2.2.2.2.2.2.2.2.2.2.2.2.2.2.1.ext O0.2) (g := (mkF m 54 #[.val (.int p0), .val (.int ((p0 &&& (2147483647 : Int32)) % (6 : Int32))), .unset, .unset] [])) rfl (hb hby at_54)
          obtain ⟨_, _, ⟨T12, L12, k12, n12⟩, -, X12, ⟨Lc12, hQ12, l12, y12, z12⟩, st12⟩ := Jvm.LawKit.callS X11 hx (y := (⟨"com/example/demarc/demarc/Placement", "alwaysInTransaction", "(Lcom/example/demarc/demarc/TransactionAttributeType;)Z"⟩ : MethodName)) hown (mvT hZ (hw _ (List.mem_of_getElem? (i := 4) rfl))) (mvT hZ (hw _ (List.mem_of_getElem? (i := 5) rfl))) (mvT hZ (hw _ (List.mem_of_getElem? (i := 6) rfl))) (mvT hZ (hw _ (List.mem_of_getElem? (i := 7) rfl))) (by decide) (backOf (W := 0) (rm_alw_NOT_SUPPORTED l Z a0 hw [] a_REQUIRED a__SwitchMap_com_example_demarc_demarc_TransactionAttributeType a_JOIN a_NONE a_NEW a_NOT_SUPPORTED a_MANDATORY a_REFUSED a_REQUIRES_NEW a_NEVER a_SUPPORTS k_a__SwitchMap_com_example_demarc_demarc_TransactionAttributeType hS h0 n0 O0) hZ (hw _ (List.mem_of_getElem? (i := 7) rfl)) (hw _ (List.mem_of_getElem? (i := 6) rfl)) (by decide) (by decide)) (g := (mkF m 84 #[.val (.int p0), .val (.int ((p0 &&& (2147483647 : Int32)) % (6 : Int32))), .val (.ref a_NOT_SUPPORTED), .val (.int (0 : Int32))] [(.ref a_NOT_SUPPORTED)])) rfl (by rw [hml]; rfl) (argsL := [(.ref a_NOT_SUPPORTED)]) (rest := []) (lenOf pd_2 rfl) rfl (by show 2 * 0 + _ ≤ _; exact Nat.le_of_eq rfl) (hb hby at_84) (fun _ _ => ⟨rfl, e11, (by decide : 0 + 0 ≤ _), (by decide : 0 + 0 ≤ _)⟩)
          dsimp only [Pt.U, Pt.locs, Pt.cells, Pt.slots] at X12 l12 y12 z12 st12 hQ12
          subst l12 y12 z12
          obtain ⟨rfl, N12q, e12⟩ := hQ12
          have N12 := Fr.app N0 N12q
          obtain ⟨fs, hr, hrun, hended, hW, hsame⟩ := X12.leave (v := (some (.int (1 : Int32)))) (fun h => by rw [Bd.returns] at h; cases h)
          refine ⟨_, _, p10 _ ?_, hrun, hended, _, _, rfl, ?_, ⟨_, rfl⟩, hW, hsame.mono (by decide) (by decide)⟩
          · refine XS.icmpNo X0.here hx rfl (hb hby at_51) rfl (teq hc51).2 ?_
            show Steps p.tables e below (s₁.setTop (mkF m 54 #[.val (.int p0), .val (.int ((p0 &&& (2147483647 : Int32)) % (6 : Int32))), .unset, .unset] [])) _
            refine st11 _ ?_
            show Steps p.tables e below (T11.setTop (mkF m 57 #[.val (.int p0), .val (.int ((p0 &&& (2147483647 : Int32)) % (6 : Int32))), .unset, .unset] [(.ref a_NOT_SUPPORTED)])) _
            refine XS.astoreN X11.here hx rfl (hb hby at_57) rfl rfl (l' := #[.val (.int p0), .val (.int ((p0 &&& (2147483647 : Int32)) % (6 : Int32))), .val (.ref a_NOT_SUPPORTED), .unset]) rfl ?_
            show Steps p.tables e below (T11.setTop (mkF m 58 #[.val (.int p0), .val (.int ((p0 &&& (2147483647 : Int32)) % (6 : Int32))), .val (.ref a_NOT_SUPPORTED), .unset] [])) _
            refine XS.iconst X11.here hx rfl (hb hby at_58) ?_
            show Steps p.tables e below (T11.setTop (mkF m 59 #[.val (.int p0), .val (.int ((p0 &&& (2147483647 : Int32)) % (6 : Int32))), .val (.ref a_NOT_SUPPORTED), .unset] [(.int (0 : Int32))])) _
            refine XS.istoreN X11.here hx rfl (hb hby at_59) rfl (l' := #[.val (.int p0), .val (.int ((p0 &&& (2147483647 : Int32)) % (6 : Int32))), .val (.ref a_NOT_SUPPORTED), .val (.int (0 : Int32))]) rfl ?_
            show Steps p.tables e below (T11.setTop (mkF m 60 #[.val (.int p0), .val (.int ((p0 &&& (2147483647 : Int32)) % (6 : Int32))), .val (.ref a_NOT_SUPPORTED), .val (.int (0 : Int32))] [])) _
            refine XS.goto X11.here hx rfl (pc0 := 60) (pc' := 83) rfl (hb hby at_60) (by decide) (by decide) ?_
            show Steps p.tables e below (T11.setTop (mkF m 83 #[.val (.int p0), .val (.int ((p0 &&& (2147483647 : Int32)) % (6 : Int32))), .val (.ref a_NOT_SUPPORTED), .val (.int (0 : Int32))] [])) _
            refine XS.aloadN X11.here hx rfl (hb hby at_83) rfl rfl ?_
            show Steps p.tables e below (T11.setTop (mkF m 84 #[.val (.int p0), .val (.int ((p0 &&& (2147483647 : Int32)) % (6 : Int32))), .val (.ref a_NOT_SUPPORTED), .val (.int (0 : Int32))] [(.ref a_NOT_SUPPORTED)])) _
            refine st12 _ ?_
            show Steps p.tables e below (T12.setTop (mkF m 87 #[.val (.int p0), .val (.int ((p0 &&& (2147483647 : Int32)) % (6 : Int32))), .val (.ref a_NOT_SUPPORTED), .val (.int (0 : Int32))] [(.int (0 : Int32))])) _
            refine XS.iloadN X12.here hx rfl (hb hby at_87) rfl ?_
            show Steps p.tables e below (T12.setTop (mkF m 88 #[.val (.int p0), .val (.int ((p0 &&& (2147483647 : Int32)) % (6 : Int32))), .val (.ref a_NOT_SUPPORTED), .val (.int (0 : Int32))] [(.int (0 : Int32)), (.int (0 : Int32))])) _
            refine XS.icmpNo X12.here hx rfl (hb hby at_88) rfl (teq (by decide : (0 : Int32) = (0 : Int32))).2 ?_
            show Steps p.tables e below (T12.setTop (mkF m 91 #[.val (.int p0), .val (.int ((p0 &&& (2147483647 : Int32)) % (6 : Int32))), .val (.ref a_NOT_SUPPORTED), .val (.int (0 : Int32))] [])) _
            refine XS.iconst X12.here hx rfl (hb hby at_91) ?_
            show Steps p.tables e below (T12.setTop (mkF m 92 #[.val (.int p0), .val (.int ((p0 &&& (2147483647 : Int32)) % (6 : Int32))), .val (.ref a_NOT_SUPPORTED), .val (.int (0 : Int32))] [(.int (1 : Int32))])) _
            refine XS.goto X12.here hx rfl (pc0 := 92) (pc' := 96) rfl (hb hby at_92) (by decide) (by decide) ?_
            show Steps p.tables e below (T12.setTop (mkF m 96 #[.val (.int p0), .val (.int ((p0 &&& (2147483647 : Int32)) % (6 : Int32))), .val (.ref a_NOT_SUPPORTED), .val (.int (0 : Int32))] [(.int (1 : Int32))])) _
            exact retN X12 hx (t := .boolean) Bd.returns (by simp) (hb hby at_96) hr
          · show Q0 n0 _ T12.heap _
            rw [e12]
            exact ⟨rfl, N12⟩
        · have p13 : ∀ t, Steps p.tables e below (s₁.setTop (mkF m 65 #[.val (.int p0), .val (.int ((p0 &&& (2147483647 : Int32)) % (6 : Int32))), .unset, .unset] [(.int (4 : Int32)), (.int ((p0 &&& (2147483647 : Int32)) % (6 : Int32)))])) t → Steps p.tables e below (s₁.setTop (entryFrame m #[(.int p0)] maxLocals)) t := fun t kt => p10 t (by
            refine XS.icmpYes X0.here hx rfl (pc0 := 51) (pc' := 63) rfl (hb hby at_51) rfl (feq hc51).2 (by decide) (by decide) ?_
            show Steps p.tables e below (s₁.setTop (mkF m 63 #[.val (.int p0), .val (.int ((p0 &&& (2147483647 : Int32)) % (6 : Int32))), .unset, .unset] [])) _
            refine XS.iloadN X0.here hx rfl (hb hby at_63) rfl ?_
            show Steps p.tables e below (s₁.setTop (mkF m 64 #[.val (.int p0), .val (.int ((p0 &&& (2147483647 : Int32)) % (6 : Int32))), .unset, .unset] [(.int ((p0 &&& (2147483647 : Int32)) % (6 : Int32)))])) _
            refine XS.iconst X0.here hx rfl (hb hby at_64) ?_
            show Steps p.tables e below (s₁.setTop (mkF m 65 #[.val (.int p0), .val (.int ((p0 &&& (2147483647 : Int32)) % (6 : Int32))), .unset, .unset] [(.int (4 : Int32)), (.int ((p0 &&& (2147483647 : Int32)) % (6 : Int32)))])) _
            exact kt)
          by_cases hc65 : ((p0 &&& (2147483647 : Int32)) % (6 : Int32)) = (4 : Int32)
          · obtain ⟨T14, X14, e14, st14⟩ := getS2 X0 hx hZ hown (host := "") (Or.inl (hw _ (List.mem_of_getElem? (i := 39) rfl))) Via.refl e0 (hS.2.2.2.2.2.2.2.2.2.2.2.2.2.2.2.2.2.2.2.2.2.2.2.2.2.2.2.2.2.1.ext O0.2) (g := (mkF m 68 #[.val (.int p0), .val (.int ((p0 &&& (2147483647 : Int32)) % (6 : Int32))), .unset, .unset] [])) rfl (hb hby at_68)
            obtain ⟨_, _, ⟨T15, L15, k15, n15⟩, -, X15, ⟨Lc15, hQ15, l15, y15, z15⟩, st15⟩ := Jvm.LawKit.callS X14 hx (y := (⟨"com/example/demarc/demarc/Placement", "alwaysInTransaction", "(Lcom/example/demarc/demarc/TransactionAttributeType;)Z"⟩ : MethodName)) hown (mvT hZ (hw _ (List.mem_of_getElem? (i := 4) rfl))) (mvT hZ (hw _ (List.mem_of_getElem? (i := 5) rfl))) (mvT hZ (hw _ (List.mem_of_getElem? (i := 6) rfl))) (mvT hZ (hw _ (List.mem_of_getElem? (i := 7) rfl))) (by decide) (backOf (W := 0) (rm_alw_SUPPORTS l Z a0 hw [] a_REQUIRED a__SwitchMap_com_example_demarc_demarc_TransactionAttributeType a_JOIN a_NONE a_NEW a_NOT_SUPPORTED a_MANDATORY a_REFUSED a_REQUIRES_NEW a_NEVER a_SUPPORTS k_a__SwitchMap_com_example_demarc_demarc_TransactionAttributeType hS h0 n0 O0) hZ (hw _ (List.mem_of_getElem? (i := 7) rfl)) (hw _ (List.mem_of_getElem? (i := 6) rfl)) (by decide) (by decide)) (g := (mkF m 84 #[.val (.int p0), .val (.int ((p0 &&& (2147483647 : Int32)) % (6 : Int32))), .val (.ref a_SUPPORTS), .val (.int (0 : Int32))] [(.ref a_SUPPORTS)])) rfl (by rw [hml]; rfl) (argsL := [(.ref a_SUPPORTS)]) (rest := []) (lenOf pd_2 rfl) rfl (by show 2 * 0 + _ ≤ _; exact Nat.le_of_eq rfl) (hb hby at_84) (fun _ _ => ⟨rfl, e14, (by decide : 0 + 0 ≤ _), (by decide : 0 + 0 ≤ _)⟩)
            dsimp only [Pt.U, Pt.locs, Pt.cells, Pt.slots] at X15 l15 y15 z15 st15 hQ15
            subst l15 y15 z15
            obtain ⟨rfl, N15q, e15⟩ := hQ15
            have N15 := Fr.app N0 N15q
            obtain ⟨fs, hr, hrun, hended, hW, hsame⟩ := X15.leave (v := (some (.int (1 : Int32)))) (fun h => by rw [Bd.returns] at h; cases h)
            refine ⟨_, _, p13 _ ?_, hrun, hended, _, _, rfl, ?_, ⟨_, rfl⟩, hW, hsame.mono (by decide) (by decide)⟩
            · refine XS.icmpNo X0.here hx rfl (hb hby at_65) rfl (teq hc65).2 ?_
              show Steps p.tables e below (s₁.setTop (mkF m 68 #[.val (.int p0), .val (.int ((p0 &&& (2147483647 : Int32)) % (6 : Int32))), .unset, .unset] [])) _
              refine st14 _ ?_
              show Steps p.tables e below (T14.setTop (mkF m 71 #[.val (.int p0), .val (.int ((p0 &&& (2147483647 : Int32)) % (6 : Int32))), .unset, .unset] [(.ref a_SUPPORTS)])) _
              refine XS.astoreN X14.here hx rfl (hb hby at_71) rfl rfl (l' := #[.val (.int p0), .val (.int ((p0 &&& (2147483647 : Int32)) % (6 : Int32))), .val (.ref a_SUPPORTS), .unset]) rfl ?_
              show Steps p.tables e below (T14.setTop (mkF m 72 #[.val (.int p0), .val (.int ((p0 &&& (2147483647 : Int32)) % (6 : Int32))), .val (.ref a_SUPPORTS), .unset] [])) _
              refine XS.iconst X14.here hx rfl (hb hby at_72) ?_
              show Steps p.tables e below (T14.setTop (mkF m 73 #[.val (.int p0), .val (.int ((p0 &&& (2147483647 : Int32)) % (6 : Int32))), .val (.ref a_SUPPORTS), .unset] [(.int (0 : Int32))])) _
              refine XS.istoreN X14.here hx rfl (hb hby at_73) rfl (l' := #[.val (.int p0), .val (.int ((p0 &&& (2147483647 : Int32)) % (6 : Int32))), .val (.ref a_SUPPORTS), .val (.int (0 : Int32))]) rfl ?_
              show Steps p.tables e below (T14.setTop (mkF m 74 #[.val (.int p0), .val (.int ((p0 &&& (2147483647 : Int32)) % (6 : Int32))), .val (.ref a_SUPPORTS), .val (.int (0 : Int32))] [])) _
              refine XS.goto X14.here hx rfl (pc0 := 74) (pc' := 83) rfl (hb hby at_74) (by decide) (by decide) ?_
              show Steps p.tables e below (T14.setTop (mkF m 83 #[.val (.int p0), .val (.int ((p0 &&& (2147483647 : Int32)) % (6 : Int32))), .val (.ref a_SUPPORTS), .val (.int (0 : Int32))] [])) _
              refine XS.aloadN X14.here hx rfl (hb hby at_83) rfl rfl ?_
              show Steps p.tables e below (T14.setTop (mkF m 84 #[.val (.int p0), .val (.int ((p0 &&& (2147483647 : Int32)) % (6 : Int32))), .val (.ref a_SUPPORTS), .val (.int (0 : Int32))] [(.ref a_SUPPORTS)])) _
              refine st15 _ ?_
              show Steps p.tables e below (T15.setTop (mkF m 87 #[.val (.int p0), .val (.int ((p0 &&& (2147483647 : Int32)) % (6 : Int32))), .val (.ref a_SUPPORTS), .val (.int (0 : Int32))] [(.int (0 : Int32))])) _
              refine XS.iloadN X15.here hx rfl (hb hby at_87) rfl ?_
              show Steps p.tables e below (T15.setTop (mkF m 88 #[.val (.int p0), .val (.int ((p0 &&& (2147483647 : Int32)) % (6 : Int32))), .val (.ref a_SUPPORTS), .val (.int (0 : Int32))] [(.int (0 : Int32)), (.int (0 : Int32))])) _
              refine XS.icmpNo X15.here hx rfl (hb hby at_88) rfl (teq (by decide : (0 : Int32) = (0 : Int32))).2 ?_
              show Steps p.tables e below (T15.setTop (mkF m 91 #[.val (.int p0), .val (.int ((p0 &&& (2147483647 : Int32)) % (6 : Int32))), .val (.ref a_SUPPORTS), .val (.int (0 : Int32))] [])) _
              refine XS.iconst X15.here hx rfl (hb hby at_91) ?_
              show Steps p.tables e below (T15.setTop (mkF m 92 #[.val (.int p0), .val (.int ((p0 &&& (2147483647 : Int32)) % (6 : Int32))), .val (.ref a_SUPPORTS), .val (.int (0 : Int32))] [(.int (1 : Int32))])) _
              refine XS.goto X15.here hx rfl (pc0 := 92) (pc' := 96) rfl (hb hby at_92) (by decide) (by decide) ?_
              show Steps p.tables e below (T15.setTop (mkF m 96 #[.val (.int p0), .val (.int ((p0 &&& (2147483647 : Int32)) % (6 : Int32))), .val (.ref a_SUPPORTS), .val (.int (0 : Int32))] [(.int (1 : Int32))])) _
              exact retN X15 hx (t := .boolean) Bd.returns (by simp) (hb hby at_96) hr
            · show Q0 n0 _ T15.heap _
              rw [e15]
              exact ⟨rfl, N15⟩
          · obtain ⟨T16, X16, e16, st16⟩ := getS2 X0 hx hZ hown (host := "") (Or.inl (hw _ (List.mem_of_getElem? (i := 37) rfl))) Via.refl e0 (hS.2.2.2.2.2.2.2.2.2.2.2.2.2.2.2.2.2.2.2.2.2.2.2.2.2.2.1.ext O0.2) (g := (mkF m 77 #[.val (.int p0), .val (.int ((p0 &&& (2147483647 : Int32)) % (6 : Int32))), .unset, .unset] [])) rfl (hb hby at_77)
            obtain ⟨_, _, ⟨T17, L17, k17, n17⟩, -, X17, ⟨Lc17, hQ17, l17, y17, z17⟩, st17⟩ := Jvm.LawKit.callS X16 hx (y := (⟨"com/example/demarc/demarc/Placement", "alwaysInTransaction", "(Lcom/example/demarc/demarc/TransactionAttributeType;)Z"⟩ : MethodName)) hown (mvT hZ (hw _ (List.mem_of_getElem? (i := 4) rfl))) (mvT hZ (hw _ (List.mem_of_getElem? (i := 5) rfl))) (mvT hZ (hw _ (List.mem_of_getElem? (i := 6) rfl))) (mvT hZ (hw _ (List.mem_of_getElem? (i := 7) rfl))) (by decide) (backOf (W := 0) (rm_alw_NEVER l Z a0 hw [] a_REQUIRED a__SwitchMap_com_example_demarc_demarc_TransactionAttributeType a_JOIN a_NONE a_NEW a_NOT_SUPPORTED a_MANDATORY a_REFUSED a_REQUIRES_NEW a_NEVER a_SUPPORTS k_a__SwitchMap_com_example_demarc_demarc_TransactionAttributeType hS h0 n0 O0) hZ (hw _ (List.mem_of_getElem? (i := 7) rfl)) (hw _ (List.mem_of_getElem? (i := 6) rfl)) (by decide) (by decide)) (g := (mkF m 84 #[.val (.int p0), .val (.int ((p0 &&& (2147483647 : Int32)) % (6 : Int32))), .val (.ref a_NEVER), .val (.int (0 : Int32))] [(.ref a_NEVER)])) rfl (by rw [hml]; rfl) (argsL := [(.ref a_NEVER)]) (rest := []) (lenOf pd_2 rfl) rfl (by show 2 * 0 + _ ≤ _; exact Nat.le_of_eq rfl) (hb hby at_84) (fun _ _ => ⟨rfl, e16, (by decide : 0 + 0 ≤ _), (by decide : 0 + 0 ≤ _)⟩)
            dsimp only [Pt.U, Pt.locs, Pt.cells, Pt.slots] at X17 l17 y17 z17 st17 hQ17
            subst l17 y17 z17
            obtain ⟨rfl, N17q, e17⟩ := hQ17
            have N17 := Fr.app N0 N17q
            obtain ⟨fs, hr, hrun, hended, hW, hsame⟩ := X17.leave (v := (some (.int (1 : Int32)))) (fun h => by rw [Bd.returns] at h; cases h)
            refine ⟨_, _, p13 _ ?_, hrun, hended, _, _, rfl, ?_, ⟨_, rfl⟩, hW, hsame.mono (by decide) (by decide)⟩
            · refine XS.icmpYes X0.here hx rfl (pc0 := 65) (pc' := 77) rfl (hb hby at_65) rfl (feq hc65).2 (by decide) (by decide) ?_
              show Steps p.tables e below (s₁.setTop (mkF m 77 #[.val (.int p0), .val (.int ((p0 &&& (2147483647 : Int32)) % (6 : Int32))), .unset, .unset] [])) _
              refine st16 _ ?_
              show Steps p.tables e below (T16.setTop (mkF m 80 #[.val (.int p0), .val (.int ((p0 &&& (2147483647 : Int32)) % (6 : Int32))), .unset, .unset] [(.ref a_NEVER)])) _
              refine XS.astoreN X16.here hx rfl (hb hby at_80) rfl rfl (l' := #[.val (.int p0), .val (.int ((p0 &&& (2147483647 : Int32)) % (6 : Int32))), .val (.ref a_NEVER), .unset]) rfl ?_
              show Steps p.tables e below (T16.setTop (mkF m 81 #[.val (.int p0), .val (.int ((p0 &&& (2147483647 : Int32)) % (6 : Int32))), .val (.ref a_NEVER), .unset] [])) _
              refine XS.iconst X16.here hx rfl (hb hby at_81) ?_
              show Steps p.tables e below (T16.setTop (mkF m 82 #[.val (.int p0), .val (.int ((p0 &&& (2147483647 : Int32)) % (6 : Int32))), .val (.ref a_NEVER), .unset] [(.int (0 : Int32))])) _
              refine XS.istoreN X16.here hx rfl (hb hby at_82) rfl (l' := #[.val (.int p0), .val (.int ((p0 &&& (2147483647 : Int32)) % (6 : Int32))), .val (.ref a_NEVER), .val (.int (0 : Int32))]) rfl ?_
              show Steps p.tables e below (T16.setTop (mkF m 83 #[.val (.int p0), .val (.int ((p0 &&& (2147483647 : Int32)) % (6 : Int32))), .val (.ref a_NEVER), .val (.int (0 : Int32))] [])) _
              refine XS.aloadN X16.here hx rfl (hb hby at_83) rfl rfl ?_
              show Steps p.tables e below (T16.setTop (mkF m 84 #[.val (.int p0), .val (.int ((p0 &&& (2147483647 : Int32)) % (6 : Int32))), .val (.ref a_NEVER), .val (.int (0 : Int32))] [(.ref a_NEVER)])) _
              refine st17 _ ?_
              show Steps p.tables e below (T17.setTop (mkF m 87 #[.val (.int p0), .val (.int ((p0 &&& (2147483647 : Int32)) % (6 : Int32))), .val (.ref a_NEVER), .val (.int (0 : Int32))] [(.int (0 : Int32))])) _
              refine XS.iloadN X17.here hx rfl (hb hby at_87) rfl ?_
              show Steps p.tables e below (T17.setTop (mkF m 88 #[.val (.int p0), .val (.int ((p0 &&& (2147483647 : Int32)) % (6 : Int32))), .val (.ref a_NEVER), .val (.int (0 : Int32))] [(.int (0 : Int32)), (.int (0 : Int32))])) _
              refine XS.icmpNo X17.here hx rfl (hb hby at_88) rfl (teq (by decide : (0 : Int32) = (0 : Int32))).2 ?_
              show Steps p.tables e below (T17.setTop (mkF m 91 #[.val (.int p0), .val (.int ((p0 &&& (2147483647 : Int32)) % (6 : Int32))), .val (.ref a_NEVER), .val (.int (0 : Int32))] [])) _
              refine XS.iconst X17.here hx rfl (hb hby at_91) ?_
              show Steps p.tables e below (T17.setTop (mkF m 92 #[.val (.int p0), .val (.int ((p0 &&& (2147483647 : Int32)) % (6 : Int32))), .val (.ref a_NEVER), .val (.int (0 : Int32))] [(.int (1 : Int32))])) _
              refine XS.goto X17.here hx rfl (pc0 := 92) (pc' := 96) rfl (hb hby at_92) (by decide) (by decide) ?_
              show Steps p.tables e below (T17.setTop (mkF m 96 #[.val (.int p0), .val (.int ((p0 &&& (2147483647 : Int32)) % (6 : Int32))), .val (.ref a_NEVER), .val (.int (0 : Int32))] [(.int (1 : Int32))])) _
              exact retN X17 hx (t := .boolean) Bd.returns (by simp) (hb hby at_96) hr
            · show Q0 n0 _ T17.heap _
              rw [e17]
              exact ⟨rfl, N17⟩
set_option maxRecDepth 65536 in
set_option maxHeartbeats 40000000 in
theorem comes_1 {Post : Tables → Env → Array Value → State → Outcome → State → Prop} (hpost : ∀ tb e args s v u, (limb_1_1.after args s (.returned v) u = true ∧ limb_1_2.after args s (.returned v) u = true ∧ True) → FrameEnd s (.returned v) u (Jvm.fieldLocs frame_1_writes args s ++ Jvm.arrayLocs frame_1_arrays args s ++ Jvm.staticLocs frame_1_statics s) 0 0 → Post tb e args s (.returned v) u) :
    ArmFor flags0 classFile x code maxLocals ret World_1 tables_1 room_1 Calls_1 rest_1 Pre_1 Post := by
  intro l hfl _ _ p e ha hc hk s m args below hf hA hF happ hP
  obtain ⟨hcalls, hrest, hpre⟩ := hP
  obtain ⟨-, -, -, hnamed, -, -, -, hat⟩ := (Spec.applies_iff hf).mp happ
  obtain ⟨hg, hn⟩ := and_e (Cond.before_iff.mp (show (Jvm.Cond.and given_1 narrow_1).before args s = true from hpre))
  obtain ⟨g0, r0⟩ := and_e hg
  obtain ⟨w0, rfl⟩ : ∃ w0 : Value, args = #[w0] := by
    have hs : args.size = 1 := by simpa [Cond.value, given_1] using g0
    obtain ⟨L⟩ := args
    match L, hs with
    | [w0], _ => exact ⟨w0, rfl⟩
  have hw := fun d (hd : d ∈ tables_1) => atoms_spec (ws := Jvm.Cond.code x code maxLocals ret :: tables_1) hat d (List.mem_cons_of_mem _ hd)
  have hfit : Fit s := fun {y c} hc i hi => by
    obtain ⟨ha, rfl⟩ := Array.getElem?_eq_some_iff.mp hc
    have q := List.all_eq_true.mp ((Array.all_eq_true_iff_forall_mem.mp hF) _ (Array.getElem_mem ha)) i (List.mem_range.mpr hi)
    simpa [Array.getElem?_eq_getElem hi] using q
  obtain ⟨i0, ei0⟩ := is_v r0
  obtain rfl : w0 = (.int i0) := Option.some.inj ei0
  obtain ⟨n0, m0⟩ := and_e hn
  obtain ⟨n1, m1⟩ := and_e m0
  obtain ⟨n2, m2⟩ := and_e m1
  obtain ⟨n3, m3⟩ := and_e m2
  obtain ⟨n4, m4⟩ := and_e m3
  obtain ⟨n5, m5⟩ := and_e m4
  obtain ⟨n6, m6⟩ := and_e m5
  obtain ⟨n7, m7⟩ := and_e m6
  obtain ⟨n8, m8⟩ := and_e m7
  obtain ⟨n9, m9⟩ := and_e m8
  obtain ⟨n10, m10⟩ := and_e m9
  obtain ⟨n11, m11⟩ := and_e m10
  obtain ⟨n12, m12⟩ := and_e m11
  obtain ⟨n13, m13⟩ := and_e m12
  obtain ⟨n14, m14⟩ := and_e m13
  obtain ⟨n15, m15⟩ := and_e m14
  obtain ⟨n16, m16⟩ := and_e m15
  obtain ⟨n17, m17⟩ := and_e m16
  obtain ⟨n18, m18⟩ := and_e m17
  obtain ⟨n19, m19⟩ := and_e m18
  obtain ⟨n20, m20⟩ := and_e m19
  obtain ⟨n21, m21⟩ := and_e m20
  obtain ⟨n22, m22⟩ := and_e m21
  obtain ⟨n23, m23⟩ := and_e m22
  obtain ⟨n24, m24⟩ := and_e m23
  obtain ⟨n25, m25⟩ := and_e m24
  obtain ⟨n26, m26⟩ := and_e m25
  obtain ⟨a_REQUIRED, ev_a_REQUIRED⟩ := exa_v n0
  have E_a_REQUIRED : Exa s s.heap a_REQUIRED "com/example/demarc/demarc/TransactionAttributeType" := Exa.start ev_a_REQUIRED n0
  have S_a_REQUIRED : Sta s s.heap "com/example/demarc/demarc/TransactionAttributeType" "REQUIRED" "Lcom/example/demarc/demarc/TransactionAttributeType;" (.ref a_REQUIRED) := Sta.start ev_a_REQUIRED (Or.inr ⟨(hw _ (List.mem_of_getElem? (i := 2) rfl)), (hw _ (List.mem_of_getElem? (i := 3) rfl))⟩)
  obtain ⟨a__SwitchMap_com_example_demarc_demarc_TransactionAttributeType, ev_a__SwitchMap_com_example_demarc_demarc_TransactionAttributeType⟩ := arr_v n1
  obtain ⟨c_a__SwitchMap_com_example_demarc_demarc_TransactionAttributeType, A_a__SwitchMap_com_example_demarc_demarc_TransactionAttributeType⟩ := Arr.start ev_a__SwitchMap_com_example_demarc_demarc_TransactionAttributeType n1
  have S_a__SwitchMap_com_example_demarc_demarc_TransactionAttributeType : Sta s s.heap "com/example/demarc/demarc/Placement$1" "$SwitchMap$com$example$demarc$demarc$TransactionAttributeType" "[I" (.ref a__SwitchMap_com_example_demarc_demarc_TransactionAttributeType) := Sta.start ev_a__SwitchMap_com_example_demarc_demarc_TransactionAttributeType (Or.inr ⟨(hw _ (List.mem_of_getElem? (i := 12) rfl)), (hw _ (List.mem_of_getElem? (i := 13) rfl))⟩)
  have ar_a__SwitchMap_com_example_demarc_demarc_TransactionAttributeType := A_a__SwitchMap_com_example_demarc_demarc_TransactionAttributeType.fin (Vm.Alike.refl s.vm)
  have le_a__SwitchMap_com_example_demarc_demarc_TransactionAttributeType := Cond.eq_int (Cond.before_iff.mpr n2) (Term.int_eval (6 : Int32))
  have lt_a__SwitchMap_com_example_demarc_demarc_TransactionAttributeType := SBG.length_lt ev_a__SwitchMap_com_example_demarc_demarc_TransactionAttributeType ar_a__SwitchMap_com_example_demarc_demarc_TransactionAttributeType le_a__SwitchMap_com_example_demarc_demarc_TransactionAttributeType
  have sz_a__SwitchMap_com_example_demarc_demarc_TransactionAttributeType : c_a__SwitchMap_com_example_demarc_demarc_TransactionAttributeType.slots.size.toInt32 = (6 : Int32) := Value.int.inj (Option.some.inj ((len_f ev_a__SwitchMap_com_example_demarc_demarc_TransactionAttributeType ar_a__SwitchMap_com_example_demarc_demarc_TransactionAttributeType lt_a__SwitchMap_com_example_demarc_demarc_TransactionAttributeType).symm.trans le_a__SwitchMap_com_example_demarc_demarc_TransactionAttributeType))
  have F_ordinal_a_REQUIRED : Fld s s.heap a_REQUIRED "java/lang/Enum" "ordinal" "I" (.int (0 : Int32)) := Fld.start ((fld_at ev_a_REQUIRED).symm.trans (Cond.eq_int (Cond.before_iff.mpr n3) rfl))
  obtain ⟨a_JOIN, ev_a_JOIN⟩ := exa_v n4
  have E_a_JOIN : Exa s s.heap a_JOIN "com/example/demarc/demarc/Placement" := Exa.start ev_a_JOIN n4
  have S_a_JOIN : Sta s s.heap "com/example/demarc/demarc/Placement" "JOIN" "Lcom/example/demarc/demarc/Placement;" (.ref a_JOIN) := Sta.start ev_a_JOIN (Or.inr ⟨(hw _ (List.mem_of_getElem? (i := 6) rfl)), (hw _ (List.mem_of_getElem? (i := 24) rfl))⟩)
  obtain ⟨a_NONE, ev_a_NONE⟩ := exa_v n5
  have E_a_NONE : Exa s s.heap a_NONE "com/example/demarc/demarc/Placement" := Exa.start ev_a_NONE n5
  have S_a_NONE : Sta s s.heap "com/example/demarc/demarc/Placement" "NONE" "Lcom/example/demarc/demarc/Placement;" (.ref a_NONE) := Sta.start ev_a_NONE (Or.inr ⟨(hw _ (List.mem_of_getElem? (i := 6) rfl)), (hw _ (List.mem_of_getElem? (i := 26) rfl))⟩)
  have F_ordinal_a_JOIN : Fld s s.heap a_JOIN "java/lang/Enum" "ordinal" "I" (.int (0 : Int32)) := Fld.start ((fld_at ev_a_JOIN).symm.trans (Cond.eq_int (Cond.before_iff.mpr n6) rfl))
  have F_ordinal_a_NONE : Fld s s.heap a_NONE "java/lang/Enum" "ordinal" "I" (.int (2 : Int32)) := Fld.start ((fld_at ev_a_NONE).symm.trans (Cond.eq_int (Cond.before_iff.mpr n7) rfl))
  obtain ⟨a_NEW, ev_a_NEW⟩ := exa_v n8
  have E_a_NEW : Exa s s.heap a_NEW "com/example/demarc/demarc/Placement" := Exa.start ev_a_NEW n8
  have S_a_NEW : Sta s s.heap "com/example/demarc/demarc/Placement" "NEW" "Lcom/example/demarc/demarc/Placement;" (.ref a_NEW) := Sta.start ev_a_NEW (Or.inr ⟨(hw _ (List.mem_of_getElem? (i := 6) rfl)), (hw _ (List.mem_of_getElem? (i := 28) rfl))⟩)
  have F_ordinal_a_NEW : Fld s s.heap a_NEW "java/lang/Enum" "ordinal" "I" (.int (1 : Int32)) := Fld.start ((fld_at ev_a_NEW).symm.trans (Cond.eq_int (Cond.before_iff.mpr n9) rfl))
  obtain ⟨a_NOT_SUPPORTED, ev_a_NOT_SUPPORTED⟩ := exa_v n10
  have E_a_NOT_SUPPORTED : Exa s s.heap a_NOT_SUPPORTED "com/example/demarc/demarc/TransactionAttributeType" := Exa.start ev_a_NOT_SUPPORTED n10
  have S_a_NOT_SUPPORTED : Sta s s.heap "com/example/demarc/demarc/TransactionAttributeType" "NOT_SUPPORTED" "Lcom/example/demarc/demarc/TransactionAttributeType;" (.ref a_NOT_SUPPORTED) := Sta.start ev_a_NOT_SUPPORTED (Or.inr ⟨(hw _ (List.mem_of_getElem? (i := 2) rfl)), (hw _ (List.mem_of_getElem? (i := 30) rfl))⟩)
  have F_ordinal_a_NOT_SUPPORTED : Fld s s.heap a_NOT_SUPPORTED "java/lang/Enum" "ordinal" "I" (.int (3 : Int32)) := Fld.start ((fld_at ev_a_NOT_SUPPORTED).symm.trans (Cond.eq_int (Cond.before_iff.mpr n11) rfl))
  obtain ⟨a_MANDATORY, ev_a_MANDATORY⟩ := exa_v n12
  have E_a_MANDATORY : Exa s s.heap a_MANDATORY "com/example/demarc/demarc/TransactionAttributeType" := Exa.start ev_a_MANDATORY n12
  have S_a_MANDATORY : Sta s s.heap "com/example/demarc/demarc/TransactionAttributeType" "MANDATORY" "Lcom/example/demarc/demarc/TransactionAttributeType;" (.ref a_MANDATORY) := Sta.start ev_a_MANDATORY (Or.inr ⟨(hw _ (List.mem_of_getElem? (i := 2) rfl)), (hw _ (List.mem_of_getElem? (i := 32) rfl))⟩)
  have F_ordinal_a_MANDATORY : Fld s s.heap a_MANDATORY "java/lang/Enum" "ordinal" "I" (.int (2 : Int32)) := Fld.start ((fld_at ev_a_MANDATORY).symm.trans (Cond.eq_int (Cond.before_iff.mpr n13) rfl))
  obtain ⟨a_REFUSED, ev_a_REFUSED⟩ := exa_v n14
  have E_a_REFUSED : Exa s s.heap a_REFUSED "com/example/demarc/demarc/Placement" := Exa.start ev_a_REFUSED n14
  have S_a_REFUSED : Sta s s.heap "com/example/demarc/demarc/Placement" "REFUSED" "Lcom/example/demarc/demarc/Placement;" (.ref a_REFUSED) := Sta.start ev_a_REFUSED (Or.inr ⟨(hw _ (List.mem_of_getElem? (i := 6) rfl)), (hw _ (List.mem_of_getElem? (i := 34) rfl))⟩)
  have F_ordinal_a_REFUSED : Fld s s.heap a_REFUSED "java/lang/Enum" "ordinal" "I" (.int (3 : Int32)) := Fld.start ((fld_at ev_a_REFUSED).symm.trans (Cond.eq_int (Cond.before_iff.mpr n15) rfl))
  obtain ⟨a_REQUIRES_NEW, ev_a_REQUIRES_NEW⟩ := exa_v n16
  have E_a_REQUIRES_NEW : Exa s s.heap a_REQUIRES_NEW "com/example/demarc/demarc/TransactionAttributeType" := Exa.start ev_a_REQUIRES_NEW n16
  have S_a_REQUIRES_NEW : Sta s s.heap "com/example/demarc/demarc/TransactionAttributeType" "REQUIRES_NEW" "Lcom/example/demarc/demarc/TransactionAttributeType;" (.ref a_REQUIRES_NEW) := Sta.start ev_a_REQUIRES_NEW (Or.inr ⟨(hw _ (List.mem_of_getElem? (i := 2) rfl)), (hw _ (List.mem_of_getElem? (i := 36) rfl))⟩)
  have F_ordinal_a_REQUIRES_NEW : Fld s s.heap a_REQUIRES_NEW "java/lang/Enum" "ordinal" "I" (.int (1 : Int32)) := Fld.start ((fld_at ev_a_REQUIRES_NEW).symm.trans (Cond.eq_int (Cond.before_iff.mpr n17) rfl))
  obtain ⟨a_NEVER, ev_a_NEVER⟩ := exa_v n18
  have E_a_NEVER : Exa s s.heap a_NEVER "com/example/demarc/demarc/TransactionAttributeType" := Exa.start ev_a_NEVER n18
  have S_a_NEVER : Sta s s.heap "com/example/demarc/demarc/TransactionAttributeType" "NEVER" "Lcom/example/demarc/demarc/TransactionAttributeType;" (.ref a_NEVER) := Sta.start ev_a_NEVER (Or.inr ⟨(hw _ (List.mem_of_getElem? (i := 2) rfl)), (hw _ (List.mem_of_getElem? (i := 38) rfl))⟩)
  have F_ordinal_a_NEVER : Fld s s.heap a_NEVER "java/lang/Enum" "ordinal" "I" (.int (5 : Int32)) := Fld.start ((fld_at ev_a_NEVER).symm.trans (Cond.eq_int (Cond.before_iff.mpr n19) rfl))
  obtain ⟨a_SUPPORTS, ev_a_SUPPORTS⟩ := exa_v n20
  have E_a_SUPPORTS : Exa s s.heap a_SUPPORTS "com/example/demarc/demarc/TransactionAttributeType" := Exa.start ev_a_SUPPORTS n20
  have S_a_SUPPORTS : Sta s s.heap "com/example/demarc/demarc/TransactionAttributeType" "SUPPORTS" "Lcom/example/demarc/demarc/TransactionAttributeType;" (.ref a_SUPPORTS) := Sta.start ev_a_SUPPORTS (Or.inr ⟨(hw _ (List.mem_of_getElem? (i := 2) rfl)), (hw _ (List.mem_of_getElem? (i := 40) rfl))⟩)
  have F_ordinal_a_SUPPORTS : Fld s s.heap a_SUPPORTS "java/lang/Enum" "ordinal" "I" (.int (4 : Int32)) := Fld.start ((fld_at ev_a_SUPPORTS).symm.trans (Cond.eq_int (Cond.before_iff.mpr n21) rfl))
  have el_a__SwitchMap_com_example_demarc_demarc_TransactionAttributeType_0 : c_a__SwitchMap_com_example_demarc_demarc_TransactionAttributeType.slots[0]? = some (.int (1 : Int32)) := (elem_in (Cond.eq_int (Cond.before_iff.mpr n22) (Term.int_eval (1 : Int32))) ev_a__SwitchMap_com_example_demarc_demarc_TransactionAttributeType (Term.int_eval (0 : Int32)) A_a__SwitchMap_com_example_demarc_demarc_TransactionAttributeType.1).2
  have el_a__SwitchMap_com_example_demarc_demarc_TransactionAttributeType_1 : c_a__SwitchMap_com_example_demarc_demarc_TransactionAttributeType.slots[1]? = some (.int (4 : Int32)) := (elem_in (Cond.eq_int (Cond.before_iff.mpr n23) (Term.int_eval (4 : Int32))) ev_a__SwitchMap_com_example_demarc_demarc_TransactionAttributeType (Term.int_eval (1 : Int32)) A_a__SwitchMap_com_example_demarc_demarc_TransactionAttributeType.1).2
  have el_a__SwitchMap_com_example_demarc_demarc_TransactionAttributeType_2 : c_a__SwitchMap_com_example_demarc_demarc_TransactionAttributeType.slots[2]? = some (.int (2 : Int32)) := (elem_in (Cond.eq_int (Cond.before_iff.mpr n24) (Term.int_eval (2 : Int32))) ev_a__SwitchMap_com_example_demarc_demarc_TransactionAttributeType (Term.int_eval (2 : Int32)) A_a__SwitchMap_com_example_demarc_demarc_TransactionAttributeType.1).2
  have el_a__SwitchMap_com_example_demarc_demarc_TransactionAttributeType_3 : c_a__SwitchMap_com_example_demarc_demarc_TransactionAttributeType.slots[3]? = some (.int (5 : Int32)) := (elem_in (Cond.eq_int (Cond.before_iff.mpr n25) (Term.int_eval (5 : Int32))) ev_a__SwitchMap_com_example_demarc_demarc_TransactionAttributeType (Term.int_eval (3 : Int32)) A_a__SwitchMap_com_example_demarc_demarc_TransactionAttributeType.1).2
  have el_a__SwitchMap_com_example_demarc_demarc_TransactionAttributeType_4 : c_a__SwitchMap_com_example_demarc_demarc_TransactionAttributeType.slots[4]? = some (.int (3 : Int32)) := (elem_in (Cond.eq_int (Cond.before_iff.mpr n26) (Term.int_eval (3 : Int32))) ev_a__SwitchMap_com_example_demarc_demarc_TransactionAttributeType (Term.int_eval (4 : Int32)) A_a__SwitchMap_com_example_demarc_demarc_TransactionAttributeType.1).2
  have el_a__SwitchMap_com_example_demarc_demarc_TransactionAttributeType_5 : c_a__SwitchMap_com_example_demarc_demarc_TransactionAttributeType.slots[5]? = some (.int (6 : Int32)) := (elem_in (Cond.eq_int (Cond.before_iff.mpr m26) (Term.int_eval (6 : Int32))) ev_a__SwitchMap_com_example_demarc_demarc_TransactionAttributeType (Term.int_eval (5 : Int32)) A_a__SwitchMap_com_example_demarc_demarc_TransactionAttributeType.1).2
  have V_a__SwitchMap_com_example_demarc_demarc_TransactionAttributeType : Arv s s.heap a__SwitchMap_com_example_demarc_demarc_TransactionAttributeType c_a__SwitchMap_com_example_demarc_demarc_TransactionAttributeType.cls .int (6 : Int32) [(.int (1 : Int32)), (.int (4 : Int32)), (.int (2 : Int32)), (.int (5 : Int32)), (.int (3 : Int32)), (.int (6 : Int32))] (.int (0 : Int32)) := Arv.start hfit A_a__SwitchMap_com_example_demarc_demarc_TransactionAttributeType lt_a__SwitchMap_com_example_demarc_demarc_TransactionAttributeType sz_a__SwitchMap_com_example_demarc_demarc_TransactionAttributeType (by decide) rfl ⟨el_a__SwitchMap_com_example_demarc_demarc_TransactionAttributeType_0, el_a__SwitchMap_com_example_demarc_demarc_TransactionAttributeType_1, el_a__SwitchMap_com_example_demarc_demarc_TransactionAttributeType_2, el_a__SwitchMap_com_example_demarc_demarc_TransactionAttributeType_3, el_a__SwitchMap_com_example_demarc_demarc_TransactionAttributeType_4, el_a__SwitchMap_com_example_demarc_demarc_TransactionAttributeType_5, trivial⟩
  obtain ⟨n, o, h1, h2, h3, _, L, rfl, ⟨rfl, N⟩, hq⟩ := rm0 l s _ hw tables_1 a_REQUIRED a__SwitchMap_com_example_demarc_demarc_TransactionAttributeType a_JOIN a_NONE a_NEW a_NOT_SUPPORTED a_MANDATORY a_REFUSED a_REQUIRES_NEW a_NEVER a_SUPPORTS c_a__SwitchMap_com_example_demarc_demarc_TransactionAttributeType.cls ⟨E_a_REQUIRED, S_a_REQUIRED, S_a__SwitchMap_com_example_demarc_demarc_TransactionAttributeType, F_ordinal_a_REQUIRED, E_a_JOIN, S_a_JOIN, E_a_NONE, S_a_NONE, F_ordinal_a_JOIN, F_ordinal_a_NONE, E_a_NEW, S_a_NEW, F_ordinal_a_NEW, E_a_NOT_SUPPORTED, S_a_NOT_SUPPORTED, F_ordinal_a_NOT_SUPPORTED, E_a_MANDATORY, S_a_MANDATORY, F_ordinal_a_MANDATORY, E_a_REFUSED, S_a_REFUSED, F_ordinal_a_REFUSED, E_a_REQUIRES_NEW, S_a_REQUIRES_NEW, F_ordinal_a_REQUIRES_NEW, E_a_NEVER, S_a_NEVER, F_ordinal_a_NEVER, E_a_SUPPORTS, S_a_SUPPORTS, F_ordinal_a_SUPPORTS, V_a__SwitchMap_com_example_demarc_demarc_TransactionAttributeType⟩ i0 s.heap s.heap.size (Old.start s) p e ha hc hk s m _ below hf ((Spec.applies_iff_loose hf).mp happ).1 ⟨rfl, State.Warmed39.refl s, rfl⟩ trivial
  refine ⟨n, _, h1, h2, h3, hpost _ _ _ _ _ _ ⟨Cond.after_iff.mpr rfl, Cond.after_iff.mpr (eq_i res_at (Term.int_eval (1)) rfl), trivial⟩ ⟨hq.1, hq.2.1, (hq.2.2.sift fun y hy => Or.inr (N y hy)).mono (by decide) (by decide)⟩⟩
theorem main_1_1 : Claimed_1_1 := comes_1 fun _ _ _ _ _ _ h hF => ⟨h.1, hF⟩
theorem main_1_2 : Claimed_1_2 := comes_1 fun _ _ _ _ _ _ h hF => ⟨h.2.1, hF⟩
end Jvm.Pilot.@@N@@
-- the witness, by the kit's program
namespace Jvm.Pilot.@@N@@
open Jvm Jvm.ClassFile Sem Op Lib Jvm.Free Jvm.Stand Jvm.Pilot.@@N@@.Jvm.D
/-! MADE BY PROGRAM (witnessworld.py) out of the Statement's table words and the real class files: 14 classes; the members and pool entries that the words name. The judged class is class 1, her method 1. -/
namespace start1
open Jvm.ClassFile
def u (s : String) : CpInfo := .utf8 (stringToUtf16 s)
/-- a pool by its gaps: so many unusable entries, then the entry; so many at the end -/
def gap : Nat → List CpInfo → List CpInfo
  | 0, r => r
  | n + 1, r => .unusable :: gap n r
def poolList (es : List (Nat × CpInfo)) (last : Nat) : List CpInfo := es.foldr (fun e r => gap e.1 (e.2 :: r)) (gap last [])
def pool (es : List (Nat × CpInfo)) (last : Nat) : Array CpInfo := ⟨poolList es last⟩
def fileOf (pool : Array CpInfo) (this : Nat) (attrs : Array Attribute := #[]) (ms : Array MethodInfo := #[]) (fl : Nat := 33) (sup : Nat := 0) (ifs : Array Nat := #[]) (fds : Array FieldInfo := #[]) : ClassFile where
  minorVersion := 0
  majorVersion := 65
  constantPool := pool
  accessFlags := fl
  thisClass := this
  superClass := sup
  interfaces := ifs
  fields := fds
  methods := ms
  attributes := attrs
def plain (name : String) (sup : Option ClassId) : Class where
  name := name
  kind := .ordinary
  loader := none
  accessFlags := 33
  super := sup
  interfaces := #[]
  cf := none
  fields := #[]
  methods := #[]
  instanceTypes := #[]
  staticTypes := #[]
  resolved := #[]
  callSites := []
  init := .initialized
  statics := none
  mirror := none

def pool0 : Array CpInfo := pool [(5, u "<init>"), (0, u "()V"), (1, .class_ 10), (1, u "java/lang/Object")] 113

def k0m0 : Method := { name := "<init>", desc := "()V", sig := { parameters := [], returnType := none }, accessFlags := 1, code := none }
/-- java/lang/Object -/
def k0 : Class := { plain "java/lang/Object" none with
  accessFlags := 33
  interfaces := #[]
  cf := some (fileOf pool0 8 #[] #[{ accessFlags := 1, nameIndex := 5, descriptorIndex := 6, attributes := #[] }] 33 0 #[] #[])
  fields := #[]
  methods := #[k0m0]
  instanceTypes := #[]
  staticTypes := #[]
  resolved := Array.replicate 124 none
  statics := none }

def pool1 : Array CpInfo := pool [(2, .class_ 4), (1, u "java/lang/Object"), (0, u "<init>"), (0, u "()V"), (0, .integer 2147483647), (0, .fieldref 9 10), (0, .class_ 11), (0, .nameAndType 12 13), (0, u "com/example/demarc/demarc/TransactionAttributeType"), (0, u "REQUIRED"), (0, u "Lcom/example/demarc/demarc/TransactionAttributeType;"), (0, .fieldref 9 15), (0, .nameAndType 16 13), (0, u "REQUIRES_NEW"), (0, .fieldref 9 18), (0, .nameAndType 19 13), (0, u "MANDATORY"), (0, .fieldref 9 21), (0, .nameAndType 22 13), (0, u "NOT_SUPPORTED"), (0, .fieldref 9 24), (0, .nameAndType 25 13), (0, u "SUPPORTS"), (0, .fieldref 9 27), (0, .nameAndType 28 13), (0, u "NEVER"), (0, .methodref 30 31), (0, .class_ 32), (0, .nameAndType 33 34), (0, u "com/example/demarc/demarc/Placement"), (0, u "alwaysInTransaction"), (0, u "(Lcom/example/demarc/demarc/TransactionAttributeType;)Z"), (0, .class_ 36), (0, u "com/example/demarc/demarc/PlacementAlwaysInTransactionPinLaw"), (2, u "law"), (0, u "(I)Z")] 3

def k1m0 : Method := { name := "<init>", desc := "()V", sig := { parameters := [], returnType := none }, accessFlags := 2, code := none }
def k1c1 : Code := { maxStack := 2, maxLocals := 4, code := code, exceptionTable := #[], attributes := #[] }
def k1m1 : Method := { name := "law", desc := "(I)Z", sig := { parameters := [.int], returnType := some .boolean }, accessFlags := 9, code := some k1c1 }
/-- com/example/demarc/demarc/PlacementAlwaysInTransactionPinLaw -/
def k1 : Class := { plain "com/example/demarc/demarc/PlacementAlwaysInTransactionPinLaw" (some 0) with
  accessFlags := 49
  interfaces := #[]
  cf := some (fileOf pool1 35 #[] #[{ accessFlags := 2, nameIndex := 5, descriptorIndex := 6, attributes := #[] }, { accessFlags := 9, nameIndex := 39, descriptorIndex := 40, attributes := #[] }] 49 2 #[] #[])
  fields := #[]
  methods := #[k1m0, k1m1]
  instanceTypes := #[]
  staticTypes := #[]
  resolved := Array.replicate 44 none
  statics := none }

def pool2 : Array CpInfo := pool [(1, .class_ 2), (0, u "java/lang/constant/Constable"), (0, .class_ 4), (0, u "java/lang/Object")] 6

/-- java/lang/constant/Constable -/
def k2 : Class := { plain "java/lang/constant/Constable" (some 0) with
  accessFlags := 1537
  interfaces := #[]
  cf := some (fileOf pool2 1 #[] #[] 1537 3 #[] #[])
  fields := #[]
  methods := #[]
  instanceTypes := #[]
  staticTypes := #[]
  resolved := Array.replicate 11 none
  statics := none }

def pool3 : Array CpInfo := pool [(1, .class_ 2), (0, u "java/lang/Comparable"), (0, .class_ 4), (0, u "java/lang/Object")] 7

/-- java/lang/Comparable -/
def k3 : Class := { plain "java/lang/Comparable" (some 0) with
  accessFlags := 1537
  interfaces := #[]
  cf := some (fileOf pool3 1 #[] #[] 1537 3 #[] #[])
  fields := #[]
  methods := #[]
  instanceTypes := #[]
  staticTypes := #[]
  resolved := Array.replicate 12 none
  statics := none }

def pool4 : Array CpInfo := pool [(1, .class_ 2), (0, u "java/io/Serializable"), (0, .class_ 4), (0, u "java/lang/Object")] 2

/-- java/io/Serializable -/
def k4 : Class := { plain "java/io/Serializable" (some 0) with
  accessFlags := 1537
  interfaces := #[]
  cf := some (fileOf pool4 1 #[] #[] 1537 3 #[] #[])
  fields := #[]
  methods := #[]
  instanceTypes := #[]
  staticTypes := #[]
  resolved := Array.replicate 7 none
  statics := none }

def pool5 : Array CpInfo := pool [(2, .class_ 4), (1, u "java/lang/Enum"), (0, u "name"), (0, u "Ljava/lang/String;"), (0, .fieldref 2 8), (0, .nameAndType 9 10), (0, u "ordinal"), (0, u "I"), (1, .class_ 14), (1, u "java/lang/Object"), (4, u "hash"), (86, .class_ 108), (1, u "java/lang/Enum$EnumDesc"), (2, .class_ 112), (0, u "java/lang/constant/Constable"), (0, .class_ 114), (0, u "java/lang/Comparable"), (0, .class_ 116), (0, u "java/io/Serializable"), (9, u "()I")] 77

def k5c0 : Code := { maxStack := 1, maxLocals := 1, code := jdk_37_method_2_code, exceptionTable := #[], attributes := #[] }
def k5m0 : Method := { name := "ordinal", desc := "()I", sig := { parameters := [], returnType := some .int }, accessFlags := 17, code := some k5c0 }
/-- java/lang/Enum -/
def k5 : Class := { plain "java/lang/Enum" (some 0) with
  accessFlags := 1057
  interfaces := #[2, 3, 4]
  cf := some (fileOf pool5 2 #[.nestMembers #[106]] #[{ accessFlags := 17, nameIndex := 9, descriptorIndex := 126, attributes := #[] }] 1057 12 #[111, 113, 115] #[{ accessFlags := 18, nameIndex := 5, descriptorIndex := 6, attributes := #[] }, { accessFlags := 18, nameIndex := 9, descriptorIndex := 10, attributes := #[] }, { accessFlags := 2, nameIndex := 19, descriptorIndex := 10, attributes := #[] }])
  fields := #[{ name := "name", type := (.object "java/lang/String"), accessFlags := 18, slot := 0, constantValue := 0 }, { name := "ordinal", type := .int, accessFlags := 18, slot := 1, constantValue := 0 }, { name := "hash", type := .int, accessFlags := 2, slot := 2, constantValue := 0 }]
  methods := #[k5m0]
  instanceTypes := #[(.object "java/lang/String"), .int, .int]
  staticTypes := #[]
  resolved := Array.replicate 204 none
  statics := none }

def pool6 : Array CpInfo := pool [(1, .class_ 2), (0, u "com/example/demarc/demarc/TransactionAttributeType"), (2, u "REQUIRED"), (0, u "Lcom/example/demarc/demarc/TransactionAttributeType;"), (2, u "REQUIRES_NEW"), (2, u "MANDATORY"), (2, u "NOT_SUPPORTED"), (2, u "SUPPORTS"), (2, u "NEVER"), (2, u "$VALUES"), (0, u "[Lcom/example/demarc/demarc/TransactionAttributeType;"), (6, .class_ 34), (1, u "java/lang/Enum")] 28

/-- com/example/demarc/demarc/TransactionAttributeType -/
def k6 : Class := { plain "com/example/demarc/demarc/TransactionAttributeType" (some 5) with
  accessFlags := 16433
  interfaces := #[]
  cf := some (fileOf pool6 1 #[] #[] 16433 32 #[] #[{ accessFlags := 16409, nameIndex := 5, descriptorIndex := 6, attributes := #[] }, { accessFlags := 16409, nameIndex := 9, descriptorIndex := 6, attributes := #[] }, { accessFlags := 16409, nameIndex := 12, descriptorIndex := 6, attributes := #[] }, { accessFlags := 16409, nameIndex := 15, descriptorIndex := 6, attributes := #[] }, { accessFlags := 16409, nameIndex := 18, descriptorIndex := 6, attributes := #[] }, { accessFlags := 16409, nameIndex := 21, descriptorIndex := 6, attributes := #[] }, { accessFlags := 4122, nameIndex := 24, descriptorIndex := 25, attributes := #[] }])
  fields := #[{ name := "REQUIRED", type := (.object "com/example/demarc/demarc/TransactionAttributeType"), accessFlags := 16409, slot := 0, constantValue := 0 }, { name := "REQUIRES_NEW", type := (.object "com/example/demarc/demarc/TransactionAttributeType"), accessFlags := 16409, slot := 1, constantValue := 0 }, { name := "MANDATORY", type := (.object "com/example/demarc/demarc/TransactionAttributeType"), accessFlags := 16409, slot := 2, constantValue := 0 }, { name := "NOT_SUPPORTED", type := (.object "com/example/demarc/demarc/TransactionAttributeType"), accessFlags := 16409, slot := 3, constantValue := 0 }, { name := "SUPPORTS", type := (.object "com/example/demarc/demarc/TransactionAttributeType"), accessFlags := 16409, slot := 4, constantValue := 0 }, { name := "NEVER", type := (.object "com/example/demarc/demarc/TransactionAttributeType"), accessFlags := 16409, slot := 5, constantValue := 0 }, { name := "$VALUES", type := (.array (.object "com/example/demarc/demarc/TransactionAttributeType")), accessFlags := 4122, slot := 6, constantValue := 0 }]
  methods := #[]
  instanceTypes := #[(.object "java/lang/String"), .int, .int]
  staticTypes := #[(.object "com/example/demarc/demarc/TransactionAttributeType"), (.object "com/example/demarc/demarc/TransactionAttributeType"), (.object "com/example/demarc/demarc/TransactionAttributeType"), (.object "com/example/demarc/demarc/TransactionAttributeType"), (.object "com/example/demarc/demarc/TransactionAttributeType"), (.object "com/example/demarc/demarc/TransactionAttributeType"), (.array (.object "com/example/demarc/demarc/TransactionAttributeType"))]
  resolved := Array.replicate 63 none
  statics := some 0 }

def pool7 : Array CpInfo := pool [(1, .class_ 2), (0, u "com/example/demarc/demarc/Placement"), (0, .fieldref 1 4), (0, .nameAndType 5 6), (0, u "JOIN"), (0, u "Lcom/example/demarc/demarc/Placement;"), (0, .fieldref 1 8), (0, .nameAndType 9 6), (0, u "NEW"), (0, .fieldref 1 11), (0, .nameAndType 12 6), (0, u "NONE"), (0, .fieldref 1 14), (0, .nameAndType 15 6), (0, u "REFUSED"), (2, u "$VALUES"), (0, u "[Lcom/example/demarc/demarc/Placement;"), (6, .class_ 28), (1, u "java/lang/Enum"), (6, .fieldref 36 37), (0, .class_ 38), (0, .nameAndType 39 40), (0, u "com/example/demarc/demarc/Placement$1"), (0, u "$SwitchMap$com$example$demarc$demarc$TransactionAttributeType"), (0, u "[I"), (0, .methodref 42 43), (0, .class_ 44), (0, .nameAndType 45 46), (0, u "com/example/demarc/demarc/TransactionAttributeType"), (0, u "ordinal"), (0, u "()I"), (5, .methodref 1 53), (0, .nameAndType 54 55), (0, u "of"), (0, u "(Lcom/example/demarc/demarc/TransactionAttributeType;Z)Lcom/example/demarc/demarc/Placement;"), (17, u "alwaysInTransaction"), (0, u "(Lcom/example/demarc/demarc/TransactionAttributeType;)Z")] 6

def k7c0 : Code := { maxStack := 4, maxLocals := 3, code := prog_19_method_4_code, exceptionTable := #[], attributes := #[] }
def k7m0 : Method := { name := "of", desc := "(Lcom/example/demarc/demarc/TransactionAttributeType;Z)Lcom/example/demarc/demarc/Placement;", sig := { parameters := [(.object "com/example/demarc/demarc/TransactionAttributeType"), .boolean], returnType := some (.object "com/example/demarc/demarc/Placement") }, accessFlags := 8, code := some k7c0 }
def k7c1 : Code := { maxStack := 2, maxLocals := 1, code := prog_19_method_5_code, exceptionTable := #[], attributes := #[] }
def k7m1 : Method := { name := "alwaysInTransaction", desc := "(Lcom/example/demarc/demarc/TransactionAttributeType;)Z", sig := { parameters := [(.object "com/example/demarc/demarc/TransactionAttributeType")], returnType := some .boolean }, accessFlags := 8, code := some k7c1 }
/-- com/example/demarc/demarc/Placement -/
def k7 : Class := { plain "com/example/demarc/demarc/Placement" (some 5) with
  accessFlags := 16432
  interfaces := #[]
  cf := some (fileOf pool7 1 #[.nestMembers #[36]] #[{ accessFlags := 8, nameIndex := 54, descriptorIndex := 55, attributes := #[] }, { accessFlags := 8, nameIndex := 73, descriptorIndex := 74, attributes := #[] }] 16432 26 #[] #[{ accessFlags := 16409, nameIndex := 5, descriptorIndex := 6, attributes := #[] }, { accessFlags := 16409, nameIndex := 9, descriptorIndex := 6, attributes := #[] }, { accessFlags := 16409, nameIndex := 12, descriptorIndex := 6, attributes := #[] }, { accessFlags := 16409, nameIndex := 15, descriptorIndex := 6, attributes := #[] }, { accessFlags := 4122, nameIndex := 18, descriptorIndex := 19, attributes := #[] }])
  fields := #[{ name := "JOIN", type := (.object "com/example/demarc/demarc/Placement"), accessFlags := 16409, slot := 0, constantValue := 0 }, { name := "NEW", type := (.object "com/example/demarc/demarc/Placement"), accessFlags := 16409, slot := 1, constantValue := 0 }, { name := "NONE", type := (.object "com/example/demarc/demarc/Placement"), accessFlags := 16409, slot := 2, constantValue := 0 }, { name := "REFUSED", type := (.object "com/example/demarc/demarc/Placement"), accessFlags := 16409, slot := 3, constantValue := 0 }, { name := "$VALUES", type := (.array (.object "com/example/demarc/demarc/Placement")), accessFlags := 4122, slot := 4, constantValue := 0 }]
  methods := #[k7m0, k7m1]
  instanceTypes := #[(.object "java/lang/String"), .int, .int]
  staticTypes := #[(.object "com/example/demarc/demarc/Placement"), (.object "com/example/demarc/demarc/Placement"), (.object "com/example/demarc/demarc/Placement"), (.object "com/example/demarc/demarc/Placement"), (.array (.object "com/example/demarc/demarc/Placement"))]
  resolved := Array.replicate 81 none
  statics := some 1 }

def pool8 : Array CpInfo := pool [(8, .class_ 10), (1, u "com/example/demarc/demarc/Placement$1"), (0, u "$SwitchMap$com$example$demarc$demarc$TransactionAttributeType"), (0, u "[I"), (25, .class_ 39), (0, u "java/lang/Object"), (8, .class_ 49), (0, u "com/example/demarc/demarc/Placement")] 2

/-- com/example/demarc/demarc/Placement$1 -/
def k8 : Class := { plain "com/example/demarc/demarc/Placement$1" (some 0) with
  accessFlags := 4128
  interfaces := #[]
  cf := some (fileOf pool8 8 #[.nestHost 48] #[] 4128 38 #[] #[{ accessFlags := 4120, nameIndex := 11, descriptorIndex := 12, attributes := #[] }])
  fields := #[{ name := "$SwitchMap$com$example$demarc$demarc$TransactionAttributeType", type := (.array .int), accessFlags := 4120, slot := 0, constantValue := 0 }]
  methods := #[]
  instanceTypes := #[]
  staticTypes := #[(.array .int)]
  resolved := Array.replicate 52 none
  statics := some 2 }

def pool9 : Array CpInfo := pool [(1, u "java/lang/Cloneable"), (0, .class_ 1), (0, u "java/lang/Object"), (0, .class_ 3)] 3

/-- java/lang/Cloneable -/
def k9 : Class := { plain "java/lang/Cloneable" (some 0) with
  accessFlags := 1537
  interfaces := #[]
  cf := some (fileOf pool9 2 #[] #[] 1537 4 #[] #[])
  fields := #[]
  methods := #[]
  instanceTypes := #[]
  staticTypes := #[]
  resolved := Array.replicate 8 none
  statics := none }

/-- the primitive byte -/
def k10 : Class := { plain "byte" none with kind := .primitive 'B', accessFlags := 0x411 }
/-- [B -/
def k11 : Class := { plain "[B" (some 0) with kind := .array 10 .byte, interfaces := #[9, 4], accessFlags := 1041 }

/-- the primitive int -/
def k12 : Class := { plain "int" none with kind := .primitive 'I', accessFlags := 0x411 }
/-- [I -/
def k13 : Class := { plain "[I" (some 0) with kind := .array 12 .int, interfaces := #[9, 4], accessFlags := 1041 }

def heap : Heap := #[{ cls := 6, slots := #[.ref 3, .ref 10, .ref 8, .ref 7, .ref 12, .ref 11, .null], vm := .statics 6 },
  { cls := 7, slots := #[.ref 4, .ref 6, .ref 5, .ref 9, .null], vm := .statics 7 },
  { cls := 8, slots := #[.ref 13], vm := .statics 8 },
  { cls := 6, slots := #[.null, .int 0, .int 0], vm := .none },
  { cls := 7, slots := #[.null, .int 0, .int 0], vm := .none },
  { cls := 7, slots := #[.null, .int 2, .int 0], vm := .none },
  { cls := 7, slots := #[.null, .int 1, .int 0], vm := .none },
  { cls := 6, slots := #[.null, .int 3, .int 0], vm := .none },
  { cls := 6, slots := #[.null, .int 2, .int 0], vm := .none },
  { cls := 7, slots := #[.null, .int 3, .int 0], vm := .none },
  { cls := 6, slots := #[.null, .int 1, .int 0], vm := .none },
  { cls := 6, slots := #[.null, .int 5, .int 0], vm := .none },
  { cls := 6, slots := #[.null, .int 4, .int 0], vm := .none },
  { cls := 13, slots := #[.int 1, .int 4, .int 2, .int 5, .int 3, .int 6], vm := .none }]
def classes : Array Class := #[k0, k1, k2, k3, k4, k5, k6, k7, k8, k9, k10, k11, k12, k13]
def interned : List (Array UInt16 × Addr) := []
def slotsUsed : Nat := 49
def theMethod : MethodId := ⟨1, 1⟩
def args0 : Array Value := #[.int 5]
def aboutOver (below : List Frame) : State where
  vm := { classes := classes, interned := interned.toArray }
  heap := heap
  slotsUsed := slotsUsed
  threads := #[{ frames := .invoking theMethod args0 :: below }]
def below0 : List Frame := [.native { method := ⟨0, 0⟩, args := #[] }]
def about1 : State := aboutOver below0
def p0 : Program := .bare "" "" ""
def e0 : Env := launch0.env 0 0 0
theorem w_frames : about1.frames = Frame.invoking theMethod args0 :: below0 := rfl
set_option maxRecDepth 65536 in
theorem w_args : argsFit about1.vm theMethod args0 = true := by decide +kernel
set_option maxRecDepth 65536 in
theorem w_heap : heapFits about1 = true := by decide +kernel
set_option maxRecDepth 65536 in
theorem w_runnable : about1.curStatus? = some .runnable := by decide +kernel
set_option maxRecDepth 65536 in
theorem w_alone : about1.alone = true := by decide +kernel
set_option maxRecDepth 65536 in
theorem w_named : about1.methodNamed? x = some theMethod := by decide +kernel
set_option maxRecDepth 65536 in
theorem w_hears : about1.hears theMethod below0 = true := by decide +kernel
set_option maxRecDepth 65536 in
theorem w_ripe : about1.ripe theMethod args0 below0 = true := by decide +kernel
theorem w_running : about1.status = .running := rfl
set_option maxRecDepth 65536 in
theorem w_room : about1.hasRoom e0.platform room_1 = true :=
  launch0.hasRoom_least _ room_1 (by decide +kernel) (by decide +kernel) (by decide +kernel) (by decide +kernel) (by decide +kernel) (by decide +kernel)
theorem allAtoms_all (ts : List Jvm.Cond) (a : Array Jvm.Value) (st : Jvm.State) : (allAtoms ts).before a st = ts.all (fun c => c.before a st) := by
  induction ts with
  | nil => rfl
  | cons c t ih =>
    show (Jvm.Cond.and c (allAtoms t)).before a st = _
    rw [Jvm.Cond.before_and, ih, List.all_cons]
def words1 : List Jvm.Cond := Jvm.Cond.code x code maxLocals ret :: tables_1
/-- a 'code' word, met by the world's own term for the bytes: nothing is compared byte by byte -/
theorem code_word {y : MethodName} {bytes : ByteArray} {mx : Nat} {rt : Option FieldType} {a : Array Value} {s : State} {m : MethodId} {meth : Method} {c : Code} (h1 : s.methodNamed? y = some m) (h2 : s.vm.method? m = some meth) (h3 : meth.code = some c) (h4 : c.code = bytes)
    (h5 : (c.maxLocals == mx && c.exceptionTable.isEmpty && decide (c.maxStack ≤ mostOperands) && decide (meth.sig.returnType = rt) && !meth.locks && decide (parseMethodDescriptor y.desc = some meth.sig)) = true) : (Jvm.Cond.code y bytes mx rt).before a s = true := by
  simp only [Bool.and_eq_true, beq_iff_eq, Bool.not_eq_true', decide_eq_true_eq] at h5
  obtain ⟨⟨⟨⟨⟨g1, g2⟩, g3⟩, g4⟩, g5⟩, g6⟩ := h5
  simp [Cond.before, Cond.holds, Cond.value, h1, h2, h3, h4, g1, g2, g3, g4, g5, g6]
def isCode : Jvm.Cond → Bool
  | .code _ _ _ _ => true
  | _ => false
theorem all_split {L : List Jvm.Cond} {P : Jvm.Cond → Bool} (h1 : L.all (fun c => isCode c || P c) = true) (h2 : ∀ c ∈ L.filter isCode, P c = true) : L.all P = true := by
  refine List.all_eq_true.mpr fun c hc => ?_
  have h := List.all_eq_true.mp h1 c hc
  rcases Bool.eq_false_or_eq_true (isCode c) with hi | hi
  · exact h2 c (List.mem_filter.mpr ⟨hc, hi⟩)
  · simpa [hi] using h
set_option maxRecDepth 65536 in
theorem w_c0 : (Jvm.Cond.code x code maxLocals ret).before args0 about1 = true := code_word (m := ⟨1, 1⟩) (meth := k1m1) (c := k1c1) (by decide +kernel) rfl rfl rfl (by decide +kernel)
set_option maxRecDepth 65536 in
theorem w_c1 : (Jvm.Cond.code ({ cls := "com/example/demarc/demarc/Placement", name := "alwaysInTransaction", desc := "(Lcom/example/demarc/demarc/TransactionAttributeType;)Z" } : Jvm.MethodName) prog_19_method_5_code (1 : Nat) (Option.some Jvm.ClassFile.FieldType.boolean)).before args0 about1 = true := code_word (m := ⟨7, 1⟩) (meth := k7m1) (c := k7c1) (by decide +kernel) rfl rfl rfl (by decide +kernel)
set_option maxRecDepth 65536 in
theorem w_c2 : (Jvm.Cond.code ({ cls := "com/example/demarc/demarc/Placement", name := "of", desc := "(Lcom/example/demarc/demarc/TransactionAttributeType;Z)Lcom/example/demarc/demarc/Placement;" } : Jvm.MethodName) prog_19_method_4_code (3 : Nat) (Option.some (Jvm.ClassFile.FieldType.object "com/example/demarc/demarc/Placement"))).before args0 about1 = true := code_word (m := ⟨7, 0⟩) (meth := k7m0) (c := k7c0) (by decide +kernel) rfl rfl rfl (by decide +kernel)
set_option maxRecDepth 65536 in
theorem w_c3 : (Jvm.Cond.code ({ cls := "java/lang/Enum", name := "ordinal", desc := "()I" } : Jvm.MethodName) jdk_37_method_2_code (1 : Nat) (Option.some Jvm.ClassFile.FieldType.int)).before args0 about1 = true := code_word (m := ⟨5, 0⟩) (meth := k5m0) (c := k5c0) (by decide +kernel) rfl rfl rfl (by decide +kernel)
def codes1 : List Jvm.Cond := [Jvm.Cond.code x code maxLocals ret, Jvm.Cond.code ({ cls := "com/example/demarc/demarc/Placement", name := "alwaysInTransaction", desc := "(Lcom/example/demarc/demarc/TransactionAttributeType;)Z" } : Jvm.MethodName) prog_19_method_5_code (1 : Nat) (Option.some Jvm.ClassFile.FieldType.boolean), Jvm.Cond.code ({ cls := "com/example/demarc/demarc/Placement", name := "of", desc := "(Lcom/example/demarc/demarc/TransactionAttributeType;Z)Lcom/example/demarc/demarc/Placement;" } : Jvm.MethodName) prog_19_method_4_code (3 : Nat) (Option.some (Jvm.ClassFile.FieldType.object "com/example/demarc/demarc/Placement")), Jvm.Cond.code ({ cls := "java/lang/Enum", name := "ordinal", desc := "()I" } : Jvm.MethodName) jdk_37_method_2_code (1 : Nat) (Option.some Jvm.ClassFile.FieldType.int)]
set_option maxRecDepth 65536 in
theorem codes_eq : words1.filter isCode = codes1 := rfl
theorem w_codes : ∀ c ∈ words1.filter isCode, c.before args0 about1 = true := by
  rw [codes_eq]
  intro c hc
  simp only [codes1, List.mem_cons, List.not_mem_nil, or_false] at hc
  rcases hc with rfl | rfl | rfl | rfl
  · exact w_c0
  · exact w_c1
  · exact w_c2
  · exact w_c3
set_option maxRecDepth 65536 in
theorem w_t1 : (words1.take 24).all (fun c => isCode c || c.before args0 about1) = true := by decide +kernel
set_option maxRecDepth 65536 in
theorem w_t2 : (words1.drop 24).all (fun c => isCode c || c.before args0 about1) = true := by decide +kernel
theorem w_tables : (allAtoms (Jvm.Cond.code x code maxLocals ret :: tables_1)).before args0 about1 = true := by
  rw [allAtoms_all]
  show words1.all (fun c => c.before args0 about1) = true
  refine all_split ?_ w_codes
  rw [← List.take_append_drop 24 words1, List.all_append, w_t1, w_t2]
  rfl
set_option maxRecDepth 65536 in
theorem w_case : (Jvm.Cond.and given_1 narrow_1).before args0 about1 = true := by decide +kernel
theorem w_applies : (headSpec (Jvm.Cond.code x code maxLocals ret :: tables_1) room_1).applies x e0.platform about1 = true :=
  (Spec.applies_iff w_frames).mpr ⟨w_running, w_runnable, w_alone, w_named, w_hears, w_ripe, w_room, w_tables⟩
theorem atStart : AtStart classFile x code maxLocals ret World_1 tables_1 room_1 Calls_1 rest_1 Pre_1 launch0 p0 e0 about1 theMethod args0 below0 :=
  ⟨lists_1, trivial, launch0.admits_env _ _ _, launch0.least_env, fairChoices_fair.cas, fairChoices_fair.clock, w_frames, w_args, w_heap, w_applies, trivial, trivial, w_case⟩
end start1
theorem witness_1 : WitnessClaimed_1 := ⟨start1.p0, start1.e0, start1.about1, start1.theMethod, start1.args0, start1.below0, start1.atStart⟩
end Jvm.Pilot.@@N@@
