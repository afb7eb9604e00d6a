import JvmDerived
import JvmDerived.Pilot.@@N@@Statement
import JvmDerived.Pilot.@@N@@Code
set_option linter.unusedVariables false
set_option linter.unusedSimpArgs false
namespace Jvm.RoadKit
open Sem ClassFile Op Lib Jvm.Stand Jvm.Free Jvm.LawKit
section New
variable {p : Program} {l : Launch} {e : Env} {R : Room} {s : State} {m : MethodId} {args : Array Value} {below : List Frame} {meth : Method} {c : Code} {T : State} {locs : List Loc} {cells slots : Nat}
theorem retI (X : Stand p l e R s m args below meth c T locs cells slots) (hx : p.tables.exec = Jvm.exec) {pc : Nat} {Ls : Array Slot} {z : Int32} {rest : List Value} (hret : meth.sig.returnType = some .int) (hd : decode c.code pc = .ok (.ireturn, 1)) {fs : List Frame}
    (hl : ∀ (f : JFrame) (acts : List Action), f.method = m → f.locked = none → f.entered = [] → (doReturn e (T.setTop f) acts (some (.int z))).1 = T.setFrames fs) : Steps p.tables e below (T.setTop (mkF m pc Ls (.int z :: rest))) (T.setFrames fs) := by
  have hm' : T.vm.method? m = some meth := X.method'
  have hn : narrow .int (.int z) = .int z := rfl
  show Steps p.tables e below (T.setTop { method := m, pc := pc, locals := Ls, stack := _ :: rest, locked := none }) _
  jvm_step X.here [X.here.top, hx, hd, hm', hret, hn]
  first | (intro acts; rw [hl _ acts rfl rfl rfl]) | rw [hl _ _ rfl rfl rfl]
  exact Steps.refl _
theorem own_to {L' : List Loc} {k' n' : Nat} (X : Stand p l e R s m args below meth c T locs cells slots) (a : locs = L') (b : cells = k') (d : slots = n') : Stand p l e R s m args below meth c T L' k' n' := by
  subst a b d
  exact X
end New
end Jvm.RoadKit
namespace Jvm.Pilot.@@N@@
open Jvm Jvm.ClassFile Sem Op Lib Jvm.Free Jvm.Stand Jvm.LawKit Jvm.RoadKit Bundle Jvm.Pilot.@@N@@.Jvm.D
theorem ef_rm_num (m : MethodId) (x0 : Addr) : entryFrame m #[(.ref x0)] 1 = mkF m 0 #[.val (.ref x0)] [] := by first | (simp [entryFrame, mkF, argsToLocals, Value.category]; done) | rfl
theorem d_jdk_18_method_1_0 : decode jdk_18_method_1_code 0 = .ok (.aload_n 0, 1) := by decide +kernel
theorem d_jdk_18_method_1_1 : decode jdk_18_method_1_code 1 = .ok (.invokespecial 1, 3) := by decide +kernel
theorem d_jdk_18_method_1_4 : decode jdk_18_method_1_code 4 = .ok (.return_, 1) := by decide +kernel
theorem pn_0 : plainName "java/lang/Number" = true := by first | (simp [plainName, overriddenIn]; done) | decide +kernel
theorem ef_rm_iinit (m : MethodId) (x0 : Addr) (x1 : Int32) : entryFrame m #[(.ref x0), (.int x1)] 2 = mkF m 0 #[.val (.ref x0), .val (.int x1)] [] := by first | (simp [entryFrame, mkF, argsToLocals, Value.category]; done) | rfl
theorem d_jdk_33_method_23_0 : decode jdk_33_method_23_code 0 = .ok (.aload_n 0, 1) := by decide +kernel
theorem pd_0 : parseMethodDescriptor "()V" = some ⟨[], none⟩ := by decide +kernel
theorem d_jdk_33_method_23_1 : decode jdk_33_method_23_code 1 = .ok (.invokespecial 202, 3) := by decide +kernel
theorem d_jdk_33_method_23_4 : decode jdk_33_method_23_code 4 = .ok (.aload_n 0, 1) := by decide +kernel
theorem d_jdk_33_method_23_5 : decode jdk_33_method_23_code 5 = .ok (.iload_n 1, 1) := by decide +kernel
theorem d_jdk_33_method_23_6 : decode jdk_33_method_23_code 6 = .ok (.putfield 205, 3) := by decide +kernel
theorem d_jdk_33_method_23_9 : decode jdk_33_method_23_code 9 = .ok (.return_, 1) := by decide +kernel
theorem pn_1 : plainName "java/lang/Integer" = true := by first | (simp [plainName, overriddenIn]; done) | decide +kernel
theorem ef_rm_val (m : MethodId) (x0 : Int32) : entryFrame m #[(.int x0)] 1 = mkF m 0 #[.val (.int x0)] [] := by first | (simp [entryFrame, mkF, argsToLocals, Value.category]; done) | rfl
theorem d_jdk_33_method_22_0 : decode jdk_33_method_22_code 0 = .ok (.iload_n 0, 1) := by decide +kernel
theorem d_jdk_33_method_22_1 : decode jdk_33_method_22_code 1 = .ok (.bipush (-128), 2) := by decide +kernel
theorem d_jdk_33_method_22_3 : decode jdk_33_method_22_code 3 = .ok (.if_icmp .lt 20, 3) := by decide +kernel
theorem d_jdk_33_method_22_23 : decode jdk_33_method_22_code 23 = .ok (.new 1, 3) := by decide +kernel
theorem d_jdk_33_method_22_26 : decode jdk_33_method_22_code 26 = .ok (.dup, 1) := by decide +kernel
theorem d_jdk_33_method_22_27 : decode jdk_33_method_22_code 27 = .ok (.iload_n 0, 1) := by decide +kernel
theorem pd_1 : parseMethodDescriptor "(I)V" = some ⟨[.int], none⟩ := by decide +kernel
theorem d_jdk_33_method_22_28 : decode jdk_33_method_22_code 28 = .ok (.invokespecial 199, 3) := by decide +kernel
theorem d_jdk_33_method_22_31 : decode jdk_33_method_22_code 31 = .ok (.areturn, 1) := by decide +kernel
theorem d_jdk_33_method_22_6 : decode jdk_33_method_22_code 6 = .ok (.iload_n 0, 1) := by decide +kernel
theorem d_jdk_33_method_22_7 : decode jdk_33_method_22_code 7 = .ok (.getstatic 191, 3) := by decide +kernel
theorem d_jdk_33_method_22_10 : decode jdk_33_method_22_code 10 = .ok (.if_icmp .gt 13, 3) := by decide +kernel
theorem d_jdk_33_method_22_13 : decode jdk_33_method_22_code 13 = .ok (.getstatic 195, 3) := by decide +kernel
theorem d_jdk_33_method_22_16 : decode jdk_33_method_22_code 16 = .ok (.iload_n 0, 1) := by decide +kernel
theorem d_jdk_33_method_22_17 : decode jdk_33_method_22_code 17 = .ok (.sipush 128, 3) := by decide +kernel
theorem d_jdk_33_method_22_20 : decode jdk_33_method_22_code 20 = .ok (.iadd, 1) := by decide +kernel
theorem d_jdk_33_method_22_21 : decode jdk_33_method_22_code 21 = .ok (.aaload, 1) := by decide +kernel
theorem d_jdk_33_method_22_22 : decode jdk_33_method_22_code 22 = .ok (.areturn, 1) := by decide +kernel
theorem ef_rm_rin (m : MethodId) (x0 : Addr) (x1 : Int64) : entryFrame m #[(.ref x0), (.long x1)] 3 = mkF m 0 #[.val (.ref x0), .val (.long x1), .second] [] := by first | (simp [entryFrame, mkF, argsToLocals, Value.category]; done) | rfl
theorem d_prog_5_method_1_0 : decode prog_5_method_1_code 0 = .ok (.aload_n 0, 1) := by decide +kernel
theorem d_prog_5_method_1_1 : decode prog_5_method_1_code 1 = .ok (.invokespecial 1, 3) := by decide +kernel
theorem d_prog_5_method_1_4 : decode prog_5_method_1_code 4 = .ok (.aload_n 0, 1) := by decide +kernel
theorem d_prog_5_method_1_5 : decode prog_5_method_1_code 5 = .ok (.bipush 16, 2) := by decide +kernel
theorem d_prog_5_method_1_7 : decode prog_5_method_1_code 7 = .ok (.anewarray 2, 3) := by decide +kernel
theorem d_prog_5_method_1_10 : decode prog_5_method_1_code 10 = .ok (.putfield 7, 3) := by decide +kernel
theorem d_prog_5_method_1_13 : decode prog_5_method_1_code 13 = .ok (.aload_n 0, 1) := by decide +kernel
theorem d_prog_5_method_1_14 : decode prog_5_method_1_code 14 = .ok (.lload_n 1, 1) := by decide +kernel
theorem d_prog_5_method_1_15 : decode prog_5_method_1_code 15 = .ok (.putfield 13, 3) := by decide +kernel
theorem d_prog_5_method_1_18 : decode prog_5_method_1_code 18 = .ok (.return_, 1) := by decide +kernel
theorem pn_2 : plainName "com/example/hold_until_acked/holduntilacked/engine/ConsecutiveRing" = true := by first | (simp [plainName, overriddenIn]; done) | decide +kernel
theorem ef_rm_siz (m : MethodId) (x0 : Addr) : entryFrame m #[(.ref x0)] 1 = mkF m 0 #[.val (.ref x0)] [] := by first | (simp [entryFrame, mkF, argsToLocals, Value.category]; done) | rfl
theorem d_prog_5_method_2_0 : decode prog_5_method_2_code 0 = .ok (.aload_n 0, 1) := by decide +kernel
theorem d_prog_5_method_2_1 : decode prog_5_method_2_code 1 = .ok (.getfield 17, 3) := by decide +kernel
theorem d_prog_5_method_2_4 : decode prog_5_method_2_code 4 = .ok (.ireturn, 1) := by decide +kernel
theorem ef_rm_fnu (m : MethodId) (x0 : Addr) : entryFrame m #[(.ref x0)] 1 = mkF m 0 #[.val (.ref x0)] [] := by first | (simp [entryFrame, mkF, argsToLocals, Value.category]; done) | rfl
theorem d_prog_5_method_4_0 : decode prog_5_method_4_code 0 = .ok (.aload_n 0, 1) := by decide +kernel
theorem d_prog_5_method_4_1 : decode prog_5_method_4_code 1 = .ok (.getfield 13, 3) := by decide +kernel
theorem d_prog_5_method_4_4 : decode prog_5_method_4_code 4 = .ok (.lreturn, 1) := by decide +kernel
theorem ef_rm0 (m : MethodId) (x0 : Int64) (x1 : Int32) (x2 : Int32) (x3 : Int32) (x4 : Int32) : entryFrame m #[(.long x0), (.int x1), (.int x2), (.int x3), (.int x4)] maxLocals = mkF m 0 #[.val (.long x0), .second, .val (.int x1), .val (.int x2), .val (.int x3), .val (.int x4), .unset, .unset, .unset, .unset, .unset, .unset, .unset, .unset, .unset, .unset, .unset, .unset, .unset, .unset, .unset, .unset, .unset] [] := by first | (simp [entryFrame, mkF, argsToLocals, Value.category, maxLocals]; done) | rfl
theorem pd_2 : parseMethodDescriptor "(I)Ljava/lang/Integer;" = some ⟨[.int], some (.object "java/lang/Integer")⟩ := by decide +kernel
theorem pd_3 : parseMethodDescriptor "(J)V" = some ⟨[.long], none⟩ := by decide +kernel
theorem ef_rm_add_0_0_NNN (m : MethodId) (x0 : Addr) (x1 : Addr) : entryFrame m #[(.ref x0), (.ref x1)] 4 = mkF m 0 #[.val (.ref x0), .val (.ref x1), .unset, .unset] [] := by first | (simp [entryFrame, mkF, argsToLocals, Value.category]; done) | rfl
theorem d_prog_5_method_7_0 : decode prog_5_method_7_code 0 = .ok (.aload_n 0, 1) := by decide +kernel
theorem d_prog_5_method_7_1 : decode prog_5_method_7_code 1 = .ok (.getfield 17, 3) := by decide +kernel
theorem d_prog_5_method_7_4 : decode prog_5_method_7_code 4 = .ok (.aload_n 0, 1) := by decide +kernel
theorem d_prog_5_method_7_5 : decode prog_5_method_7_code 5 = .ok (.getfield 7, 3) := by decide +kernel
theorem d_prog_5_method_7_8 : decode prog_5_method_7_code 8 = .ok (.arraylength, 1) := by decide +kernel
theorem d_prog_5_method_7_9 : decode prog_5_method_7_code 9 = .ok (.if_icmp .ne 60, 3) := by decide +kernel
theorem d_prog_5_method_7_69 : decode prog_5_method_7_code 69 = .ok (.aload_n 0, 1) := by decide +kernel
theorem d_prog_5_method_7_70 : decode prog_5_method_7_code 70 = .ok (.getfield 7, 3) := by decide +kernel
theorem d_prog_5_method_7_73 : decode prog_5_method_7_code 73 = .ok (.aload_n 0, 1) := by decide +kernel
theorem d_prog_5_method_7_74 : decode prog_5_method_7_code 74 = .ok (.getfield 21, 3) := by decide +kernel
theorem d_prog_5_method_7_77 : decode prog_5_method_7_code 77 = .ok (.aload_n 0, 1) := by decide +kernel
theorem d_prog_5_method_7_78 : decode prog_5_method_7_code 78 = .ok (.getfield 17, 3) := by decide +kernel
theorem d_prog_5_method_7_81 : decode prog_5_method_7_code 81 = .ok (.iadd, 1) := by decide +kernel
theorem d_prog_5_method_7_82 : decode prog_5_method_7_code 82 = .ok (.aload_n 0, 1) := by decide +kernel
theorem d_prog_5_method_7_83 : decode prog_5_method_7_code 83 = .ok (.getfield 7, 3) := by decide +kernel
theorem d_prog_5_method_7_86 : decode prog_5_method_7_code 86 = .ok (.arraylength, 1) := by decide +kernel
theorem d_prog_5_method_7_87 : decode prog_5_method_7_code 87 = .ok (.irem, 1) := by decide +kernel
theorem d_prog_5_method_7_88 : decode prog_5_method_7_code 88 = .ok (.aload_n 1, 1) := by decide +kernel
theorem d_prog_5_method_7_89 : decode prog_5_method_7_code 89 = .ok (.aastore, 1) := by decide +kernel
theorem d_prog_5_method_7_90 : decode prog_5_method_7_code 90 = .ok (.aload_n 0, 1) := by decide +kernel
theorem d_prog_5_method_7_91 : decode prog_5_method_7_code 91 = .ok (.dup, 1) := by decide +kernel
theorem d_prog_5_method_7_92 : decode prog_5_method_7_code 92 = .ok (.getfield 17, 3) := by decide +kernel
theorem d_prog_5_method_7_95 : decode prog_5_method_7_code 95 = .ok (.iconst 1, 1) := by decide +kernel
theorem d_prog_5_method_7_96 : decode prog_5_method_7_code 96 = .ok (.iadd, 1) := by decide +kernel
theorem d_prog_5_method_7_97 : decode prog_5_method_7_code 97 = .ok (.putfield 17, 3) := by decide +kernel
theorem d_prog_5_method_7_100 : decode prog_5_method_7_code 100 = .ok (.return_, 1) := by decide +kernel
theorem pd_4 : parseMethodDescriptor "(Ljava/lang/Object;)V" = some ⟨[(.object "java/lang/Object")], none⟩ := by decide +kernel
theorem ef_rm_add_1_0_RNN (m : MethodId) (x0 : Addr) (x1 : Addr) : entryFrame m #[(.ref x0), (.ref x1)] 4 = mkF m 0 #[.val (.ref x0), .val (.ref x1), .unset, .unset] [] := by first | (simp [entryFrame, mkF, argsToLocals, Value.category]; done) | rfl
theorem pd_5 : parseMethodDescriptor "()I" = some ⟨[], some .int⟩ := by decide +kernel
theorem pd_6 : parseMethodDescriptor "()J" = some ⟨[], some .long⟩ := by decide +kernel
theorem ef_rm_get_2_0_RRN_1 (m : MethodId) (x0 : Addr) (x1 : Int64) : entryFrame m #[(.ref x0), (.long x1)] 4 = mkF m 0 #[.val (.ref x0), .val (.long x1), .second, .unset] [] := by first | (simp [entryFrame, mkF, argsToLocals, Value.category]; done) | rfl
theorem d_prog_5_method_5_0 : decode prog_5_method_5_code 0 = .ok (.aconst_null, 1) := by decide +kernel
theorem d_prog_5_method_5_1 : decode prog_5_method_5_code 1 = .ok (.astore_n 3, 1) := by decide +kernel
theorem d_prog_5_method_5_2 : decode prog_5_method_5_code 2 = .ok (.lload_n 1, 1) := by decide +kernel
theorem d_prog_5_method_5_3 : decode prog_5_method_5_code 3 = .ok (.aload_n 0, 1) := by decide +kernel
theorem d_prog_5_method_5_4 : decode prog_5_method_5_code 4 = .ok (.getfield 13, 3) := by decide +kernel
theorem d_prog_5_method_5_7 : decode prog_5_method_5_code 7 = .ok (.lcmp, 1) := by decide +kernel
theorem d_prog_5_method_5_8 : decode prog_5_method_5_code 8 = .ok (.ifCond .lt 44, 3) := by decide +kernel
theorem d_prog_5_method_5_11 : decode prog_5_method_5_code 11 = .ok (.lload_n 1, 1) := by decide +kernel
theorem d_prog_5_method_5_12 : decode prog_5_method_5_code 12 = .ok (.aload_n 0, 1) := by decide +kernel
theorem d_prog_5_method_5_13 : decode prog_5_method_5_code 13 = .ok (.getfield 13, 3) := by decide +kernel
theorem d_prog_5_method_5_16 : decode prog_5_method_5_code 16 = .ok (.lsub, 1) := by decide +kernel
theorem d_prog_5_method_5_17 : decode prog_5_method_5_code 17 = .ok (.aload_n 0, 1) := by decide +kernel
theorem d_prog_5_method_5_18 : decode prog_5_method_5_code 18 = .ok (.getfield 17, 3) := by decide +kernel
theorem d_prog_5_method_5_21 : decode prog_5_method_5_code 21 = .ok (.i2l, 1) := by decide +kernel
theorem d_prog_5_method_5_22 : decode prog_5_method_5_code 22 = .ok (.lcmp, 1) := by decide +kernel
theorem d_prog_5_method_5_23 : decode prog_5_method_5_code 23 = .ok (.ifCond .ge 29, 3) := by decide +kernel
theorem d_prog_5_method_5_26 : decode prog_5_method_5_code 26 = .ok (.aload_n 0, 1) := by decide +kernel
theorem d_prog_5_method_5_27 : decode prog_5_method_5_code 27 = .ok (.getfield 7, 3) := by decide +kernel
theorem d_prog_5_method_5_30 : decode prog_5_method_5_code 30 = .ok (.aload_n 0, 1) := by decide +kernel
theorem d_prog_5_method_5_31 : decode prog_5_method_5_code 31 = .ok (.getfield 21, 3) := by decide +kernel
theorem d_prog_5_method_5_34 : decode prog_5_method_5_code 34 = .ok (.i2l, 1) := by decide +kernel
theorem d_prog_5_method_5_35 : decode prog_5_method_5_code 35 = .ok (.lload_n 1, 1) := by decide +kernel
theorem d_prog_5_method_5_36 : decode prog_5_method_5_code 36 = .ok (.ladd, 1) := by decide +kernel
theorem d_prog_5_method_5_37 : decode prog_5_method_5_code 37 = .ok (.aload_n 0, 1) := by decide +kernel
theorem d_prog_5_method_5_38 : decode prog_5_method_5_code 38 = .ok (.getfield 13, 3) := by decide +kernel
theorem d_prog_5_method_5_41 : decode prog_5_method_5_code 41 = .ok (.lsub, 1) := by decide +kernel
theorem d_prog_5_method_5_42 : decode prog_5_method_5_code 42 = .ok (.aload_n 0, 1) := by decide +kernel
theorem d_prog_5_method_5_43 : decode prog_5_method_5_code 43 = .ok (.getfield 7, 3) := by decide +kernel
theorem d_prog_5_method_5_46 : decode prog_5_method_5_code 46 = .ok (.arraylength, 1) := by decide +kernel
theorem d_prog_5_method_5_47 : decode prog_5_method_5_code 47 = .ok (.i2l, 1) := by decide +kernel
theorem d_prog_5_method_5_48 : decode prog_5_method_5_code 48 = .ok (.lrem, 1) := by decide +kernel
theorem d_prog_5_method_5_49 : decode prog_5_method_5_code 49 = .ok (.l2i, 1) := by decide +kernel
theorem d_prog_5_method_5_50 : decode prog_5_method_5_code 50 = .ok (.aaload, 1) := by decide +kernel
theorem d_prog_5_method_5_51 : decode prog_5_method_5_code 51 = .ok (.astore_n 3, 1) := by decide +kernel
theorem d_prog_5_method_5_52 : decode prog_5_method_5_code 52 = .ok (.aload_n 3, 1) := by decide +kernel
theorem d_prog_5_method_5_53 : decode prog_5_method_5_code 53 = .ok (.areturn, 1) := by decide +kernel
theorem pd_7 : parseMethodDescriptor "(J)Ljava/lang/Object;" = some ⟨[.long], some (.object "java/lang/Object")⟩ := by decide +kernel
theorem ef_rm_get_2_0_RRN_0 (m : MethodId) (x0 : Addr) (x1 : Int64) : entryFrame m #[(.ref x0), (.long x1)] 4 = mkF m 0 #[.val (.ref x0), .val (.long x1), .second, .unset] [] := by first | (simp [entryFrame, mkF, argsToLocals, Value.category]; done) | rfl
theorem ef_rm_get_2_0_RRN_hi (m : MethodId) (x0 : Addr) (x1 : Int64) : entryFrame m #[(.ref x0), (.long x1)] 4 = mkF m 0 #[.val (.ref x0), .val (.long x1), .second, .unset] [] := by first | (simp [entryFrame, mkF, argsToLocals, Value.category]; done) | rfl
theorem ef_rm_get_1_0_RNN_0 (m : MethodId) (x0 : Addr) (x1 : Int64) : entryFrame m #[(.ref x0), (.long x1)] 4 = mkF m 0 #[.val (.ref x0), .val (.long x1), .second, .unset] [] := by first | (simp [entryFrame, mkF, argsToLocals, Value.category]; done) | rfl
theorem ef_rm_fst_1_0_RNN (m : MethodId) (x0 : Addr) : entryFrame m #[(.ref x0)] 1 = mkF m 0 #[.val (.ref x0)] [] := by first | (simp [entryFrame, mkF, argsToLocals, Value.category]; done) | rfl
theorem d_prog_5_method_6_0 : decode prog_5_method_6_code 0 = .ok (.aload_n 0, 1) := by decide +kernel
theorem d_prog_5_method_6_1 : decode prog_5_method_6_code 1 = .ok (.getfield 17, 3) := by decide +kernel
theorem d_prog_5_method_6_4 : decode prog_5_method_6_code 4 = .ok (.ifCond .ne 13, 3) := by decide +kernel
theorem d_prog_5_method_6_17 : decode prog_5_method_6_code 17 = .ok (.aload_n 0, 1) := by decide +kernel
theorem d_prog_5_method_6_18 : decode prog_5_method_6_code 18 = .ok (.aload_n 0, 1) := by decide +kernel
theorem d_prog_5_method_6_19 : decode prog_5_method_6_code 19 = .ok (.getfield 13, 3) := by decide +kernel
theorem d_prog_5_method_6_22 : decode prog_5_method_6_code 22 = .ok (.invokevirtual 31, 3) := by decide +kernel
theorem d_prog_5_method_6_25 : decode prog_5_method_6_code 25 = .ok (.areturn, 1) := by decide +kernel
theorem ef_rm_rem_1_0_RNN (m : MethodId) (x0 : Addr) : entryFrame m #[(.ref x0)] 2 = mkF m 0 #[.val (.ref x0), .unset] [] := by first | (simp [entryFrame, mkF, argsToLocals, Value.category]; done) | rfl
theorem d_prog_5_method_8_0 : decode prog_5_method_8_code 0 = .ok (.aload_n 0, 1) := by decide +kernel
theorem pd_8 : parseMethodDescriptor "()Ljava/lang/Object;" = some ⟨[], some (.object "java/lang/Object")⟩ := by decide +kernel
theorem d_prog_5_method_8_1 : decode prog_5_method_8_code 1 = .ok (.invokevirtual 35, 3) := by decide +kernel
theorem d_prog_5_method_8_4 : decode prog_5_method_8_code 4 = .ok (.astore_n 1, 1) := by decide +kernel
theorem d_prog_5_method_8_5 : decode prog_5_method_8_code 5 = .ok (.aload_n 0, 1) := by decide +kernel
theorem d_prog_5_method_8_6 : decode prog_5_method_8_code 6 = .ok (.getfield 7, 3) := by decide +kernel
theorem d_prog_5_method_8_9 : decode prog_5_method_8_code 9 = .ok (.aload_n 0, 1) := by decide +kernel
theorem d_prog_5_method_8_10 : decode prog_5_method_8_code 10 = .ok (.getfield 21, 3) := by decide +kernel
theorem d_prog_5_method_8_13 : decode prog_5_method_8_code 13 = .ok (.aconst_null, 1) := by decide +kernel
theorem d_prog_5_method_8_14 : decode prog_5_method_8_code 14 = .ok (.aastore, 1) := by decide +kernel
theorem d_prog_5_method_8_15 : decode prog_5_method_8_code 15 = .ok (.aload_n 0, 1) := by decide +kernel
theorem d_prog_5_method_8_16 : decode prog_5_method_8_code 16 = .ok (.aload_n 0, 1) := by decide +kernel
theorem d_prog_5_method_8_17 : decode prog_5_method_8_code 17 = .ok (.getfield 21, 3) := by decide +kernel
theorem d_prog_5_method_8_20 : decode prog_5_method_8_code 20 = .ok (.iconst 1, 1) := by decide +kernel
theorem d_prog_5_method_8_21 : decode prog_5_method_8_code 21 = .ok (.iadd, 1) := by decide +kernel
theorem d_prog_5_method_8_22 : decode prog_5_method_8_code 22 = .ok (.aload_n 0, 1) := by decide +kernel
theorem d_prog_5_method_8_23 : decode prog_5_method_8_code 23 = .ok (.getfield 7, 3) := by decide +kernel
theorem d_prog_5_method_8_26 : decode prog_5_method_8_code 26 = .ok (.arraylength, 1) := by decide +kernel
theorem d_prog_5_method_8_27 : decode prog_5_method_8_code 27 = .ok (.irem, 1) := by decide +kernel
theorem d_prog_5_method_8_28 : decode prog_5_method_8_code 28 = .ok (.putfield 21, 3) := by decide +kernel
theorem d_prog_5_method_8_31 : decode prog_5_method_8_code 31 = .ok (.aload_n 0, 1) := by decide +kernel
theorem d_prog_5_method_8_32 : decode prog_5_method_8_code 32 = .ok (.dup, 1) := by decide +kernel
theorem d_prog_5_method_8_33 : decode prog_5_method_8_code 33 = .ok (.getfield 17, 3) := by decide +kernel
theorem d_prog_5_method_8_36 : decode prog_5_method_8_code 36 = .ok (.iconst 1, 1) := by decide +kernel
theorem d_prog_5_method_8_37 : decode prog_5_method_8_code 37 = .ok (.isub, 1) := by decide +kernel
theorem d_prog_5_method_8_38 : decode prog_5_method_8_code 38 = .ok (.putfield 17, 3) := by decide +kernel
theorem d_prog_5_method_8_41 : decode prog_5_method_8_code 41 = .ok (.aload_n 0, 1) := by decide +kernel
theorem d_prog_5_method_8_42 : decode prog_5_method_8_code 42 = .ok (.dup, 1) := by decide +kernel
theorem d_prog_5_method_8_43 : decode prog_5_method_8_code 43 = .ok (.getfield 13, 3) := by decide +kernel
theorem d_prog_5_method_8_46 : decode prog_5_method_8_code 46 = .ok (.lconst 1, 1) := by decide +kernel
theorem d_prog_5_method_8_47 : decode prog_5_method_8_code 47 = .ok (.ladd, 1) := by decide +kernel
theorem d_prog_5_method_8_48 : decode prog_5_method_8_code 48 = .ok (.putfield 13, 3) := by decide +kernel
theorem d_prog_5_method_8_51 : decode prog_5_method_8_code 51 = .ok (.aload_n 1, 1) := by decide +kernel
theorem d_prog_5_method_8_52 : decode prog_5_method_8_code 52 = .ok (.areturn, 1) := by decide +kernel
theorem ef_rm_add_0_1_NNN (m : MethodId) (x0 : Addr) (x1 : Addr) : entryFrame m #[(.ref x0), (.ref x1)] 4 = mkF m 0 #[.val (.ref x0), .val (.ref x1), .unset, .unset] [] := by first | (simp [entryFrame, mkF, argsToLocals, Value.category]; done) | rfl
theorem ef_rm_get_1_1_NRN_0 (m : MethodId) (x0 : Addr) (x1 : Int64) : entryFrame m #[(.ref x0), (.long x1)] 4 = mkF m 0 #[.val (.ref x0), .val (.long x1), .second, .unset] [] := by first | (simp [entryFrame, mkF, argsToLocals, Value.category]; done) | rfl
theorem ef_rm_get_1_1_NRN_lo (m : MethodId) (x0 : Addr) (x1 : Int64) : entryFrame m #[(.ref x0), (.long x1)] 4 = mkF m 0 #[.val (.ref x0), .val (.long x1), .second, .unset] [] := by first | (simp [entryFrame, mkF, argsToLocals, Value.category]; done) | rfl
theorem ef_rm_get_1_1_NRN_hi (m : MethodId) (x0 : Addr) (x1 : Int64) : entryFrame m #[(.ref x0), (.long x1)] 4 = mkF m 0 #[.val (.ref x0), .val (.long x1), .second, .unset] [] := by first | (simp [entryFrame, mkF, argsToLocals, Value.category]; done) | rfl
theorem ef_rm_add_2_0_RRN (m : MethodId) (x0 : Addr) (x1 : Addr) : entryFrame m #[(.ref x0), (.ref x1)] 4 = mkF m 0 #[.val (.ref x0), .val (.ref x1), .unset, .unset] [] := by first | (simp [entryFrame, mkF, argsToLocals, Value.category]; done) | rfl
theorem ef_rm_get_3_0_RRR_2 (m : MethodId) (x0 : Addr) (x1 : Int64) : entryFrame m #[(.ref x0), (.long x1)] 4 = mkF m 0 #[.val (.ref x0), .val (.long x1), .second, .unset] [] := by first | (simp [entryFrame, mkF, argsToLocals, Value.category]; done) | rfl
theorem ef_rm_get_3_0_RRR_1 (m : MethodId) (x0 : Addr) (x1 : Int64) : entryFrame m #[(.ref x0), (.long x1)] 4 = mkF m 0 #[.val (.ref x0), .val (.long x1), .second, .unset] [] := by first | (simp [entryFrame, mkF, argsToLocals, Value.category]; done) | rfl
theorem ef_rm_get_3_0_RRR_hi (m : MethodId) (x0 : Addr) (x1 : Int64) : entryFrame m #[(.ref x0), (.long x1)] 4 = mkF m 0 #[.val (.ref x0), .val (.long x1), .second, .unset] [] := by first | (simp [entryFrame, mkF, argsToLocals, Value.category]; done) | rfl
theorem ef_rm_fst_2_0_RRN (m : MethodId) (x0 : Addr) : entryFrame m #[(.ref x0)] 1 = mkF m 0 #[.val (.ref x0)] [] := by first | (simp [entryFrame, mkF, argsToLocals, Value.category]; done) | rfl
theorem ef_rm_rem_2_0_RRN (m : MethodId) (x0 : Addr) : entryFrame m #[(.ref x0)] 2 = mkF m 0 #[.val (.ref x0), .unset] [] := by first | (simp [entryFrame, mkF, argsToLocals, Value.category]; done) | rfl
theorem ef_rm_add_1_1_NRN (m : MethodId) (x0 : Addr) (x1 : Addr) : entryFrame m #[(.ref x0), (.ref x1)] 4 = mkF m 0 #[.val (.ref x0), .val (.ref x1), .unset, .unset] [] := by first | (simp [entryFrame, mkF, argsToLocals, Value.category]; done) | rfl
theorem ef_rm_get_2_1_NRR_1 (m : MethodId) (x0 : Addr) (x1 : Int64) : entryFrame m #[(.ref x0), (.long x1)] 4 = mkF m 0 #[.val (.ref x0), .val (.long x1), .second, .unset] [] := by first | (simp [entryFrame, mkF, argsToLocals, Value.category]; done) | rfl
theorem ef_rm_get_2_1_NRR_0 (m : MethodId) (x0 : Addr) (x1 : Int64) : entryFrame m #[(.ref x0), (.long x1)] 4 = mkF m 0 #[.val (.ref x0), .val (.long x1), .second, .unset] [] := by first | (simp [entryFrame, mkF, argsToLocals, Value.category]; done) | rfl
theorem ef_rm_get_2_1_NRR_hi (m : MethodId) (x0 : Addr) (x1 : Int64) : entryFrame m #[(.ref x0), (.long x1)] 4 = mkF m 0 #[.val (.ref x0), .val (.long x1), .second, .unset] [] := by first | (simp [entryFrame, mkF, argsToLocals, Value.category]; done) | rfl
theorem pn_3 : plainName "com/example/hold_until_acked/holduntilacked/engine/ConsecutiveRingAddPinLaw" = true := by first | (simp [plainName, overriddenIn]; done) | decide +kernel
theorem wq {Z : State} {a0 : Array Value} (hw : ∀ d ∈ tables_1, d.before a0 Z = true) (i : Nat) {d : Jvm.Cond} (h : tables_1[i]? = some d) : d.before a0 Z = true := hw d (List.mem_of_getElem? h)
abbrev Met (l : Launch) (y : MethodName) (bytes : ByteArray) (ml : Nat) (rt : Option FieldType) (ws : List Jvm.Cond) (rm : Room) (args : Array Value) (Z : State) (h0 : Heap) (Q : Option Value → Heap → List Loc → Prop) : Prop :=
  MetFree l y (head1 (Jvm.Cond.code y bytes ml rt :: ws) rm) (fun a U => a = args ∧ Z.Warmed39 U.vm ∧ U.heap = h0) (fun _ _ _ _ _ => True) (fun _ U o U' => ∃ v L, o = .returned v ∧ Q v U'.heap L ∧ FrameEnd U o U' L rm.cells rm.slots)
abbrev MetW (l : Launch) (y : MethodName) (bytes : ByteArray) (ml : Nat) (rt : Option FieldType) (ws : List Jvm.Cond) (rm : Room) (args : Array Value) (Z : State) (h0 : Heap) (Q : Option Value → Heap → List Loc → Prop) : Prop :=
  MetFree l y (head1 (Jvm.Cond.code y bytes ml rt :: ws) rm) (fun a U => a = args ∧ Z.Warmed39 U.vm ∧ U.heap = h0) (fun _ _ _ _ _ => True) (fun _ U o U' => ∃ v L, o = .returned v ∧ Q v U'.heap L ∧ ReturnedEndW U o U' L rm.cells rm.slots)
abbrev Go (p : Program) (e : Env) (below : List Frame) (s₁ : State) (f₀ : JFrame) (T : State) (f : JFrame) : Prop := ∀ t, Steps p.tables e below (T.setTop f) t → Steps p.tables e below (s₁.setTop f₀) t
abbrev nIntege_0 : String := "java/lang/Integer"
abbrev nConsec_1 : String := "com/example/hold_until_acked/holduntilacked/engine/ConsecutiveRing"
abbrev nObject_2 : String := "java/lang/Object"
abbrev my_0 : MethodName := (⟨"java/lang/Number", "<init>", "()V"⟩ : MethodName)
abbrev my_1 : MethodName := (⟨"java/lang/Integer", "<init>", "(I)V"⟩ : MethodName)
abbrev my_2 : MethodName := (⟨"java/lang/Integer", "valueOf", "(I)Ljava/lang/Integer;"⟩ : MethodName)
abbrev my_3 : MethodName := (⟨"com/example/hold_until_acked/holduntilacked/engine/ConsecutiveRing", "<init>", "(J)V"⟩ : MethodName)
abbrev my_4 : MethodName := (⟨"com/example/hold_until_acked/holduntilacked/engine/ConsecutiveRing", "size", "()I"⟩ : MethodName)
abbrev my_5 : MethodName := (⟨"com/example/hold_until_acked/holduntilacked/engine/ConsecutiveRing", "firstNumber", "()J"⟩ : MethodName)
abbrev my_6 : MethodName := (⟨"com/example/hold_until_acked/holduntilacked/engine/ConsecutiveRing", "add", "(Ljava/lang/Object;)V"⟩ : MethodName)
abbrev my_7 : MethodName := (⟨"com/example/hold_until_acked/holduntilacked/engine/ConsecutiveRing", "get", "(J)Ljava/lang/Object;"⟩ : MethodName)
abbrev my_8 : MethodName := (⟨"com/example/hold_until_acked/holduntilacked/engine/ConsecutiveRing", "first", "()Ljava/lang/Object;"⟩ : MethodName)
abbrev my_9 : MethodName := (⟨"com/example/hold_until_acked/holduntilacked/engine/ConsecutiveRing", "removeFirst", "()Ljava/lang/Object;"⟩ : MethodName)
def ICB (Z : State) (a : Addr) (c : Cell) : Prop := Sta Z Z.heap "java/lang/Integer$IntegerCache" "cache" "[Ljava/lang/Integer;" (.ref a) ∧ Arr Z Z.heap a c (.object nIntege_0) ∧ c.slots.size = 256 ∧ (∀ j : Int32, ¬ (j < 0 ∨ c.slots.size ≤ j.toNatClampNeg) → ∃ y, c.slots[j.toNatClampNeg]? = some (.ref y) ∧ Exa Z Z.heap y nIntege_0) ∧ Sta Z Z.heap "java/lang/Integer$IntegerCache" "high" "I" (.int (127 : Int32))
theorem own_icb {s : State} {args : Array Value} {d : Cond} (w1 : (Cond.initializedFor "java/lang/Integer$IntegerCache" "high" "I").before args s = true) (wi : (Cond.initialized "java/lang/Integer$IntegerCache").before args s = true) (w2 : (Cond.laysStatic "java/lang/Integer$IntegerCache" "cache" "[Ljava/lang/Integer;").before args s = true) (w3 : (Cond.eq (.static "java/lang/Integer$IntegerCache" "high" "I") (.int 127)).before args s = true) (w4 : (Cond.arrayOf (.static "java/lang/Integer$IntegerCache" "cache" "[Ljava/lang/Integer;") (.object nIntege_0)).before args s = true) (w6 : (Cond.eq (.length (.static "java/lang/Integer$IntegerCache" "cache" "[Ljava/lang/Integer;")) (.int 256)).before args s = true)
    (w7 : (Cond.all (.static "java/lang/Integer$IntegerCache" "cache" "[Ljava/lang/Integer;") (.and (.exactly (.elem (.static "java/lang/Integer$IntegerCache" "cache" "[Ljava/lang/Integer;") (.index 0)) nIntege_0) d)).before args s = true) : ∃ a c, ICB s a c := by
  obtain ⟨a, ev⟩ := arr_v (Cond.before_iff.mp w4)
  obtain ⟨c, A⟩ := Arr.start ev (Cond.before_iff.mp w4)
  have ar := A.fin (Vm.Alike.refl s.vm)
  have le := Cond.eq_int w6 (Term.int_eval (256 : Int32))
  have lt := SBG.length_lt ev ar le
  have sz : c.slots.size.toInt32 = (256 : Int32) := Value.int.inj (Option.some.inj ((len_f ev ar lt).symm.trans le))
  have sz' : c.slots.size = 256 := by
    have h := len_toInt lt
    rw [sz] at h
    have h2 : ((256 : Int32).toInt) = 256 := by decide
    omega
  refine ⟨a, c, Sta.start ev (Or.inr ⟨wi, w2⟩), A, sz', fun j hj => ?_, Sta.start (Cond.eq_int w3 (Term.int_eval (127 : Int32))) (Or.inl w1)⟩
  have hj' : j.toNatClampNeg < c.slots.size := by omega
  have hx := Cond.all_elim ev ar (Cond.before_iff.mp w7) _ hj'
  obtain ⟨h1, -⟩ := and_e hx
  obtain ⟨y, ey⟩ := exa_v h1
  exact ⟨y, (elem_in ey ev (idx_at (fun q => hj (Or.inl q))) A.1).2, exa_at ey h1⟩
theorem own_idx {q : Int32} (h1 : ¬ q < (-128 : Int32)) (h2 : ¬ (127 : Int32) < q) {c : Cell} (hc : c.slots.size = 256) : ¬ ((q + (128 : Int32)) < 0 ∨ c.slots.size ≤ (q + (128 : Int32)).toNatClampNeg) := by
  rw [Int32.lt_iff_toInt_lt] at h1 h2
  have e1 : ((-128 : Int32).toInt) = -128 := by decide
  have e2 : ((127 : Int32).toInt) = 127 := by decide
  have e3 : ((128 : Int32).toInt) = 128 := by decide
  have e4 : ((0 : Int32).toInt) = 0 := by decide
  have a3 := c_iadd q (128 : Int32)
  have a4 := rng32 (q + (128 : Int32))
  rw [Int32.lt_iff_toInt_lt]
  rintro (h | h)
  · omega
  · have hn : (q + (128 : Int32)).toNatClampNeg = (q + (128 : Int32)).toInt.toNat := rfl
    rw [hn] at h
    omega
theorem own_j {x y : Int64} (h : (x.toInt - y.toInt) % 18446744073709551616 = 0) : x = y := by
  have a := rng64 x
  have b := rng64 y
  exact Int64.toInt_inj.mp (by omega)
theorem own_sub (f a b d : Int64) (hd : a.toInt - b.toInt = d.toInt) : (f + a) - (f + b) = d := by
  have h1 := c_lsub (f + a) (f + b)
  have h2 := c_ladd f a
  have h3 := c_ladd f b
  exact own_j (by omega)
theorem own_x (h n f d k : Int64) (hd : n - f = d) (hk : h.toInt + d.toInt = k.toInt) : (h + n) - f = k := by
  subst hd
  have h1 := c_lsub (h + n) f
  have h2 := c_ladd h n
  have h3 := c_lsub n f
  have h4 := rng64 (n - f)
  exact own_j (by omega)
theorem own_ge {f a b : Int64} (hf : f.toInt ≤ 9223372036854775799) (ha : 0 ≤ a.toInt ∧ a.toInt ≤ 3) (hb : 0 ≤ b.toInt ∧ b.toInt ≤ a.toInt) : ¬ (f + a) < (f + b) := by
  rw [Int64.lt_iff_toInt_lt]
  have h2 := c_ladd f a
  have h3 := c_ladd f b
  have h4 := rng64 (f + a)
  have h5 := rng64 (f + b)
  have h6 := rng64 f
  omega
theorem own_lt {f a b : Int64} (hf : f.toInt ≤ 9223372036854775799) (ha : 0 ≤ a.toInt ∧ a.toInt < b.toInt) (hb : b.toInt ≤ 3) : (f + a) < (f + b) := by
  rw [Int64.lt_iff_toInt_lt]
  have h2 := c_ladd f a
  have h3 := c_ladd f b
  have h4 := rng64 (f + a)
  have h5 := rng64 (f + b)
  have h6 := rng64 f
  omega
theorem own_ge2 {f a b v q : Int64} (hv : v = f + a) (hq : f + b = q) (hf : f.toInt ≤ 9223372036854775799) (ha : 0 ≤ a.toInt ∧ a.toInt ≤ 3) (hb : 0 ≤ b.toInt ∧ b.toInt ≤ a.toInt) : ¬ v < q := by
  subst hv
  subst hq
  exact own_ge hf ha hb
theorem own_lt2 {f a b v q : Int64} (hv : v = f + a) (hq : f + b = q) (hf : f.toInt ≤ 9223372036854775799) (ha : 0 ≤ a.toInt ∧ a.toInt < b.toInt) (hb : b.toInt ≤ 3) : v < q := by
  subst hv
  subst hq
  exact own_lt hf ha hb
theorem own_sub2 {f a b v q d : Int64} (hv : v = f + a) (hq : f + b = q) (hd : a.toInt - b.toInt = d.toInt) : v - q = d := by
  subst hv
  subst hq
  exact own_sub f a b d hd
theorem own_f0 (f : Int64) : f + (0 : Int64) = f := by
  have h2 := c_ladd f 0
  have e : ((0 : Int64).toInt) = 0 := by decide
  exact own_j (by omega)
theorem own_f1 (f a b c : Int64) (hd : a.toInt - b.toInt = c.toInt) : f + a - b = f + c := by
  have h1 := c_lsub (f + a) b
  have h2 := c_ladd f a
  have h3 := c_ladd f c
  exact own_j (by omega)
theorem own_f2 (f a b c : Int64) (hd : a.toInt + b.toInt = c.toInt) : f + a + b = f + c := by
  have h1 := c_ladd (f + a) b
  have h2 := c_ladd f a
  have h3 := c_ladd f c
  exact own_j (by omega)
theorem own_b1 {z : Int64} (h : ¬ (9223372036854775799 : Int64) < z) : z.toInt ≤ 9223372036854775799 := by
  rw [Int64.lt_iff_toInt_lt] at h
  have e : ((9223372036854775799 : Int64).toInt) = 9223372036854775799 := by decide
  omega
theorem own_b2 {z : Int64} (h : (9223372036854775799 : Int64) < z) : (z - (8 : Int64)).toInt ≤ 9223372036854775799 := by
  rw [Int64.lt_iff_toInt_lt] at h
  have e : ((9223372036854775799 : Int64).toInt) = 9223372036854775799 := by decide
  have e8 : ((8 : Int64).toInt) = 8 := by decide
  have h1 := c_lsub z 8
  have h2 := rng64 (z - 8)
  have h3 := rng64 z
  omega
def Ring (Z : State) (n0 : Nat) (h : Heap) (a b : Addr) (k : ClassId) (s hd : Int32) (f : Int64) (vs : List Value) : Prop := Exa Z h a nConsec_1 ∧ Fld Z h a nConsec_1 "values" "[Ljava/lang/Object;" (.ref b) ∧ Fld Z h a nConsec_1 "size" "I" (.int s) ∧ Fld Z h a nConsec_1 "head" "I" (.int hd) ∧ Fld Z h a nConsec_1 "first" "J" (.long f) ∧ Arv Z h b k (.object nObject_2) (16 : Int32) vs .null ∧ Ovr Z k nObject_2 ∧ n0 ≤ a ∧ n0 ≤ b
def QI (r : Int32) (h0 : Heap) (n0 : Nat) (v : Option Value) (h : Heap) (L : List Loc) : Prop := v = some (.int r) ∧ Fr n0 L ∧ h = h0
def QJ (r : Int64) (h0 : Heap) (n0 : Nat) (v : Option Value) (h : Heap) (L : List Loc) : Prop := v = some (.long r) ∧ Fr n0 L ∧ h = h0
def QX (r : Value) (h0 : Heap) (n0 : Nat) (v : Option Value) (h : Heap) (L : List Loc) : Prop := v = some r ∧ Fr n0 L ∧ h = h0
def QN (h0 : Heap) (n0 : Nat) (v : Option Value) (h : Heap) (L : List Loc) : Prop := v = none ∧ Fr n0 L ∧ h = h0
def QL (Z : State) (a5 : Addr) (h0 : Heap) (n0 : Nat) (v : Option Value) (h : Heap) (L : List Loc) : Prop := v = none ∧ Fr n0 L ∧ Keep h0 h [a5] ∧ Exa Z h a5 nIntege_0
def QV (Z : State) (h0 : Heap) (n0 : Nat) (v : Option Value) (h : Heap) (L : List Loc) : Prop := ∃ r, v = some (.ref r) ∧ Fr n0 L ∧ Keep h0 h [] ∧ Exa Z h r nIntege_0
def QG (Z : State) (rv : Option Value) (a5 b5 : Addr) (k : ClassId) (s hd : Int32) (f : Int64) (vs : List Value) (h0 : Heap) (n0 : Nat) (v : Option Value) (h : Heap) (L : List Loc) : Prop := v = rv ∧ Fr n0 L ∧ Keep h0 h [a5, b5] ∧ Ring Z n0 h a5 b5 k s hd f vs
def QB (Z : State) (a5 : Addr) (f : Int64) (vs : List Value) (h0 : Heap) (n0 : Nat) (v : Option Value) (h : Heap) (L : List Loc) : Prop := ∃ b k, v = none ∧ Fr n0 L ∧ Keep h0 h [a5] ∧ Ring Z n0 h a5 b k (0 : Int32) (0 : Int32) f vs
def Q0 (n0 : Nat) (v : Option Value) (h : Heap) (L : List Loc) : Prop := v = some (.int 1) ∧ Fr n0 L
set_option maxRecDepth 65536 in
set_option maxHeartbeats 40000000 in
theorem rm_num (l : Launch) (Z : State) (a0 : Array Value) (hw : ∀ d ∈ tables_1, d.before a0 Z = true) (ws : List Jvm.Cond) (a5 : Addr) (h0 : Heap) (n0 : Nat) :
    Met l my_0 jdk_18_method_1_code 1 none ws ({ frames := 1, cells := 0, slots := 0, locals := 12 } : Room) #[(.ref a5)] Z h0 (QN h0 n0) := by
  refine MetFree.of_bodySF (plainFor_of_name pn_0) hisR ?_
  intro p e s m args below meth c s₁ Bd hml0 hP hK
  obtain ⟨rfl, hZ, hh⟩ := hP
  have hx := Bd.exec
  have hby := Bd.bytes
  have hml : c.maxLocals = 1 := hml0
  have hown : s.vm.findClass "java/lang/Number" = some m.cls := findClass_of_methodNamed Bd.named
  have hnm := (name_of_methodNamed Bd.named Bd.method).1
  have X0 : Stand p l e ({ frames := 1, cells := 0, slots := 0, locals := 12 } : Room) s m #[(.ref a5)] below meth c s₁ [] 0 0 := Stand.of_body Bd
  have e0 : s₁.heap = h0 := by rw [← hh, Bd.state]; rfl
  have N0 := Fr.nil n0
  obtain ⟨f₀, hf₀⟩ : ∃ f, f = entryFrame m #[(.ref a5)] 1 := ⟨_, rfl⟩
  rw [← hf₀]
  have pre0 : Go p e below s₁ f₀ s₁ (mkF m 0 #[.val (.ref a5)] []) := fun t kk => castTop (hf₀.trans (ef_rm_num m (a5))) kk
  obtain ⟨T1, X1, e1, st1⟩ := initO X0 hx hZ hown (wq hw 72 rfl) (wq hw 15 rfl) (wq hw 16 rfl) e0 (g := (mkF m 1 #[.val (.ref a5)] [(.ref a5)])) rfl (by rw [hml]; rfl) rfl (hb hby d_jdk_18_method_1_1) (by decide) (W := 0) (by show 2 * 0 + _ ≤ _; exact Nat.le_of_eq rfl) (by decide)
  obtain ⟨fs, hr, hrun, hended, hW, hsame⟩ := X1.leave (v := none) (fun _ => rfl)
  refine ⟨_, _, pre0 _ ?_, hrun, hended, _, _, rfl, ?_, ⟨_, rfl⟩, hW, hsame.mono (by decide) (by decide)⟩
  · refine XS.aloadN X0.here hx rfl (hb hby d_jdk_18_method_1_0) rfl rfl ?_
    refine st1 _ ?_
    exact X1.returnOut hx Bd.returns (hb hby d_jdk_18_method_1_4) hr
  · show QN h0 n0 _ T1.heap _
    rw [e1]
    exact ⟨rfl, N0, rfl⟩
set_option maxRecDepth 65536 in
set_option maxHeartbeats 40000000 in
theorem rm_iinit (l : Launch) (Z : State) (a0 : Array Value) (hw : ∀ d ∈ tables_1, d.before a0 Z = true) (ws : List Jvm.Cond) (a5 : Addr) (q1 : Int32) (h0 : Heap) (n0 : Nat) (O0 : Old Z n0 h0) (g5 : n0 ≤ a5) (E5 : Exa Z h0 a5 nIntege_0) (F5 : Fld Z h0 a5 nIntege_0 "value" "I" (.int (0 : Int32))) :
    Met l my_1 jdk_33_method_23_code 2 none ws ({ frames := 2, cells := 0, slots := 0, locals := 24 } : Room) #[(.ref a5), (.int q1)] Z h0 (QL Z a5 h0 n0) := by
  refine MetFree.of_bodySF (plainFor_of_name pn_1) hisR ?_
  intro p e s m args below meth c s₁ Bd hml0 hP hK
  obtain ⟨rfl, hZ, hh⟩ := hP
  have hx := Bd.exec
  have hby := Bd.bytes
  have hml : c.maxLocals = 2 := hml0
  have hown : s.vm.findClass nIntege_0 = some m.cls := findClass_of_methodNamed Bd.named
  have hnm := (name_of_methodNamed Bd.named Bd.method).1
  have X0 : Stand p l e ({ frames := 2, cells := 0, slots := 0, locals := 24 } : Room) s m #[(.ref a5), (.int q1)] below meth c s₁ [] 0 0 := Stand.of_body Bd
  have e0 : s₁.heap = h0 := by rw [← hh, Bd.state]; rfl
  have N0 := Fr.nil n0
  obtain ⟨f₀, hf₀⟩ : ∃ f, f = entryFrame m #[(.ref a5), (.int q1)] 2 := ⟨_, rfl⟩
  rw [← hf₀]
  have pre0 : Go p e below s₁ f₀ s₁ (mkF m 0 #[.val (.ref a5), .val (.int q1)] []) := fun t kk => castTop (hf₀.trans (ef_rm_iinit m (a5) (q1))) kk
  obtain ⟨_, _, ⟨T1, L1, k1, n1⟩, -, X1, ⟨Lc1, hQ1, l1, y1, z1⟩, st1⟩ := X0.specialBack hx (y := my_0) rfl hown (mvT hZ (wq hw 66 rfl)) (mvT hZ (wq hw 67 rfl)) (mvT hZ (wq hw 71 rfl)) (by decide) (backOf (W := 0) (rm_num l Z a0 hw [] a5 h0 n0) hZ (wq hw 71 rfl) (wq hw 70 rfl) (by decide) (by decide)) (g := (mkF m 1 #[.val (.ref a5), .val (.int q1)] [(.ref a5)])) rfl (by rw [hml]; rfl) (Steps.refl _) (a := a5) (argsL := []) (rest := []) (lenOf pd_0 rfl) rfl (by show 2 * 0 + _ ≤ _; exact Nat.le_of_eq rfl) (hb hby d_jdk_33_method_23_1) (fun _ _ => ⟨rfl, e0, (by decide : 0 + 0 ≤ _), (by decide : 0 + 0 ≤ _)⟩)
  dsimp only [Pt.U, Pt.locs, Pt.cells, Pt.slots] at X1 l1 y1 z1 st1 hQ1
  have X1 := own_to X1 l1 y1 z1
  obtain ⟨rfl, N1q, e1⟩ := hQ1
  have N1 := Fr.app N0 N1q
  obtain ⟨T2, h2, X2, e2, W2, st2⟩ := putF X1 hx hZ hown (host := "") (Or.inl (wq hw 73 rfl)) Via.refl e1 F5 E5 (Or.inr ⟨(wq hw 74 rfl), rfl, hnm⟩) (wq hw 61 rfl) (ty := .int) (by decide) rfl rfl (g := (mkF m 6 #[.val (.ref a5), .val (.int q1)] [(.int q1), (.ref a5)])) rfl rfl (hb hby d_jdk_33_method_23_6)
  have f3 : Fld Z h2 a5 nIntege_0 "value" "I" (.int q1) := F5.same W2
  have N2 := Fr.snoc X2 N1 g5
  have O4 : Old Z n0 h2 := Old.wr O0 W2 g5
  have K5 : Keep h0 h2 [a5] := (Keep.refl h0 [a5]).wr W2 (Or.inl (List.mem_of_getElem? (i := 0) rfl))
  have t6 : Exa Z h2 a5 nIntege_0 := (E5.wr W2)
  obtain ⟨fs, hr, hrun, hended, hW, hsame⟩ := X2.leave (v := none) (fun _ => rfl)
  refine ⟨_, _, pre0 _ ?_, hrun, hended, _, _, rfl, ?_, ⟨_, rfl⟩, hW, hsame.mono (by decide) (by decide)⟩
  · refine XS.aloadN X0.here hx rfl (hb hby d_jdk_33_method_23_0) rfl rfl ?_
    show Steps p.tables e below (s₁.setTop (mkF m 1 #[.val (.ref a5), .val (.int q1)] [(.ref a5)])) _
    refine st1.trans ?_
    refine XS.aloadN X1.here hx rfl (hb hby d_jdk_33_method_23_4) rfl rfl ?_
    refine XS.iloadN X1.here hx rfl (hb hby d_jdk_33_method_23_5) rfl ?_
    refine st2 _ ?_
    exact X2.returnOut hx Bd.returns (hb hby d_jdk_33_method_23_9) hr
  · show QL Z a5 h0 n0 _ T2.heap _
    rw [e2]
    exact ⟨rfl, N2, K5, t6⟩
set_option maxRecDepth 65536 in
set_option maxHeartbeats 40000000 in
theorem rm_val (l : Launch) (Z : State) (a0 : Array Value) (hw : ∀ d ∈ tables_1, d.before a0 Z = true) (ws : List Jvm.Cond) (ca : Addr) (cc : Cell) (hL : ICB Z ca cc) (q1 : Int32) (h0 : Heap) (n0 : Nat) (O0 : Old Z n0 h0) :
    Met l my_2 jdk_33_method_22_code 1 (some (.object nIntege_0)) ws ({ frames := 3, cells := 1, slots := 1, locals := 38 } : Room) #[(.int q1)] Z h0 (QV Z h0 n0) := by
  refine MetFree.of_bodySF (plainFor_of_name pn_1) hisR ?_
  intro p e s m args below meth c s₁ Bd hml0 hP hK
  obtain ⟨rfl, hZ, hh⟩ := hP
  have hx := Bd.exec
  have hby := Bd.bytes
  have hml : c.maxLocals = 1 := hml0
  have hown : s.vm.findClass nIntege_0 = some m.cls := findClass_of_methodNamed Bd.named
  have hnm := (name_of_methodNamed Bd.named Bd.method).1
  have X0 : Stand p l e ({ frames := 3, cells := 1, slots := 1, locals := 38 } : Room) s m #[(.int q1)] below meth c s₁ [] 0 0 := Stand.of_body Bd
  have e0 : s₁.heap = h0 := by rw [← hh, Bd.state]; rfl
  have N0 := Fr.nil n0
  obtain ⟨f₀, hf₀⟩ : ∃ f, f = entryFrame m #[(.int q1)] 1 := ⟨_, rfl⟩
  rw [← hf₀]
  have pre0 : Go p e below s₁ f₀ s₁ (mkF m 0 #[.val (.int q1)] []) := fun t kk => castTop (hf₀.trans (ef_rm_val m (q1))) kk
  have gp1 : Go p e below s₁ f₀ s₁ (mkF m 3 #[.val (.int q1)] [(.int (-128 : Int32)), (.int q1)]) := fun t kt => pre0 t (by
    refine XS.iloadN X0.here hx rfl (hb hby d_jdk_33_method_22_0) rfl ?_
    refine XS.bipush X0.here hx rfl (hb hby d_jdk_33_method_22_1) ?_
    exact kt)
  by_cases h3 : q1 < (-128 : Int32)
  · obtain ⟨T2, h2, X2, e2, E2, A2, D2, -, st2⟩ := newO X0 hx hZ hown (wq hw 60 rfl) (wq hw 61 rfl) (wq hw 3 rfl) e0 (g := (mkF m 23 #[.val (.int q1)] [])) rfl (hb hby d_jdk_33_method_22_23) (by decide) (by decide)
    obtain ⟨b2, gb2⟩ : ∃ z, z = h0.size := ⟨_, rfl⟩
    rw [← gb2] at A2 D2 st2
    have g3 : n0 ≤ b2 := Nat.le_trans (Nat.le_of_eq O0.1.symm) (Nat.le_trans O0.2.1 (Nat.le_of_eq gb2.symm))
    have s4 : h0.size ≤ b2 := Nat.le_trans (Keep.refl h0 []).1 (Nat.le_of_eq gb2.symm)
    have O5 : Old Z n0 h2 := Old.ext O0 E2
    have K6 : Keep h0 h2 [] := (Keep.refl h0 []).ext E2
    have f7 : Fld Z h2 b2 nIntege_0 "value" "I" (.int (0 : Int32)) := D2 (Or.inr (wq hw 74 rfl)) (ty := .int) (by decide)
    obtain ⟨_, _, ⟨T8, L8, k8, n8⟩, -, X8, ⟨Lc8, hQ8, l8, y8, z8⟩, st8⟩ := X2.specialBack hx (y := my_1) rfl hown (mvT hZ (wq hw 62 rfl)) (mvT hZ (wq hw 63 rfl)) (mvT hZ (wq hw 65 rfl)) (by decide) (backOf (W := 1) (rm_iinit l Z a0 hw [] b2 q1 h2 n0 O5 g3 A2 f7) hZ (wq hw 65 rfl) (wq hw 3 rfl) (by decide) (by decide)) (g := (mkF m 28 #[.val (.int q1)] [(.int q1), (.ref b2), (.ref b2)])) rfl (by rw [hml]; rfl) (Steps.refl _) (a := b2) (argsL := [(.int q1)]) (rest := [(.ref b2)]) (lenOf pd_1 rfl) rfl (by show 2 * 0 + _ ≤ _; exact Nat.le_of_eq rfl) (hb hby d_jdk_33_method_22_28) (fun _ _ => ⟨rfl, e2, (by decide : 1 + 0 ≤ _), (by decide : 1 + 0 ≤ _)⟩)
    dsimp only [Pt.U, Pt.locs, Pt.cells, Pt.slots] at X8 l8 y8 z8 st8 hQ8
    have X8 := own_to X8 l8 y8 z8
    obtain ⟨rfl, N8q, K8, E8q⟩ := hQ8
    have N8 := Fr.app N0 N8q
    have O9 : Old Z n0 T8.heap := Old.keep O5 K8 (allS g3 all0)
    have K10 : Keep h0 T8.heap [] := K6.trans K8 (allS (Or.inr s4) all0)
    obtain ⟨fs, hr, hrun, hended, hW, hsame⟩ := X8.leave (v := (some (.ref b2))) (fun h => by rw [Bd.returns] at h; cases h)
    refine ⟨_, _, gp1 _ ?_, hrun, hended, _, _, rfl, ?_, ⟨_, rfl⟩, hW, hsame.mono (by decide) (by decide)⟩
    · refine XS.icmpYes X0.here hx rfl (pc0 := 3) (pc' := 23) rfl (hb hby d_jdk_33_method_22_3) rfl (tlt h3).1 (by decide) (by decide) ?_
      show Steps p.tables e below (s₁.setTop (mkF m 23 #[.val (.int q1)] [])) _
      refine st2 _ ?_
      refine XS.dup X2.here hx rfl (hb hby d_jdk_33_method_22_26) rfl rfl ?_
      refine XS.iloadN X2.here hx rfl (hb hby d_jdk_33_method_22_27) rfl ?_
      refine st8.trans ?_
      exact retOut X8 hx Bd.returns rfl (Or.inr (Or.inr (Or.inr (Or.inr ⟨rfl, rfl, rfl⟩)))) (hb hby d_jdk_33_method_22_31) hr
    · show QV Z h0 n0 _ T8.heap _
      exact ⟨_, rfl, N8, K10, E8q⟩
  · obtain ⟨T11, X11, e11, st11⟩ := getS2 X0 hx hZ hown (host := "") (Or.inl (wq hw 5 rfl)) Via.refl e0 (hL.2.2.2.2.ext O0.2) (g := (mkF m 7 #[.val (.int q1)] [(.int q1)])) rfl (hb hby d_jdk_33_method_22_7)
    have gp12 : Go p e below s₁ f₀ T11 (mkF m 10 #[.val (.int q1)] [(.int (127 : Int32)), (.int q1)]) := fun t kt => gp1 t (by
      refine XS.icmpNo X0.here hx rfl (hb hby d_jdk_33_method_22_3) rfl (flt h3).1 ?_
      refine XS.iloadN X0.here hx rfl (hb hby d_jdk_33_method_22_6) rfl ?_
      show Steps p.tables e below (s₁.setTop (mkF m 7 #[.val (.int q1)] [(.int q1)])) _
      refine st11 _ ?_
      exact kt)
    by_cases h10 : (127 : Int32) < q1
    · obtain ⟨T13, h13, X13, e13, E13, A13, D13, -, st13⟩ := newO X11 hx hZ hown (wq hw 60 rfl) (wq hw 61 rfl) (wq hw 3 rfl) e11 (g := (mkF m 23 #[.val (.int q1)] [])) rfl (hb hby d_jdk_33_method_22_23) (by decide) (by decide)
      obtain ⟨b13, gb13⟩ : ∃ z, z = h0.size := ⟨_, rfl⟩
      rw [← gb13] at A13 D13 st13
      have g14 : n0 ≤ b13 := Nat.le_trans (Nat.le_of_eq O0.1.symm) (Nat.le_trans O0.2.1 (Nat.le_of_eq gb13.symm))
      have s15 : h0.size ≤ b13 := Nat.le_trans (Keep.refl h0 []).1 (Nat.le_of_eq gb13.symm)
      have O16 : Old Z n0 h13 := Old.ext O0 E13
      have K17 : Keep h0 h13 [] := (Keep.refl h0 []).ext E13
      have f18 : Fld Z h13 b13 nIntege_0 "value" "I" (.int (0 : Int32)) := D13 (Or.inr (wq hw 74 rfl)) (ty := .int) (by decide)
      obtain ⟨_, _, ⟨T19, L19, k19, n19⟩, -, X19, ⟨Lc19, hQ19, l19, y19, z19⟩, st19⟩ := X13.specialBack hx (y := my_1) rfl hown (mvT hZ (wq hw 62 rfl)) (mvT hZ (wq hw 63 rfl)) (mvT hZ (wq hw 65 rfl)) (by decide) (backOf (W := 1) (rm_iinit l Z a0 hw [] b13 q1 h13 n0 O16 g14 A13 f18) hZ (wq hw 65 rfl) (wq hw 3 rfl) (by decide) (by decide)) (g := (mkF m 28 #[.val (.int q1)] [(.int q1), (.ref b13), (.ref b13)])) rfl (by rw [hml]; rfl) (Steps.refl _) (a := b13) (argsL := [(.int q1)]) (rest := [(.ref b13)]) (lenOf pd_1 rfl) rfl (by show 2 * 0 + _ ≤ _; exact Nat.le_of_eq rfl) (hb hby d_jdk_33_method_22_28) (fun _ _ => ⟨rfl, e13, (by decide : 1 + 0 ≤ _), (by decide : 1 + 0 ≤ _)⟩)
      dsimp only [Pt.U, Pt.locs, Pt.cells, Pt.slots] at X19 l19 y19 z19 st19 hQ19
      have X19 := own_to X19 l19 y19 z19
      obtain ⟨rfl, N19q, K19, E19q⟩ := hQ19
      have N19 := Fr.app N0 N19q
      have O20 : Old Z n0 T19.heap := Old.keep O16 K19 (allS g14 all0)
      have K21 : Keep h0 T19.heap [] := K17.trans K19 (allS (Or.inr s15) all0)
      obtain ⟨fs, hr, hrun, hended, hW, hsame⟩ := X19.leave (v := (some (.ref b13))) (fun h => by rw [Bd.returns] at h; cases h)
      refine ⟨_, _, gp12 _ ?_, hrun, hended, _, _, rfl, ?_, ⟨_, rfl⟩, hW, hsame.mono (by decide) (by decide)⟩
      · refine XS.icmpYes X11.here hx rfl (pc0 := 10) (pc' := 23) rfl (hb hby d_jdk_33_method_22_10) rfl (tlt h10).2.2.1 (by decide) (by decide) ?_
        refine st13 _ ?_
        refine XS.dup X13.here hx rfl (hb hby d_jdk_33_method_22_26) rfl rfl ?_
        refine XS.iloadN X13.here hx rfl (hb hby d_jdk_33_method_22_27) rfl ?_
        refine st19.trans ?_
        show Steps p.tables e below (T19.setTop (mkF m 31 #[.val (.int q1)] [(.ref b13)])) _
        exact retOut X19 hx Bd.returns rfl (Or.inr (Or.inr (Or.inr (Or.inr ⟨rfl, rfl, rfl⟩)))) (hb hby d_jdk_33_method_22_31) hr
      · show QV Z h0 n0 _ T19.heap _
        exact ⟨_, rfl, N19, K21, E19q⟩
    · obtain ⟨T22, X22, e22, st22⟩ := getS2 X11 hx hZ hown (host := "") (Or.inl (wq hw 7 rfl)) Via.refl e11 (hL.1.ext O0.2) (g := (mkF m 13 #[.val (.int q1)] [])) rfl (hb hby d_jdk_33_method_22_13)
      have hin := own_idx h3 h10 hL.2.2.1
      obtain ⟨y, hy, Ey⟩ := hL.2.2.2.1 _ hin
      have Ar := hL.2.1.ext O0.2
      obtain ⟨fs, hr, hrun, hended, hW, hsame⟩ := X22.leave (v := (some (.ref y))) (fun h => by rw [Bd.returns] at h; cases h)
      refine ⟨_, _, gp12 _ ?_, hrun, hended, _, _, rfl, ?_, ⟨_, rfl⟩, hW, hsame.mono (by decide) (by decide)⟩
      · refine XS.icmpNo X11.here hx rfl (hb hby d_jdk_33_method_22_10) rfl (flt h10).2.2.1 ?_
        refine st22 _ ?_
        refine XS.iloadN X22.here hx rfl (hb hby d_jdk_33_method_22_16) rfl ?_
        refine XS.sipush X22.here hx rfl (hb hby d_jdk_33_method_22_17) ?_
        refine XS.iadd X22.here hx rfl (hb hby d_jdk_33_method_22_20) rfl ?_
        refine X22.aaload hx (j := (q1 + (128 : Int32))) (v := (.ref y)) (by rw [e22]; exact Ar.1) (State.isArrayOf_alike hZ.alike Ar.2.1) rfl Ar.2.2 hin hy (g := (mkF m 21 #[.val (.int q1)] [(.int (q1 + (128 : Int32))), (.ref ca)])) rfl rfl (hb hby d_jdk_33_method_22_21) _ ?_
        show Steps p.tables e below (T22.setTop (mkF m 22 #[.val (.int q1)] [(.ref y)])) _
        exact retOut X22 hx Bd.returns rfl (Or.inr (Or.inr (Or.inr (Or.inr ⟨rfl, rfl, rfl⟩)))) (hb hby d_jdk_33_method_22_22) hr
      · show QV Z h0 n0 _ T22.heap _
        rw [e22]
        exact ⟨_, rfl, N0, (Keep.refl h0 []), (Ey.ext O0.2)⟩
set_option maxRecDepth 65536 in
set_option maxHeartbeats 40000000 in
theorem rm_rin (l : Launch) (Z : State) (a0 : Array Value) (hw : ∀ d ∈ tables_1, d.before a0 Z = true) (ws : List Jvm.Cond) (a5 : Addr) (q1 : Int64) (h0 : Heap) (n0 : Nat) (O0 : Old Z n0 h0) (g5 : n0 ≤ a5) (E5 : Exa Z h0 a5 nConsec_1) (F_values : Fld Z h0 a5 nConsec_1 "values" "[Ljava/lang/Object;" .null) (F_size : Fld Z h0 a5 nConsec_1 "size" "I" (.int (0 : Int32))) (F_head : Fld Z h0 a5 nConsec_1 "head" "I" (.int (0 : Int32))) (F_first : Fld Z h0 a5 nConsec_1 "first" "J" (.long (0 : Int64))) :
    Met l my_3 prog_5_method_1_code 3 none ws ({ frames := 1, cells := 1, slots := 16, locals := 12 } : Room) #[(.ref a5), (.long q1)] Z h0 (QB Z a5 q1 [.null, .null, .null, .null, .null, .null, .null, .null, .null, .null, .null, .null, .null, .null, .null, .null] h0 n0) := by
  refine MetFree.of_bodySF (plainFor_of_name pn_2) hisR ?_
  intro p e s m args below meth c s₁ Bd hml0 hP hK
  obtain ⟨rfl, hZ, hh⟩ := hP
  have hx := Bd.exec
  have hby := Bd.bytes
  have hml : c.maxLocals = 3 := hml0
  have hown : s.vm.findClass nConsec_1 = some m.cls := findClass_of_methodNamed Bd.named
  have hnm := (name_of_methodNamed Bd.named Bd.method).1
  have X0 : Stand p l e ({ frames := 1, cells := 1, slots := 16, locals := 12 } : Room) s m #[(.ref a5), (.long q1)] below meth c s₁ [] 0 0 := Stand.of_body Bd
  have e0 : s₁.heap = h0 := by rw [← hh, Bd.state]; rfl
  have N0 := Fr.nil n0
  obtain ⟨f₀, hf₀⟩ : ∃ f, f = entryFrame m #[(.ref a5), (.long q1)] 3 := ⟨_, rfl⟩
  rw [← hf₀]
  have pre0 : Go p e below s₁ f₀ s₁ (mkF m 0 #[.val (.ref a5), .val (.long q1), .second] []) := fun t kk => castTop (hf₀.trans (ef_rm_rin m (a5) (q1))) kk
  obtain ⟨T1, X1, e1, st1⟩ := initO X0 hx hZ hown (wq hw 14 rfl) (wq hw 15 rfl) (wq hw 16 rfl) e0 (g := (mkF m 1 #[.val (.ref a5), .val (.long q1), .second] [(.ref a5)])) rfl (by rw [hml]; rfl) rfl (hb hby d_prog_5_method_1_1) (by decide) (W := 0) (by show 2 * 0 + _ ≤ _; exact Nat.le_of_eq rfl) (by decide)
  obtain ⟨T2, h2, k2, X2, e2, E2, A2, O2', st2⟩ := newR X1 hx hZ hown (wq hw 17 rfl) (wq hw 18 rfl) e1 (g := (mkF m 7 #[.val (.ref a5), .val (.long q1), .second] [(.int (16 : Int32)), (.ref a5)])) rfl (hb hby d_prog_5_method_1_7) rfl (by decide) (cap := 16) (by decide) (by decide) (by decide) (by decide)
  obtain ⟨b2, gb2⟩ : ∃ z, z = h0.size := ⟨_, rfl⟩
  rw [← gb2] at A2 st2
  have ne3 : a5 ≠ b2 := Nat.ne_of_lt (Nat.lt_of_lt_of_le E5.lt (Nat.le_of_eq gb2.symm))
  have g4 : n0 ≤ b2 := Nat.le_trans (Nat.le_of_eq O0.1.symm) (Nat.le_trans O0.2.1 (Nat.le_of_eq gb2.symm))
  have s5 : h0.size ≤ b2 := Nat.le_trans (Keep.refl h0 [a5]).1 (Nat.le_of_eq gb2.symm)
  have O6 : Old Z n0 h2 := Old.ext O0 E2
  have K7 : Keep h0 h2 [a5] := (Keep.refl h0 [a5]).ext E2
  have v8 : Arv Z h2 b2 k2 (.object nObject_2) (16 : Int32) [.null, .null, .null, .null, .null, .null, .null, .null, .null, .null, .null, .null, .null, .null, .null, .null] .null := (Arv.new A2 (by decide)).pad (pad_rep [] .null 16)
  have t9 : Exa Z h2 a5 nConsec_1 := (E5.ext E2)
  have t10 : Fld Z h2 a5 nConsec_1 "values" "[Ljava/lang/Object;" .null := (F_values.ext E2)
  obtain ⟨T11, h11, X11, e11, W11, st11⟩ := putF X2 hx hZ hown (host := "") (Or.inl (wq hw 19 rfl)) Via.refl e2 t10 t9 (Or.inl (wq hw 20 rfl)) (wq hw 9 rfl) (ty := (.array (.object nObject_2))) (by decide) rfl rfl (g := (mkF m 10 #[.val (.ref a5), .val (.long q1), .second] [(.ref b2), (.ref a5)])) rfl rfl (hb hby d_prog_5_method_1_10)
  have f12 : Fld Z h11 a5 nConsec_1 "values" "[Ljava/lang/Object;" (.ref b2) := t10.same W11
  have N11 := Fr.snoc X11 N0 g5
  have O13 : Old Z n0 h11 := Old.wr O6 W11 g5
  have K14 : Keep h0 h11 [a5] := K7.wr W11 (Or.inl (List.mem_of_getElem? (i := 0) rfl))
  have t15 : Exa Z h11 a5 nConsec_1 := (t9.wr W11)
  have t16 : Fld Z h11 a5 nConsec_1 "first" "J" (.long (0 : Int64)) := ((F_first.ext E2).other W11 (Or.inr (slot_ne (Or.inl (wq hw 22 rfl)) (Or.inl (wq hw 20 rfl)) (by decide) (t := .long) (t' := (.array (.object nObject_2))) (by decide) (by decide))))
  obtain ⟨T17, h17, X17, e17, W17, st17⟩ := putF X11 hx hZ hown (host := "") (Or.inl (wq hw 21 rfl)) Via.refl e11 t16 t15 (Or.inl (wq hw 22 rfl)) (wq hw 9 rfl) (ty := .long) (by decide) rfl rfl (g := (mkF m 15 #[.val (.ref a5), .val (.long q1), .second] [(.long q1), (.ref a5)])) rfl rfl (hb hby d_prog_5_method_1_15)
  have f18 : Fld Z h17 a5 nConsec_1 "first" "J" (.long q1) := t16.same W17
  have N17 := Fr.snoc X17 N11 g5
  have O19 : Old Z n0 h17 := Old.wr O13 W17 g5
  have K20 : Keep h0 h17 [a5] := K14.wr W17 (Or.inl (List.mem_of_getElem? (i := 0) rfl))
  have t21 : Exa Z h17 a5 nConsec_1 := (t15.wr W17)
  have t22 : Fld Z h17 a5 nConsec_1 "values" "[Ljava/lang/Object;" (.ref b2) := (f12.other W17 (Or.inr (slot_ne (Or.inl (wq hw 20 rfl)) (Or.inl (wq hw 22 rfl)) (by decide) (t := (.array (.object nObject_2))) (t' := .long) (by decide) (by decide))))
  have t23 : Fld Z h17 a5 nConsec_1 "size" "I" (.int (0 : Int32)) := (((F_size.ext E2).other W11 (Or.inr (slot_ne (Or.inl (wq hw 29 rfl)) (Or.inl (wq hw 20 rfl)) (by decide) (t := .int) (t' := (.array (.object nObject_2))) (by decide) (by decide)))).other W17 (Or.inr (slot_ne (Or.inl (wq hw 29 rfl)) (Or.inl (wq hw 22 rfl)) (by decide) (t := .int) (t' := .long) (by decide) (by decide))))
  have t24 : Fld Z h17 a5 nConsec_1 "head" "I" (.int (0 : Int32)) := (((F_head.ext E2).other W11 (Or.inr (slot_ne (Or.inl (wq hw 31 rfl)) (Or.inl (wq hw 20 rfl)) (by decide) (t := .int) (t' := (.array (.object nObject_2))) (by decide) (by decide)))).other W17 (Or.inr (slot_ne (Or.inl (wq hw 31 rfl)) (Or.inl (wq hw 22 rfl)) (by decide) (t := .int) (t' := .long) (by decide) (by decide))))
  have t25 : Arv Z h17 b2 k2 (.object nObject_2) (16 : Int32) [.null, .null, .null, .null, .null, .null, .null, .null, .null, .null, .null, .null, .null, .null, .null, .null] .null := ((v8.other W11 (Ne.symm ne3)).other W17 (Ne.symm ne3))
  obtain ⟨fs, hr, hrun, hended, hW, hsame⟩ := X17.leave (v := none) (fun _ => rfl)
  refine ⟨_, _, pre0 _ ?_, hrun, hended, _, _, rfl, ?_, ⟨_, rfl⟩, hW, hsame.mono (by decide) (by decide)⟩
  · refine XS.aloadN X0.here hx rfl (hb hby d_prog_5_method_1_0) rfl rfl ?_
    refine st1 _ ?_
    refine XS.aloadN X1.here hx rfl (hb hby d_prog_5_method_1_4) rfl rfl ?_
    show Steps p.tables e below (T1.setTop (mkF m 5 #[.val (.ref a5), .val (.long q1), .second] [(.ref a5)])) _
    refine XS.bipush X1.here hx rfl (hb hby d_prog_5_method_1_5) ?_
    refine st2 _ ?_
    refine st11 _ ?_
    refine XS.aloadN X11.here hx rfl (hb hby d_prog_5_method_1_13) rfl rfl ?_
    refine XS.lloadN X11.here hx rfl (hb hby d_prog_5_method_1_14) rfl ?_
    refine st17 _ ?_
    show Steps p.tables e below (T17.setTop (mkF m 18 #[.val (.ref a5), .val (.long q1), .second] [])) _
    exact X17.returnOut hx Bd.returns (hb hby d_prog_5_method_1_18) hr
  · show QB Z a5 q1 [.null, .null, .null, .null, .null, .null, .null, .null, .null, .null, .null, .null, .null, .null, .null, .null] h0 n0 _ T17.heap _
    rw [e17]
    exact ⟨b2, k2, rfl, N17, K20, t21, t22, t23, t24, f18, t25, O2', g5, g4⟩
set_option maxRecDepth 65536 in
set_option maxHeartbeats 40000000 in
theorem rm_siz (l : Launch) (Z : State) (a0 : Array Value) (hw : ∀ d ∈ tables_1, d.before a0 Z = true) (ws : List Jvm.Cond) (a5 : Addr) (s1 : Int32) (h0 : Heap) (n0 : Nat) (F1 : Fld Z h0 a5 nConsec_1 "size" "I" (.int s1)) :
    Met l my_4 prog_5_method_2_code 1 (some .int) ws ({ frames := 0, cells := 0, slots := 0, locals := 0 } : Room) #[(.ref a5)] Z h0 (QI s1 h0 n0) := by
  refine MetFree.of_bodySF (plainFor_of_name pn_2) hisR ?_
  intro p e s m args below meth c s₁ Bd hml0 hP hK
  obtain ⟨rfl, hZ, hh⟩ := hP
  have hx := Bd.exec
  have hby := Bd.bytes
  have hml : c.maxLocals = 1 := hml0
  have hown : s.vm.findClass nConsec_1 = some m.cls := findClass_of_methodNamed Bd.named
  have hnm := (name_of_methodNamed Bd.named Bd.method).1
  have X0 : Stand p l e ({ frames := 0, cells := 0, slots := 0, locals := 0 } : Room) s m #[(.ref a5)] below meth c s₁ [] 0 0 := Stand.of_body Bd
  have e0 : s₁.heap = h0 := by rw [← hh, Bd.state]; rfl
  have N0 := Fr.nil n0
  obtain ⟨f₀, hf₀⟩ : ∃ f, f = entryFrame m #[(.ref a5)] 1 := ⟨_, rfl⟩
  rw [← hf₀]
  have pre0 : Go p e below s₁ f₀ s₁ (mkF m 0 #[.val (.ref a5)] []) := fun t kk => castTop (hf₀.trans (ef_rm_siz m (a5))) kk
  obtain ⟨T1, X1, e1, st1⟩ := getF X0 hx hZ hown (host := "") (Or.inl (wq hw 28 rfl)) Via.refl e0 F1 (g := (mkF m 1 #[.val (.ref a5)] [(.ref a5)])) rfl rfl (hb hby d_prog_5_method_2_1)
  obtain ⟨fs, hr, hrun, hended, hW, hsame⟩ := X1.leave (v := (some (.int s1))) (fun h => by rw [Bd.returns] at h; cases h)
  refine ⟨_, _, pre0 _ ?_, hrun, hended, _, _, rfl, ?_, ⟨_, rfl⟩, hW, hsame.mono (by decide) (by decide)⟩
  · refine XS.aloadN X0.here hx rfl (hb hby d_prog_5_method_2_0) rfl rfl ?_
    refine st1 _ ?_
    exact retI X1 hx Bd.returns (hb hby d_prog_5_method_2_4) hr
  · show QI s1 h0 n0 _ T1.heap _
    rw [e1]
    exact ⟨rfl, N0, rfl⟩
set_option maxRecDepth 65536 in
set_option maxHeartbeats 40000000 in
theorem rm_fnu (l : Launch) (Z : State) (a0 : Array Value) (hw : ∀ d ∈ tables_1, d.before a0 Z = true) (ws : List Jvm.Cond) (a5 : Addr) (s1 : Int64) (h0 : Heap) (n0 : Nat) (F1 : Fld Z h0 a5 nConsec_1 "first" "J" (.long s1)) :
    Met l my_5 prog_5_method_4_code 1 (some .long) ws ({ frames := 0, cells := 0, slots := 0, locals := 0 } : Room) #[(.ref a5)] Z h0 (QJ s1 h0 n0) := by
  refine MetFree.of_bodySF (plainFor_of_name pn_2) hisR ?_
  intro p e s m args below meth c s₁ Bd hml0 hP hK
  obtain ⟨rfl, hZ, hh⟩ := hP
  have hx := Bd.exec
  have hby := Bd.bytes
  have hml : c.maxLocals = 1 := hml0
  have hown : s.vm.findClass nConsec_1 = some m.cls := findClass_of_methodNamed Bd.named
  have hnm := (name_of_methodNamed Bd.named Bd.method).1
  have X0 : Stand p l e ({ frames := 0, cells := 0, slots := 0, locals := 0 } : Room) s m #[(.ref a5)] below meth c s₁ [] 0 0 := Stand.of_body Bd
  have e0 : s₁.heap = h0 := by rw [← hh, Bd.state]; rfl
  have N0 := Fr.nil n0
  obtain ⟨f₀, hf₀⟩ : ∃ f, f = entryFrame m #[(.ref a5)] 1 := ⟨_, rfl⟩
  rw [← hf₀]
  have pre0 : Go p e below s₁ f₀ s₁ (mkF m 0 #[.val (.ref a5)] []) := fun t kk => castTop (hf₀.trans (ef_rm_fnu m (a5))) kk
  obtain ⟨T1, X1, e1, st1⟩ := getF X0 hx hZ hown (host := "") (Or.inl (wq hw 21 rfl)) Via.refl e0 F1 (g := (mkF m 1 #[.val (.ref a5)] [(.ref a5)])) rfl rfl (hb hby d_prog_5_method_4_1)
  obtain ⟨fs, hr, hrun, hended, hW, hsame⟩ := X1.leave (v := (some (.long s1))) (fun h => by rw [Bd.returns] at h; cases h)
  refine ⟨_, _, pre0 _ ?_, hrun, hended, _, _, rfl, ?_, ⟨_, rfl⟩, hW, hsame.mono (by decide) (by decide)⟩
  · refine XS.aloadN X0.here hx rfl (hb hby d_prog_5_method_4_0) rfl rfl ?_
    refine st1 _ ?_
    exact retOut X1 hx Bd.returns rfl (Or.inr (Or.inl ⟨rfl, rfl, _, rfl⟩)) (hb hby d_prog_5_method_4_4) hr
  · show QJ s1 h0 n0 _ T1.heap _
    rw [e1]
    exact ⟨rfl, N0, rfl⟩
set_option maxRecDepth 65536 in
set_option maxHeartbeats 40000000 in
theorem rm_add_0_0_NNN (l : Launch) (Z : State) (a0 : Array Value) (hw : ∀ d ∈ tables_1, d.before a0 Z = true) (ws : List Jvm.Cond) (a5 b5 : Addr) (k5 : ClassId) (q1 : Int64) (h0 : Heap) (n0 : Nat) (O0 : Old Z n0 h0) (hR : Ring Z n0 h0 a5 b5 k5 (0 : Int32) (0 : Int32) q1 [.null, .null, .null, .null, .null, .null, .null, .null, .null, .null, .null, .null, .null, .null, .null, .null]) (wv : Addr) (Ew : Exa Z h0 wv nIntege_0) :
    Met l my_6 prog_5_method_7_code 4 none ws ({ frames := 0, cells := 0, slots := 0, locals := 0 } : Room) #[(.ref a5), (.ref wv)] Z h0 (QG Z none a5 b5 k5 (1 : Int32) (0 : Int32) q1 [(.ref wv), .null, .null, .null, .null, .null, .null, .null, .null, .null, .null, .null, .null, .null, .null, .null] h0 n0) := by
  refine MetFree.of_bodySF (plainFor_of_name pn_2) hisR ?_
  intro p e s m args below meth c s₁ Bd hml0 hP hK
  obtain ⟨rfl, hZ, hh⟩ := hP
  have hx := Bd.exec
  have hby := Bd.bytes
  have hml : c.maxLocals = 4 := hml0
  have hown : s.vm.findClass nConsec_1 = some m.cls := findClass_of_methodNamed Bd.named
  have hnm := (name_of_methodNamed Bd.named Bd.method).1
  have X0 : Stand p l e ({ frames := 0, cells := 0, slots := 0, locals := 0 } : Room) s m #[(.ref a5), (.ref wv)] below meth c s₁ [] 0 0 := Stand.of_body Bd
  have e0 : s₁.heap = h0 := by rw [← hh, Bd.state]; rfl
  have N0 := Fr.nil n0
  obtain ⟨f₀, hf₀⟩ : ∃ f, f = entryFrame m #[(.ref a5), (.ref wv)] 4 := ⟨_, rfl⟩
  rw [← hf₀]
  have pre0 : Go p e below s₁ f₀ s₁ (mkF m 0 #[.val (.ref a5), .val (.ref wv), .unset, .unset] []) := fun t kk => castTop (hf₀.trans (ef_rm_add_0_0_NNN m (a5) (wv))) kk
  obtain ⟨E5, F_values, F_size, F_head, F_first, V5, Ov5, g5, gb5⟩ := (id hR)
  have ne5 := Exa.neArv E5 V5 (wq hw 9 rfl)
  obtain ⟨T1, X1, e1, st1⟩ := getF X0 hx hZ hown (host := "") (Or.inl (wq hw 28 rfl)) Via.refl e0 F_size (g := (mkF m 1 #[.val (.ref a5), .val (.ref wv), .unset, .unset] [(.ref a5)])) rfl rfl (hb hby d_prog_5_method_7_1)
  obtain ⟨T2, X2, e2, st2⟩ := getF X1 hx hZ hown (host := "") (Or.inl (wq hw 19 rfl)) Via.refl e1 F_values (g := (mkF m 5 #[.val (.ref a5), .val (.ref wv), .unset, .unset] [(.ref a5), (.int (0 : Int32))])) rfl rfl (hb hby d_prog_5_method_7_5)
  obtain ⟨c3, Ar3, q3, S3, M3, Hh3, G3⟩ := (id V5)
  obtain ⟨T4, X4, e4, st4⟩ := getF X2 hx hZ hown (host := "") (Or.inl (wq hw 19 rfl)) Via.refl e2 F_values (g := (mkF m 70 #[.val (.ref a5), .val (.ref wv), .unset, .unset] [(.ref a5)])) rfl rfl (hb hby d_prog_5_method_7_70)
  obtain ⟨T5, X5, e5, st5⟩ := getF X4 hx hZ hown (host := "") (Or.inl (wq hw 30 rfl)) Via.refl e4 F_head (g := (mkF m 74 #[.val (.ref a5), .val (.ref wv), .unset, .unset] [(.ref a5), (.ref b5)])) rfl rfl (hb hby d_prog_5_method_7_74)
  obtain ⟨T6, X6, e6, st6⟩ := getF X5 hx hZ hown (host := "") (Or.inl (wq hw 28 rfl)) Via.refl e5 F_size (g := (mkF m 78 #[.val (.ref a5), .val (.ref wv), .unset, .unset] [(.ref a5), (.int (0 : Int32)), (.ref b5)])) rfl rfl (hb hby d_prog_5_method_7_78)
  obtain ⟨T7, X7, e7, st7⟩ := getF X6 hx hZ hown (host := "") (Or.inl (wq hw 19 rfl)) Via.refl e6 F_values (g := (mkF m 83 #[.val (.ref a5), .val (.ref wv), .unset, .unset] [(.ref a5), (.int (0 : Int32)), (.ref b5)])) rfl rfl (hb hby d_prog_5_method_7_83)
  obtain ⟨c8, Ar8, q8, S8, M8, Hh8, G8⟩ := (id V5)
  obtain ⟨c9, Ar9, q9, S9, M9, Hh9, G9⟩ := (id V5)
  have hin9 : ¬ ((0 : Int32) < 0 ∨ c9.slots.size ≤ ((0 : Int32)).toNatClampNeg) := inb_of S9 ⟨by decide, by decide⟩
  obtain ⟨T10, h10, X10, e10, W10, st10⟩ := stR X7 hx hZ e7 Ar9 (j := (0 : Int32)) hin9 rfl (Sto.ofV Ar9 q9 Ov5 (Ins.of_exa Ew (wq hw 32 rfl))) (g := (mkF m 89 #[.val (.ref a5), .val (.ref wv), .unset, .unset] [(.ref wv), (.int (0 : Int32)), (.ref b5)])) rfl rfl (hb hby d_prog_5_method_7_89)
  have v11 : Arv Z h10 b5 k5 (.object nObject_2) (16 : Int32) [(.ref wv), .null, .null, .null, .null, .null, .null, .null, .null, .null, .null, .null, .null, .null, .null, .null] .null := Arv.set Ar9 q9 S9 M9 Hh9 G9 rfl W10 0 rfl (Nat.le_of_ble_eq_true rfl)
  have N10 := Fr.snoc X10 N0 gb5
  have O12 : Old Z n0 h10 := Old.wr O0 W10 gb5
  have K13 : Keep h0 h10 [a5, b5] := (Keep.refl h0 [a5, b5]).wr W10 (Or.inl (List.mem_of_getElem? (i := 1) rfl))
  have t14 : Fld Z h10 a5 nConsec_1 "size" "I" (.int (0 : Int32)) := (F_size.other W10 (Or.inl ne5))
  obtain ⟨T15, X15, e15, st15⟩ := getF X10 hx hZ hown (host := "") (Or.inl (wq hw 28 rfl)) Via.refl e10 t14 (g := (mkF m 92 #[.val (.ref a5), .val (.ref wv), .unset, .unset] [(.ref a5), (.ref a5)])) rfl rfl (hb hby d_prog_5_method_7_92)
  have t16 : Exa Z h10 a5 nConsec_1 := (E5.wr W10)
  obtain ⟨T17, h17, X17, e17, W17, st17⟩ := putF X15 hx hZ hown (host := "") (Or.inl (wq hw 28 rfl)) Via.refl e15 t14 t16 (Or.inl (wq hw 29 rfl)) (wq hw 9 rfl) (ty := .int) (by decide) rfl rfl (g := (mkF m 97 #[.val (.ref a5), .val (.ref wv), .unset, .unset] [(.int (1 : Int32)), (.ref a5)])) rfl rfl (hb hby d_prog_5_method_7_97)
  have f18 : Fld Z h17 a5 nConsec_1 "size" "I" (.int (1 : Int32)) := t14.same W17
  have N17 := Fr.snoc X17 N10 g5
  have O19 : Old Z n0 h17 := Old.wr O12 W17 g5
  have K20 : Keep h0 h17 [a5, b5] := K13.wr W17 (Or.inl (List.mem_of_getElem? (i := 0) rfl))
  have t21 : Exa Z h17 a5 nConsec_1 := (t16.wr W17)
  have t22 : Fld Z h17 a5 nConsec_1 "values" "[Ljava/lang/Object;" (.ref b5) := ((F_values.other W10 (Or.inl ne5)).other W17 (Or.inr (slot_ne (Or.inl (wq hw 20 rfl)) (Or.inl (wq hw 29 rfl)) (by decide) (t := (.array (.object nObject_2))) (t' := .int) (by decide) (by decide))))
  have t23 : Fld Z h17 a5 nConsec_1 "head" "I" (.int (0 : Int32)) := ((F_head.other W10 (Or.inl ne5)).other W17 (Or.inr (slot_ne (Or.inl (wq hw 31 rfl)) (Or.inl (wq hw 29 rfl)) (by decide) (t := .int) (t' := .int) (by decide) (by decide))))
  have t24 : Fld Z h17 a5 nConsec_1 "first" "J" (.long q1) := ((F_first.other W10 (Or.inl ne5)).other W17 (Or.inr (slot_ne (Or.inl (wq hw 22 rfl)) (Or.inl (wq hw 29 rfl)) (by decide) (t := .long) (t' := .int) (by decide) (by decide))))
  have t25 : Arv Z h17 b5 k5 (.object nObject_2) (16 : Int32) [(.ref wv), .null, .null, .null, .null, .null, .null, .null, .null, .null, .null, .null, .null, .null, .null, .null] .null := (v11.other W17 (Ne.symm ne5))
  obtain ⟨fs, hr, hrun, hended, hW, hsame⟩ := X17.leave (v := none) (fun _ => rfl)
  refine ⟨_, _, pre0 _ ?_, hrun, hended, _, _, rfl, ?_, ⟨_, rfl⟩, hW, hsame.mono (by decide) (by decide)⟩
  · refine XS.aloadN X0.here hx rfl (hb hby d_prog_5_method_7_0) rfl rfl ?_
    refine st1 _ ?_
    refine XS.aloadN X1.here hx rfl (hb hby d_prog_5_method_7_4) rfl rfl ?_
    refine st2 _ ?_
    refine X2.arraylength hx (by rw [e2]; exact Ar3.1) (State.isArrayOf_alike hZ.alike Ar3.2.1) (g := (mkF m 8 #[.val (.ref a5), .val (.ref wv), .unset, .unset] [(.ref b5), (.int (0 : Int32))])) rfl rfl (hb hby d_prog_5_method_7_8) _ ?_
    rw [len_of S3 M3]
    show Steps p.tables e below (T2.setTop (mkF m 9 #[.val (.ref a5), .val (.ref wv), .unset, .unset] [(.int (16 : Int32)), (.int (0 : Int32))])) _
    refine XS.icmpYes X2.here hx rfl (pc0 := 9) (pc' := 69) rfl (hb hby d_prog_5_method_7_9) rfl (feq (by decide : ¬ ((0 : Int32) = (16 : Int32)))).2 (by decide) (by decide) ?_
    refine XS.aloadN X2.here hx rfl (hb hby d_prog_5_method_7_69) rfl rfl ?_
    refine st4 _ ?_
    refine XS.aloadN X4.here hx rfl (hb hby d_prog_5_method_7_73) rfl rfl ?_
    refine st5 _ ?_
    refine XS.aloadN X5.here hx rfl (hb hby d_prog_5_method_7_77) rfl rfl ?_
    show Steps p.tables e below (T5.setTop (mkF m 78 #[.val (.ref a5), .val (.ref wv), .unset, .unset] [(.ref a5), (.int (0 : Int32)), (.ref b5)])) _
    refine st6 _ ?_
    refine XS.iadd X6.here hx rfl (hb hby d_prog_5_method_7_81) rfl ?_
    show Steps p.tables e below (T6.setTop (mkF m 82 #[.val (.ref a5), .val (.ref wv), .unset, .unset] [(.int (0 : Int32)), (.ref b5)])) _
    refine XS.aloadN X6.here hx rfl (hb hby d_prog_5_method_7_82) rfl rfl ?_
    refine st7 _ ?_
    refine X7.arraylength hx (by rw [e7]; exact Ar8.1) (State.isArrayOf_alike hZ.alike Ar8.2.1) (g := (mkF m 86 #[.val (.ref a5), .val (.ref wv), .unset, .unset] [(.ref b5), (.int (0 : Int32)), (.ref b5)])) rfl rfl (hb hby d_prog_5_method_7_86) _ ?_
    rw [len_of S8 M8]
    refine iremM X7 hx rfl (hb hby d_prog_5_method_7_87) rfl (by decide) ?_
    show Steps p.tables e below (T7.setTop (mkF m 88 #[.val (.ref a5), .val (.ref wv), .unset, .unset] [(.int (0 : Int32)), (.ref b5)])) _
    refine XS.aloadN X7.here hx rfl (hb hby d_prog_5_method_7_88) rfl rfl ?_
    refine st10 _ ?_
    refine XS.aloadN X10.here hx rfl (hb hby d_prog_5_method_7_90) rfl rfl ?_
    refine XS.dup X10.here hx rfl (hb hby d_prog_5_method_7_91) rfl rfl ?_
    refine st15 _ ?_
    refine XS.iconst X15.here hx rfl (hb hby d_prog_5_method_7_95) ?_
    show Steps p.tables e below (T15.setTop (mkF m 96 #[.val (.ref a5), .val (.ref wv), .unset, .unset] [(.int (1 : Int32)), (.int (0 : Int32)), (.ref a5)])) _
    refine XS.iadd X15.here hx rfl (hb hby d_prog_5_method_7_96) rfl ?_
    show Steps p.tables e below (T15.setTop (mkF m 97 #[.val (.ref a5), .val (.ref wv), .unset, .unset] [(.int (1 : Int32)), (.ref a5)])) _
    refine st17 _ ?_
    exact X17.returnOut hx Bd.returns (hb hby d_prog_5_method_7_100) hr
  · show QG Z none a5 b5 k5 (1 : Int32) (0 : Int32) q1 [(.ref wv), .null, .null, .null, .null, .null, .null, .null, .null, .null, .null, .null, .null, .null, .null, .null] h0 n0 _ T17.heap _
    rw [e17]
    exact ⟨rfl, N17, K20, ⟨t21, t22, f18, t23, t24, t25, Ov5, g5, gb5⟩⟩
set_option maxRecDepth 65536 in
set_option maxHeartbeats 40000000 in
theorem rm_add_1_0_RNN (l : Launch) (Z : State) (a0 : Array Value) (hw : ∀ d ∈ tables_1, d.before a0 Z = true) (ws : List Jvm.Cond) (a5 b5 : Addr) (k5 : ClassId) (u0 : Addr) (q1 : Int64) (h0 : Heap) (n0 : Nat) (O0 : Old Z n0 h0) (hR : Ring Z n0 h0 a5 b5 k5 (1 : Int32) (0 : Int32) q1 [(.ref u0), .null, .null, .null, .null, .null, .null, .null, .null, .null, .null, .null, .null, .null, .null, .null]) (wv : Addr) (Ew : Exa Z h0 wv nIntege_0) :
    Met l my_6 prog_5_method_7_code 4 none ws ({ frames := 0, cells := 0, slots := 0, locals := 0 } : Room) #[(.ref a5), (.ref wv)] Z h0 (QG Z none a5 b5 k5 (2 : Int32) (0 : Int32) q1 [(.ref u0), (.ref wv), .null, .null, .null, .null, .null, .null, .null, .null, .null, .null, .null, .null, .null, .null] h0 n0) := by
  refine MetFree.of_bodySF (plainFor_of_name pn_2) hisR ?_
  intro p e s m args below meth c s₁ Bd hml0 hP hK
  obtain ⟨rfl, hZ, hh⟩ := hP
  have hx := Bd.exec
  have hby := Bd.bytes
  have hml : c.maxLocals = 4 := hml0
  have hown : s.vm.findClass nConsec_1 = some m.cls := findClass_of_methodNamed Bd.named
  have hnm := (name_of_methodNamed Bd.named Bd.method).1
  have X0 : Stand p l e ({ frames := 0, cells := 0, slots := 0, locals := 0 } : Room) s m #[(.ref a5), (.ref wv)] below meth c s₁ [] 0 0 := Stand.of_body Bd
  have e0 : s₁.heap = h0 := by rw [← hh, Bd.state]; rfl
  have N0 := Fr.nil n0
  obtain ⟨f₀, hf₀⟩ : ∃ f, f = entryFrame m #[(.ref a5), (.ref wv)] 4 := ⟨_, rfl⟩
  rw [← hf₀]
  have pre0 : Go p e below s₁ f₀ s₁ (mkF m 0 #[.val (.ref a5), .val (.ref wv), .unset, .unset] []) := fun t kk => castTop (hf₀.trans (ef_rm_add_1_0_RNN m (a5) (wv))) kk
  obtain ⟨E5, F_values, F_size, F_head, F_first, V5, Ov5, g5, gb5⟩ := (id hR)
  have ne5 := Exa.neArv E5 V5 (wq hw 9 rfl)
  obtain ⟨T1, X1, e1, st1⟩ := getF X0 hx hZ hown (host := "") (Or.inl (wq hw 28 rfl)) Via.refl e0 F_size (g := (mkF m 1 #[.val (.ref a5), .val (.ref wv), .unset, .unset] [(.ref a5)])) rfl rfl (hb hby d_prog_5_method_7_1)
  obtain ⟨T2, X2, e2, st2⟩ := getF X1 hx hZ hown (host := "") (Or.inl (wq hw 19 rfl)) Via.refl e1 F_values (g := (mkF m 5 #[.val (.ref a5), .val (.ref wv), .unset, .unset] [(.ref a5), (.int (1 : Int32))])) rfl rfl (hb hby d_prog_5_method_7_5)
  obtain ⟨c3, Ar3, q3, S3, M3, Hh3, G3⟩ := (id V5)
  obtain ⟨T4, X4, e4, st4⟩ := getF X2 hx hZ hown (host := "") (Or.inl (wq hw 19 rfl)) Via.refl e2 F_values (g := (mkF m 70 #[.val (.ref a5), .val (.ref wv), .unset, .unset] [(.ref a5)])) rfl rfl (hb hby d_prog_5_method_7_70)
  obtain ⟨T5, X5, e5, st5⟩ := getF X4 hx hZ hown (host := "") (Or.inl (wq hw 30 rfl)) Via.refl e4 F_head (g := (mkF m 74 #[.val (.ref a5), .val (.ref wv), .unset, .unset] [(.ref a5), (.ref b5)])) rfl rfl (hb hby d_prog_5_method_7_74)
  obtain ⟨T6, X6, e6, st6⟩ := getF X5 hx hZ hown (host := "") (Or.inl (wq hw 28 rfl)) Via.refl e5 F_size (g := (mkF m 78 #[.val (.ref a5), .val (.ref wv), .unset, .unset] [(.ref a5), (.int (0 : Int32)), (.ref b5)])) rfl rfl (hb hby d_prog_5_method_7_78)
  obtain ⟨T7, X7, e7, st7⟩ := getF X6 hx hZ hown (host := "") (Or.inl (wq hw 19 rfl)) Via.refl e6 F_values (g := (mkF m 83 #[.val (.ref a5), .val (.ref wv), .unset, .unset] [(.ref a5), (.int (1 : Int32)), (.ref b5)])) rfl rfl (hb hby d_prog_5_method_7_83)
  obtain ⟨c8, Ar8, q8, S8, M8, Hh8, G8⟩ := (id V5)
  obtain ⟨c9, Ar9, q9, S9, M9, Hh9, G9⟩ := (id V5)
  have hin9 : ¬ ((1 : Int32) < 0 ∨ c9.slots.size ≤ ((1 : Int32)).toNatClampNeg) := inb_of S9 ⟨by decide, by decide⟩
  obtain ⟨T10, h10, X10, e10, W10, st10⟩ := stR X7 hx hZ e7 Ar9 (j := (1 : Int32)) hin9 rfl (Sto.ofV Ar9 q9 Ov5 (Ins.of_exa Ew (wq hw 32 rfl))) (g := (mkF m 89 #[.val (.ref a5), .val (.ref wv), .unset, .unset] [(.ref wv), (.int (1 : Int32)), (.ref b5)])) rfl rfl (hb hby d_prog_5_method_7_89)
  have v11 : Arv Z h10 b5 k5 (.object nObject_2) (16 : Int32) [(.ref u0), (.ref wv), .null, .null, .null, .null, .null, .null, .null, .null, .null, .null, .null, .null, .null, .null] .null := Arv.set Ar9 q9 S9 M9 Hh9 G9 rfl W10 1 rfl (Nat.le_of_ble_eq_true rfl)
  have N10 := Fr.snoc X10 N0 gb5
  have O12 : Old Z n0 h10 := Old.wr O0 W10 gb5
  have K13 : Keep h0 h10 [a5, b5] := (Keep.refl h0 [a5, b5]).wr W10 (Or.inl (List.mem_of_getElem? (i := 1) rfl))
  have t14 : Fld Z h10 a5 nConsec_1 "size" "I" (.int (1 : Int32)) := (F_size.other W10 (Or.inl ne5))
  obtain ⟨T15, X15, e15, st15⟩ := getF X10 hx hZ hown (host := "") (Or.inl (wq hw 28 rfl)) Via.refl e10 t14 (g := (mkF m 92 #[.val (.ref a5), .val (.ref wv), .unset, .unset] [(.ref a5), (.ref a5)])) rfl rfl (hb hby d_prog_5_method_7_92)
  have t16 : Exa Z h10 a5 nConsec_1 := (E5.wr W10)
  obtain ⟨T17, h17, X17, e17, W17, st17⟩ := putF X15 hx hZ hown (host := "") (Or.inl (wq hw 28 rfl)) Via.refl e15 t14 t16 (Or.inl (wq hw 29 rfl)) (wq hw 9 rfl) (ty := .int) (by decide) rfl rfl (g := (mkF m 97 #[.val (.ref a5), .val (.ref wv), .unset, .unset] [(.int (2 : Int32)), (.ref a5)])) rfl rfl (hb hby d_prog_5_method_7_97)
  have f18 : Fld Z h17 a5 nConsec_1 "size" "I" (.int (2 : Int32)) := t14.same W17
  have N17 := Fr.snoc X17 N10 g5
  have O19 : Old Z n0 h17 := Old.wr O12 W17 g5
  have K20 : Keep h0 h17 [a5, b5] := K13.wr W17 (Or.inl (List.mem_of_getElem? (i := 0) rfl))
  have t21 : Exa Z h17 a5 nConsec_1 := (t16.wr W17)
  have t22 : Fld Z h17 a5 nConsec_1 "values" "[Ljava/lang/Object;" (.ref b5) := ((F_values.other W10 (Or.inl ne5)).other W17 (Or.inr (slot_ne (Or.inl (wq hw 20 rfl)) (Or.inl (wq hw 29 rfl)) (by decide) (t := (.array (.object nObject_2))) (t' := .int) (by decide) (by decide))))
  have t23 : Fld Z h17 a5 nConsec_1 "head" "I" (.int (0 : Int32)) := ((F_head.other W10 (Or.inl ne5)).other W17 (Or.inr (slot_ne (Or.inl (wq hw 31 rfl)) (Or.inl (wq hw 29 rfl)) (by decide) (t := .int) (t' := .int) (by decide) (by decide))))
  have t24 : Fld Z h17 a5 nConsec_1 "first" "J" (.long q1) := ((F_first.other W10 (Or.inl ne5)).other W17 (Or.inr (slot_ne (Or.inl (wq hw 22 rfl)) (Or.inl (wq hw 29 rfl)) (by decide) (t := .long) (t' := .int) (by decide) (by decide))))
  have t25 : Arv Z h17 b5 k5 (.object nObject_2) (16 : Int32) [(.ref u0), (.ref wv), .null, .null, .null, .null, .null, .null, .null, .null, .null, .null, .null, .null, .null, .null] .null := (v11.other W17 (Ne.symm ne5))
  obtain ⟨fs, hr, hrun, hended, hW, hsame⟩ := X17.leave (v := none) (fun _ => rfl)
  refine ⟨_, _, pre0 _ ?_, hrun, hended, _, _, rfl, ?_, ⟨_, rfl⟩, hW, hsame.mono (by decide) (by decide)⟩
  · refine XS.aloadN X0.here hx rfl (hb hby d_prog_5_method_7_0) rfl rfl ?_
    refine st1 _ ?_
    refine XS.aloadN X1.here hx rfl (hb hby d_prog_5_method_7_4) rfl rfl ?_
    refine st2 _ ?_
    refine X2.arraylength hx (by rw [e2]; exact Ar3.1) (State.isArrayOf_alike hZ.alike Ar3.2.1) (g := (mkF m 8 #[.val (.ref a5), .val (.ref wv), .unset, .unset] [(.ref b5), (.int (1 : Int32))])) rfl rfl (hb hby d_prog_5_method_7_8) _ ?_
    rw [len_of S3 M3]
    show Steps p.tables e below (T2.setTop (mkF m 9 #[.val (.ref a5), .val (.ref wv), .unset, .unset] [(.int (16 : Int32)), (.int (1 : Int32))])) _
    refine XS.icmpYes X2.here hx rfl (pc0 := 9) (pc' := 69) rfl (hb hby d_prog_5_method_7_9) rfl (feq (by decide : ¬ ((1 : Int32) = (16 : Int32)))).2 (by decide) (by decide) ?_
    refine XS.aloadN X2.here hx rfl (hb hby d_prog_5_method_7_69) rfl rfl ?_
    refine st4 _ ?_
    refine XS.aloadN X4.here hx rfl (hb hby d_prog_5_method_7_73) rfl rfl ?_
    refine st5 _ ?_
    refine XS.aloadN X5.here hx rfl (hb hby d_prog_5_method_7_77) rfl rfl ?_
    show Steps p.tables e below (T5.setTop (mkF m 78 #[.val (.ref a5), .val (.ref wv), .unset, .unset] [(.ref a5), (.int (0 : Int32)), (.ref b5)])) _
    refine st6 _ ?_
    refine XS.iadd X6.here hx rfl (hb hby d_prog_5_method_7_81) rfl ?_
    show Steps p.tables e below (T6.setTop (mkF m 82 #[.val (.ref a5), .val (.ref wv), .unset, .unset] [(.int (1 : Int32)), (.ref b5)])) _
    refine XS.aloadN X6.here hx rfl (hb hby d_prog_5_method_7_82) rfl rfl ?_
    refine st7 _ ?_
    refine X7.arraylength hx (by rw [e7]; exact Ar8.1) (State.isArrayOf_alike hZ.alike Ar8.2.1) (g := (mkF m 86 #[.val (.ref a5), .val (.ref wv), .unset, .unset] [(.ref b5), (.int (1 : Int32)), (.ref b5)])) rfl rfl (hb hby d_prog_5_method_7_86) _ ?_
    rw [len_of S8 M8]
    refine iremM X7 hx rfl (hb hby d_prog_5_method_7_87) rfl (by decide) ?_
    show Steps p.tables e below (T7.setTop (mkF m 88 #[.val (.ref a5), .val (.ref wv), .unset, .unset] [(.int (1 : Int32)), (.ref b5)])) _
    refine XS.aloadN X7.here hx rfl (hb hby d_prog_5_method_7_88) rfl rfl ?_
    refine st10 _ ?_
    refine XS.aloadN X10.here hx rfl (hb hby d_prog_5_method_7_90) rfl rfl ?_
    refine XS.dup X10.here hx rfl (hb hby d_prog_5_method_7_91) rfl rfl ?_
    refine st15 _ ?_
    refine XS.iconst X15.here hx rfl (hb hby d_prog_5_method_7_95) ?_
    show Steps p.tables e below (T15.setTop (mkF m 96 #[.val (.ref a5), .val (.ref wv), .unset, .unset] [(.int (1 : Int32)), (.int (1 : Int32)), (.ref a5)])) _
    refine XS.iadd X15.here hx rfl (hb hby d_prog_5_method_7_96) rfl ?_
    show Steps p.tables e below (T15.setTop (mkF m 97 #[.val (.ref a5), .val (.ref wv), .unset, .unset] [(.int (2 : Int32)), (.ref a5)])) _
    refine st17 _ ?_
    exact X17.returnOut hx Bd.returns (hb hby d_prog_5_method_7_100) hr
  · show QG Z none a5 b5 k5 (2 : Int32) (0 : Int32) q1 [(.ref u0), (.ref wv), .null, .null, .null, .null, .null, .null, .null, .null, .null, .null, .null, .null, .null, .null] h0 n0 _ T17.heap _
    rw [e17]
    exact ⟨rfl, N17, K20, ⟨t21, t22, f18, t23, t24, t25, Ov5, g5, gb5⟩⟩
set_option maxRecDepth 65536 in
set_option maxHeartbeats 40000000 in
theorem rm_get_2_0_RRN_1 (l : Launch) (Z : State) (a0 : Array Value) (hw : ∀ d ∈ tables_1, d.before a0 Z = true) (ws : List Jvm.Cond) (a5 b5 : Addr) (k5 : ClassId) (u0 : Addr) (u1 : Addr) (q1 : Int64) (h0 : Heap) (n0 : Nat) (O0 : Old Z n0 h0) (hR : Ring Z n0 h0 a5 b5 k5 (2 : Int32) (0 : Int32) q1 [(.ref u0), (.ref u1), .null, .null, .null, .null, .null, .null, .null, .null, .null, .null, .null, .null, .null, .null]) (nn : Int64) (hge : ¬ nn < q1) (hd : nn - q1 = (1 : Int64)) :
    Met l my_7 prog_5_method_5_code 4 (some (.object nObject_2)) ws ({ frames := 0, cells := 0, slots := 0, locals := 0 } : Room) #[(.ref a5), (.long nn)] Z h0 (QX (.ref u1) h0 n0) := by
  refine MetFree.of_bodySF (plainFor_of_name pn_2) hisR ?_
  intro p e s m args below meth c s₁ Bd hml0 hP hK
  obtain ⟨rfl, hZ, hh⟩ := hP
  have hx := Bd.exec
  have hby := Bd.bytes
  have hml : c.maxLocals = 4 := hml0
  have hown : s.vm.findClass nConsec_1 = some m.cls := findClass_of_methodNamed Bd.named
  have hnm := (name_of_methodNamed Bd.named Bd.method).1
  have X0 : Stand p l e ({ frames := 0, cells := 0, slots := 0, locals := 0 } : Room) s m #[(.ref a5), (.long nn)] below meth c s₁ [] 0 0 := Stand.of_body Bd
  have e0 : s₁.heap = h0 := by rw [← hh, Bd.state]; rfl
  have N0 := Fr.nil n0
  obtain ⟨f₀, hf₀⟩ : ∃ f, f = entryFrame m #[(.ref a5), (.long nn)] 4 := ⟨_, rfl⟩
  rw [← hf₀]
  have pre0 : Go p e below s₁ f₀ s₁ (mkF m 0 #[.val (.ref a5), .val (.long nn), .second, .unset] []) := fun t kk => castTop (hf₀.trans (ef_rm_get_2_0_RRN_1 m (a5) (nn))) kk
  obtain ⟨E5, F_values, F_size, F_head, F_first, V5, Ov5, g5, gb5⟩ := (id hR)
  have ne5 := Exa.neArv E5 V5 (wq hw 9 rfl)
  obtain ⟨T1, X1, e1, st1⟩ := getF X0 hx hZ hown (host := "") (Or.inl (wq hw 21 rfl)) Via.refl e0 F_first (g := (mkF m 4 #[.val (.ref a5), .val (.long nn), .second, .val .null] [(.ref a5), (.long nn)])) rfl rfl (hb hby d_prog_5_method_5_4)
  obtain ⟨T2, X2, e2, st2⟩ := getF X1 hx hZ hown (host := "") (Or.inl (wq hw 21 rfl)) Via.refl e1 F_first (g := (mkF m 13 #[.val (.ref a5), .val (.long nn), .second, .val .null] [(.ref a5), (.long nn)])) rfl rfl (hb hby d_prog_5_method_5_13)
  obtain ⟨T3, X3, e3, st3⟩ := getF X2 hx hZ hown (host := "") (Or.inl (wq hw 28 rfl)) Via.refl e2 F_size (g := (mkF m 18 #[.val (.ref a5), .val (.long nn), .second, .val .null] [(.ref a5), (.long (nn - q1))])) rfl rfl (hb hby d_prog_5_method_5_18)
  obtain ⟨T4, X4, e4, st4⟩ := getF X3 hx hZ hown (host := "") (Or.inl (wq hw 19 rfl)) Via.refl e3 F_values (g := (mkF m 27 #[.val (.ref a5), .val (.long nn), .second, .val .null] [(.ref a5)])) rfl rfl (hb hby d_prog_5_method_5_27)
  obtain ⟨T5, X5, e5, st5⟩ := getF X4 hx hZ hown (host := "") (Or.inl (wq hw 30 rfl)) Via.refl e4 F_head (g := (mkF m 31 #[.val (.ref a5), .val (.long nn), .second, .val .null] [(.ref a5), (.ref b5)])) rfl rfl (hb hby d_prog_5_method_5_31)
  obtain ⟨T6, X6, e6, st6⟩ := getF X5 hx hZ hown (host := "") (Or.inl (wq hw 21 rfl)) Via.refl e5 F_first (g := (mkF m 38 #[.val (.ref a5), .val (.long nn), .second, .val .null] [(.ref a5), (.long (((0 : Int32).toInt64) + nn)), (.ref b5)])) rfl rfl (hb hby d_prog_5_method_5_38)
  obtain ⟨T7, X7, e7, st7⟩ := getF X6 hx hZ hown (host := "") (Or.inl (wq hw 19 rfl)) Via.refl e6 F_values (g := (mkF m 43 #[.val (.ref a5), .val (.long nn), .second, .val .null] [(.ref a5), (.long ((((0 : Int32).toInt64) + nn) - q1)), (.ref b5)])) rfl rfl (hb hby d_prog_5_method_5_43)
  obtain ⟨c8, Ar8, q8, S8, M8, Hh8, G8⟩ := (id V5)
  have gp9 : Go p e below s₁ f₀ T7 (mkF m 50 #[.val (.ref a5), .val (.long nn), .second, .val .null] [(.int ((((((0 : Int32).toInt64) + nn) - q1) - (((((0 : Int32).toInt64) + nn) - q1) / ((16 : Int32).toInt64)) * ((16 : Int32).toInt64)).toInt32)), (.ref b5)]) := fun t kt => pre0 t (by
    refine XS.aconstNull X0.here hx rfl (hb hby d_prog_5_method_5_0) ?_
    show Steps p.tables e below (s₁.setTop (mkF m 1 #[.val (.ref a5), .val (.long nn), .second, .unset] [.null])) _
    refine XS.astoreN X0.here hx rfl (hb hby d_prog_5_method_5_1) rfl rfl (l' := #[.val (.ref a5), .val (.long nn), .second, .val .null]) rfl ?_
    refine XS.lloadN X0.here hx rfl (hb hby d_prog_5_method_5_2) rfl ?_
    refine XS.aloadN X0.here hx rfl (hb hby d_prog_5_method_5_3) rfl rfl ?_
    refine st1 _ ?_
    refine XS.lcmp X1.here hx rfl (hb hby d_prog_5_method_5_7) rfl ?_
    refine XS.ifNo X1.here hx rfl (hb hby d_prog_5_method_5_8) rfl ((if0 _ _).trans (flt (fun q => hge ((lw_lt _ _).mp q))).1) ?_
    show Steps p.tables e below (T1.setTop (mkF m 11 #[.val (.ref a5), .val (.long nn), .second, .val .null] [])) _
    refine XS.lloadN X1.here hx rfl (hb hby d_prog_5_method_5_11) rfl ?_
    refine XS.aloadN X1.here hx rfl (hb hby d_prog_5_method_5_12) rfl rfl ?_
    refine st2 _ ?_
    refine XS.lsub X2.here hx rfl (hb hby d_prog_5_method_5_16) rfl ?_
    refine XS.aloadN X2.here hx rfl (hb hby d_prog_5_method_5_17) rfl rfl ?_
    refine st3 _ ?_
    show Steps p.tables e below (T3.setTop (mkF m 21 #[.val (.ref a5), .val (.long nn), .second, .val .null] [(.int (2 : Int32)), (.long (nn - q1))])) _
    refine XS.i2l X3.here hx rfl (hb hby d_prog_5_method_5_21) rfl ?_
    refine XS.lcmp X3.here hx rfl (hb hby d_prog_5_method_5_22) rfl ?_
    refine XS.ifNo X3.here hx rfl (hb hby d_prog_5_method_5_23) rfl ((if0 _ _).trans (tlt (by rw [hd]; decide)).2.1) ?_
    refine XS.aloadN X3.here hx rfl (hb hby d_prog_5_method_5_26) rfl rfl ?_
    refine st4 _ ?_
    refine XS.aloadN X4.here hx rfl (hb hby d_prog_5_method_5_30) rfl rfl ?_
    show Steps p.tables e below (T4.setTop (mkF m 31 #[.val (.ref a5), .val (.long nn), .second, .val .null] [(.ref a5), (.ref b5)])) _
    refine st5 _ ?_
    refine XS.i2l X5.here hx rfl (hb hby d_prog_5_method_5_34) rfl ?_
    refine XS.lloadN X5.here hx rfl (hb hby d_prog_5_method_5_35) rfl ?_
    refine XS.ladd X5.here hx rfl (hb hby d_prog_5_method_5_36) rfl ?_
    refine XS.aloadN X5.here hx rfl (hb hby d_prog_5_method_5_37) rfl rfl ?_
    refine st6 _ ?_
    show Steps p.tables e below (T6.setTop (mkF m 41 #[.val (.ref a5), .val (.long nn), .second, .val .null] [(.long q1), (.long (((0 : Int32).toInt64) + nn)), (.ref b5)])) _
    refine XS.lsub X6.here hx rfl (hb hby d_prog_5_method_5_41) rfl ?_
    refine XS.aloadN X6.here hx rfl (hb hby d_prog_5_method_5_42) rfl rfl ?_
    refine st7 _ ?_
    refine X7.arraylength hx (by rw [e7]; exact Ar8.1) (State.isArrayOf_alike hZ.alike Ar8.2.1) (g := (mkF m 46 #[.val (.ref a5), .val (.long nn), .second, .val .null] [(.ref b5), (.long ((((0 : Int32).toInt64) + nn) - q1)), (.ref b5)])) rfl rfl (hb hby d_prog_5_method_5_46) _ ?_
    rw [len_of S8 M8]
    refine XS.i2l X7.here hx rfl (hb hby d_prog_5_method_5_47) rfl ?_
    refine XS.lrem X7.here hx rfl (hb hby d_prog_5_method_5_48) rfl (by decide) ?_
    show Steps p.tables e below (T7.setTop (mkF m 49 #[.val (.ref a5), .val (.long nn), .second, .val .null] [(.long (((((0 : Int32).toInt64) + nn) - q1) - (((((0 : Int32).toInt64) + nn) - q1) / ((16 : Int32).toInt64)) * ((16 : Int32).toInt64))), (.ref b5)])) _
    refine XS.l2i X7.here hx rfl (hb hby d_prog_5_method_5_49) rfl ?_
    exact kt)
  have hix := own_x (((0 : Int32)).toInt64) nn q1 (1 : Int64) (1 : Int64) hd (by decide)
  have hj : ((((((0 : Int32).toInt64) + nn) - q1) - (((((0 : Int32).toInt64) + nn) - q1) / ((16 : Int32).toInt64)) * ((16 : Int32).toInt64)).toInt32) = (1 : Int32) := by rw [hix]; decide
  have gp10 := gp9
  rw [hj] at gp10
  obtain ⟨c11, Ar11, q11, S11, M11, Hh11, G11⟩ := (id V5)
  have hin11 : ¬ ((1 : Int32) < 0 ∨ c11.slots.size ≤ ((1 : Int32)).toNatClampNeg) := inb_of S11 ⟨by decide, by decide⟩
  have hat11 : c11.slots[((1 : Int32)).toNatClampNeg]? = some (.ref u1) := Hh11.at hin11 rfl
  obtain ⟨fs, hr, hrun, hended, hW, hsame⟩ := X7.leave (v := (some (.ref u1))) (fun h => by rw [Bd.returns] at h; cases h)
  refine ⟨_, _, gp10 _ ?_, hrun, hended, _, _, rfl, ?_, ⟨_, rfl⟩, hW, hsame.mono (by decide) (by decide)⟩
  · refine X7.aaload hx (j := (1 : Int32)) (v := (.ref u1)) (by rw [e7]; exact Ar11.1) (State.isArrayOf_alike hZ.alike Ar11.2.1) rfl Ar11.2.2 hin11 hat11 (g := (mkF m 50 #[.val (.ref a5), .val (.long nn), .second, .val .null] [(.int (1 : Int32)), (.ref b5)])) rfl rfl (hb hby d_prog_5_method_5_50) _ ?_
    refine XS.astoreN X7.here hx rfl (hb hby d_prog_5_method_5_51) rfl rfl (l' := #[.val (.ref a5), .val (.long nn), .second, .val (.ref u1)]) rfl ?_
    refine XS.aloadN X7.here hx rfl (hb hby d_prog_5_method_5_52) rfl rfl ?_
    exact retOut X7 hx Bd.returns rfl (Or.inr (Or.inr (Or.inr (Or.inr ⟨rfl, rfl, rfl⟩)))) (hb hby d_prog_5_method_5_53) hr
  · show QX (.ref u1) h0 n0 _ T7.heap _
    rw [e7]
    exact ⟨rfl, N0, rfl⟩
set_option maxRecDepth 65536 in
set_option maxHeartbeats 40000000 in
theorem rm_get_2_0_RRN_0 (l : Launch) (Z : State) (a0 : Array Value) (hw : ∀ d ∈ tables_1, d.before a0 Z = true) (ws : List Jvm.Cond) (a5 b5 : Addr) (k5 : ClassId) (u0 : Addr) (u1 : Addr) (q1 : Int64) (h0 : Heap) (n0 : Nat) (O0 : Old Z n0 h0) (hR : Ring Z n0 h0 a5 b5 k5 (2 : Int32) (0 : Int32) q1 [(.ref u0), (.ref u1), .null, .null, .null, .null, .null, .null, .null, .null, .null, .null, .null, .null, .null, .null]) (nn : Int64) (hge : ¬ nn < q1) (hd : nn - q1 = (0 : Int64)) :
    Met l my_7 prog_5_method_5_code 4 (some (.object nObject_2)) ws ({ frames := 0, cells := 0, slots := 0, locals := 0 } : Room) #[(.ref a5), (.long nn)] Z h0 (QX (.ref u0) h0 n0) := by
  refine MetFree.of_bodySF (plainFor_of_name pn_2) hisR ?_
  intro p e s m args below meth c s₁ Bd hml0 hP hK
  obtain ⟨rfl, hZ, hh⟩ := hP
  have hx := Bd.exec
  have hby := Bd.bytes
  have hml : c.maxLocals = 4 := hml0
  have hown : s.vm.findClass nConsec_1 = some m.cls := findClass_of_methodNamed Bd.named
  have hnm := (name_of_methodNamed Bd.named Bd.method).1
  have X0 : Stand p l e ({ frames := 0, cells := 0, slots := 0, locals := 0 } : Room) s m #[(.ref a5), (.long nn)] below meth c s₁ [] 0 0 := Stand.of_body Bd
  have e0 : s₁.heap = h0 := by rw [← hh, Bd.state]; rfl
  have N0 := Fr.nil n0
  obtain ⟨f₀, hf₀⟩ : ∃ f, f = entryFrame m #[(.ref a5), (.long nn)] 4 := ⟨_, rfl⟩
  rw [← hf₀]
  have pre0 : Go p e below s₁ f₀ s₁ (mkF m 0 #[.val (.ref a5), .val (.long nn), .second, .unset] []) := fun t kk => castTop (hf₀.trans (ef_rm_get_2_0_RRN_0 m (a5) (nn))) kk
  obtain ⟨E5, F_values, F_size, F_head, F_first, V5, Ov5, g5, gb5⟩ := (id hR)
  have ne5 := Exa.neArv E5 V5 (wq hw 9 rfl)
  obtain ⟨T1, X1, e1, st1⟩ := getF X0 hx hZ hown (host := "") (Or.inl (wq hw 21 rfl)) Via.refl e0 F_first (g := (mkF m 4 #[.val (.ref a5), .val (.long nn), .second, .val .null] [(.ref a5), (.long nn)])) rfl rfl (hb hby d_prog_5_method_5_4)
  obtain ⟨T2, X2, e2, st2⟩ := getF X1 hx hZ hown (host := "") (Or.inl (wq hw 21 rfl)) Via.refl e1 F_first (g := (mkF m 13 #[.val (.ref a5), .val (.long nn), .second, .val .null] [(.ref a5), (.long nn)])) rfl rfl (hb hby d_prog_5_method_5_13)
  obtain ⟨T3, X3, e3, st3⟩ := getF X2 hx hZ hown (host := "") (Or.inl (wq hw 28 rfl)) Via.refl e2 F_size (g := (mkF m 18 #[.val (.ref a5), .val (.long nn), .second, .val .null] [(.ref a5), (.long (nn - q1))])) rfl rfl (hb hby d_prog_5_method_5_18)
  obtain ⟨T4, X4, e4, st4⟩ := getF X3 hx hZ hown (host := "") (Or.inl (wq hw 19 rfl)) Via.refl e3 F_values (g := (mkF m 27 #[.val (.ref a5), .val (.long nn), .second, .val .null] [(.ref a5)])) rfl rfl (hb hby d_prog_5_method_5_27)
  obtain ⟨T5, X5, e5, st5⟩ := getF X4 hx hZ hown (host := "") (Or.inl (wq hw 30 rfl)) Via.refl e4 F_head (g := (mkF m 31 #[.val (.ref a5), .val (.long nn), .second, .val .null] [(.ref a5), (.ref b5)])) rfl rfl (hb hby d_prog_5_method_5_31)
  obtain ⟨T6, X6, e6, st6⟩ := getF X5 hx hZ hown (host := "") (Or.inl (wq hw 21 rfl)) Via.refl e5 F_first (g := (mkF m 38 #[.val (.ref a5), .val (.long nn), .second, .val .null] [(.ref a5), (.long (((0 : Int32).toInt64) + nn)), (.ref b5)])) rfl rfl (hb hby d_prog_5_method_5_38)
  obtain ⟨T7, X7, e7, st7⟩ := getF X6 hx hZ hown (host := "") (Or.inl (wq hw 19 rfl)) Via.refl e6 F_values (g := (mkF m 43 #[.val (.ref a5), .val (.long nn), .second, .val .null] [(.ref a5), (.long ((((0 : Int32).toInt64) + nn) - q1)), (.ref b5)])) rfl rfl (hb hby d_prog_5_method_5_43)
  obtain ⟨c8, Ar8, q8, S8, M8, Hh8, G8⟩ := (id V5)
  have gp9 : Go p e below s₁ f₀ T7 (mkF m 50 #[.val (.ref a5), .val (.long nn), .second, .val .null] [(.int ((((((0 : Int32).toInt64) + nn) - q1) - (((((0 : Int32).toInt64) + nn) - q1) / ((16 : Int32).toInt64)) * ((16 : Int32).toInt64)).toInt32)), (.ref b5)]) := fun t kt => pre0 t (by
    refine XS.aconstNull X0.here hx rfl (hb hby d_prog_5_method_5_0) ?_
    show Steps p.tables e below (s₁.setTop (mkF m 1 #[.val (.ref a5), .val (.long nn), .second, .unset] [.null])) _
    refine XS.astoreN X0.here hx rfl (hb hby d_prog_5_method_5_1) rfl rfl (l' := #[.val (.ref a5), .val (.long nn), .second, .val .null]) rfl ?_
    refine XS.lloadN X0.here hx rfl (hb hby d_prog_5_method_5_2) rfl ?_
    refine XS.aloadN X0.here hx rfl (hb hby d_prog_5_method_5_3) rfl rfl ?_
    refine st1 _ ?_
    refine XS.lcmp X1.here hx rfl (hb hby d_prog_5_method_5_7) rfl ?_
    refine XS.ifNo X1.here hx rfl (hb hby d_prog_5_method_5_8) rfl ((if0 _ _).trans (flt (fun q => hge ((lw_lt _ _).mp q))).1) ?_
    show Steps p.tables e below (T1.setTop (mkF m 11 #[.val (.ref a5), .val (.long nn), .second, .val .null] [])) _
    refine XS.lloadN X1.here hx rfl (hb hby d_prog_5_method_5_11) rfl ?_
    refine XS.aloadN X1.here hx rfl (hb hby d_prog_5_method_5_12) rfl rfl ?_
    refine st2 _ ?_
    refine XS.lsub X2.here hx rfl (hb hby d_prog_5_method_5_16) rfl ?_
    refine XS.aloadN X2.here hx rfl (hb hby d_prog_5_method_5_17) rfl rfl ?_
    refine st3 _ ?_
    show Steps p.tables e below (T3.setTop (mkF m 21 #[.val (.ref a5), .val (.long nn), .second, .val .null] [(.int (2 : Int32)), (.long (nn - q1))])) _
    refine XS.i2l X3.here hx rfl (hb hby d_prog_5_method_5_21) rfl ?_
    refine XS.lcmp X3.here hx rfl (hb hby d_prog_5_method_5_22) rfl ?_
    refine XS.ifNo X3.here hx rfl (hb hby d_prog_5_method_5_23) rfl ((if0 _ _).trans (tlt (by rw [hd]; decide)).2.1) ?_
    refine XS.aloadN X3.here hx rfl (hb hby d_prog_5_method_5_26) rfl rfl ?_
    refine st4 _ ?_
    refine XS.aloadN X4.here hx rfl (hb hby d_prog_5_method_5_30) rfl rfl ?_
    show Steps p.tables e below (T4.setTop (mkF m 31 #[.val (.ref a5), .val (.long nn), .second, .val .null] [(.ref a5), (.ref b5)])) _
    refine st5 _ ?_
    refine XS.i2l X5.here hx rfl (hb hby d_prog_5_method_5_34) rfl ?_
    refine XS.lloadN X5.here hx rfl (hb hby d_prog_5_method_5_35) rfl ?_
    refine XS.ladd X5.here hx rfl (hb hby d_prog_5_method_5_36) rfl ?_
    refine XS.aloadN X5.here hx rfl (hb hby d_prog_5_method_5_37) rfl rfl ?_
    refine st6 _ ?_
    show Steps p.tables e below (T6.setTop (mkF m 41 #[.val (.ref a5), .val (.long nn), .second, .val .null] [(.long q1), (.long (((0 : Int32).toInt64) + nn)), (.ref b5)])) _
    refine XS.lsub X6.here hx rfl (hb hby d_prog_5_method_5_41) rfl ?_
    refine XS.aloadN X6.here hx rfl (hb hby d_prog_5_method_5_42) rfl rfl ?_
    refine st7 _ ?_
    refine X7.arraylength hx (by rw [e7]; exact Ar8.1) (State.isArrayOf_alike hZ.alike Ar8.2.1) (g := (mkF m 46 #[.val (.ref a5), .val (.long nn), .second, .val .null] [(.ref b5), (.long ((((0 : Int32).toInt64) + nn) - q1)), (.ref b5)])) rfl rfl (hb hby d_prog_5_method_5_46) _ ?_
    rw [len_of S8 M8]
    refine XS.i2l X7.here hx rfl (hb hby d_prog_5_method_5_47) rfl ?_
    refine XS.lrem X7.here hx rfl (hb hby d_prog_5_method_5_48) rfl (by decide) ?_
    show Steps p.tables e below (T7.setTop (mkF m 49 #[.val (.ref a5), .val (.long nn), .second, .val .null] [(.long (((((0 : Int32).toInt64) + nn) - q1) - (((((0 : Int32).toInt64) + nn) - q1) / ((16 : Int32).toInt64)) * ((16 : Int32).toInt64))), (.ref b5)])) _
    refine XS.l2i X7.here hx rfl (hb hby d_prog_5_method_5_49) rfl ?_
    exact kt)
  have hix := own_x (((0 : Int32)).toInt64) nn q1 (0 : Int64) (0 : Int64) hd (by decide)
  have hj : ((((((0 : Int32).toInt64) + nn) - q1) - (((((0 : Int32).toInt64) + nn) - q1) / ((16 : Int32).toInt64)) * ((16 : Int32).toInt64)).toInt32) = (0 : Int32) := by rw [hix]; decide
  have gp10 := gp9
  rw [hj] at gp10
  obtain ⟨c11, Ar11, q11, S11, M11, Hh11, G11⟩ := (id V5)
  have hin11 : ¬ ((0 : Int32) < 0 ∨ c11.slots.size ≤ ((0 : Int32)).toNatClampNeg) := inb_of S11 ⟨by decide, by decide⟩
  have hat11 : c11.slots[((0 : Int32)).toNatClampNeg]? = some (.ref u0) := Hh11.at hin11 rfl
  obtain ⟨fs, hr, hrun, hended, hW, hsame⟩ := X7.leave (v := (some (.ref u0))) (fun h => by rw [Bd.returns] at h; cases h)
  refine ⟨_, _, gp10 _ ?_, hrun, hended, _, _, rfl, ?_, ⟨_, rfl⟩, hW, hsame.mono (by decide) (by decide)⟩
  · refine X7.aaload hx (j := (0 : Int32)) (v := (.ref u0)) (by rw [e7]; exact Ar11.1) (State.isArrayOf_alike hZ.alike Ar11.2.1) rfl Ar11.2.2 hin11 hat11 (g := (mkF m 50 #[.val (.ref a5), .val (.long nn), .second, .val .null] [(.int (0 : Int32)), (.ref b5)])) rfl rfl (hb hby d_prog_5_method_5_50) _ ?_
    refine XS.astoreN X7.here hx rfl (hb hby d_prog_5_method_5_51) rfl rfl (l' := #[.val (.ref a5), .val (.long nn), .second, .val (.ref u0)]) rfl ?_
    refine XS.aloadN X7.here hx rfl (hb hby d_prog_5_method_5_52) rfl rfl ?_
    exact retOut X7 hx Bd.returns rfl (Or.inr (Or.inr (Or.inr (Or.inr ⟨rfl, rfl, rfl⟩)))) (hb hby d_prog_5_method_5_53) hr
  · show QX (.ref u0) h0 n0 _ T7.heap _
    rw [e7]
    exact ⟨rfl, N0, rfl⟩
set_option maxRecDepth 65536 in
set_option maxHeartbeats 40000000 in
theorem rm_get_2_0_RRN_hi (l : Launch) (Z : State) (a0 : Array Value) (hw : ∀ d ∈ tables_1, d.before a0 Z = true) (ws : List Jvm.Cond) (a5 b5 : Addr) (k5 : ClassId) (u0 : Addr) (u1 : Addr) (q1 : Int64) (h0 : Heap) (n0 : Nat) (O0 : Old Z n0 h0) (hR : Ring Z n0 h0 a5 b5 k5 (2 : Int32) (0 : Int32) q1 [(.ref u0), (.ref u1), .null, .null, .null, .null, .null, .null, .null, .null, .null, .null, .null, .null, .null, .null]) (nn : Int64) (hge : ¬ nn < q1) (hd : nn - q1 = (2 : Int64)) :
    Met l my_7 prog_5_method_5_code 4 (some (.object nObject_2)) ws ({ frames := 0, cells := 0, slots := 0, locals := 0 } : Room) #[(.ref a5), (.long nn)] Z h0 (QX .null h0 n0) := by
  refine MetFree.of_bodySF (plainFor_of_name pn_2) hisR ?_
  intro p e s m args below meth c s₁ Bd hml0 hP hK
  obtain ⟨rfl, hZ, hh⟩ := hP
  have hx := Bd.exec
  have hby := Bd.bytes
  have hml : c.maxLocals = 4 := hml0
  have hown : s.vm.findClass nConsec_1 = some m.cls := findClass_of_methodNamed Bd.named
  have hnm := (name_of_methodNamed Bd.named Bd.method).1
  have X0 : Stand p l e ({ frames := 0, cells := 0, slots := 0, locals := 0 } : Room) s m #[(.ref a5), (.long nn)] below meth c s₁ [] 0 0 := Stand.of_body Bd
  have e0 : s₁.heap = h0 := by rw [← hh, Bd.state]; rfl
  have N0 := Fr.nil n0
  obtain ⟨f₀, hf₀⟩ : ∃ f, f = entryFrame m #[(.ref a5), (.long nn)] 4 := ⟨_, rfl⟩
  rw [← hf₀]
  have pre0 : Go p e below s₁ f₀ s₁ (mkF m 0 #[.val (.ref a5), .val (.long nn), .second, .unset] []) := fun t kk => castTop (hf₀.trans (ef_rm_get_2_0_RRN_hi m (a5) (nn))) kk
  obtain ⟨E5, F_values, F_size, F_head, F_first, V5, Ov5, g5, gb5⟩ := (id hR)
  have ne5 := Exa.neArv E5 V5 (wq hw 9 rfl)
  obtain ⟨T1, X1, e1, st1⟩ := getF X0 hx hZ hown (host := "") (Or.inl (wq hw 21 rfl)) Via.refl e0 F_first (g := (mkF m 4 #[.val (.ref a5), .val (.long nn), .second, .val .null] [(.ref a5), (.long nn)])) rfl rfl (hb hby d_prog_5_method_5_4)
  obtain ⟨T2, X2, e2, st2⟩ := getF X1 hx hZ hown (host := "") (Or.inl (wq hw 21 rfl)) Via.refl e1 F_first (g := (mkF m 13 #[.val (.ref a5), .val (.long nn), .second, .val .null] [(.ref a5), (.long nn)])) rfl rfl (hb hby d_prog_5_method_5_13)
  obtain ⟨T3, X3, e3, st3⟩ := getF X2 hx hZ hown (host := "") (Or.inl (wq hw 28 rfl)) Via.refl e2 F_size (g := (mkF m 18 #[.val (.ref a5), .val (.long nn), .second, .val .null] [(.ref a5), (.long (nn - q1))])) rfl rfl (hb hby d_prog_5_method_5_18)
  obtain ⟨fs, hr, hrun, hended, hW, hsame⟩ := X3.leave (v := (some .null)) (fun h => by rw [Bd.returns] at h; cases h)
  refine ⟨_, _, pre0 _ ?_, hrun, hended, _, _, rfl, ?_, ⟨_, rfl⟩, hW, hsame.mono (by decide) (by decide)⟩
  · refine XS.aconstNull X0.here hx rfl (hb hby d_prog_5_method_5_0) ?_
    show Steps p.tables e below (s₁.setTop (mkF m 1 #[.val (.ref a5), .val (.long nn), .second, .unset] [.null])) _
    refine XS.astoreN X0.here hx rfl (hb hby d_prog_5_method_5_1) rfl rfl (l' := #[.val (.ref a5), .val (.long nn), .second, .val .null]) rfl ?_
    refine XS.lloadN X0.here hx rfl (hb hby d_prog_5_method_5_2) rfl ?_
    refine XS.aloadN X0.here hx rfl (hb hby d_prog_5_method_5_3) rfl rfl ?_
    refine st1 _ ?_
    refine XS.lcmp X1.here hx rfl (hb hby d_prog_5_method_5_7) rfl ?_
    refine XS.ifNo X1.here hx rfl (hb hby d_prog_5_method_5_8) rfl ((if0 _ _).trans (flt (fun q => hge ((lw_lt _ _).mp q))).1) ?_
    show Steps p.tables e below (T1.setTop (mkF m 11 #[.val (.ref a5), .val (.long nn), .second, .val .null] [])) _
    refine XS.lloadN X1.here hx rfl (hb hby d_prog_5_method_5_11) rfl ?_
    refine XS.aloadN X1.here hx rfl (hb hby d_prog_5_method_5_12) rfl rfl ?_
    refine st2 _ ?_
    refine XS.lsub X2.here hx rfl (hb hby d_prog_5_method_5_16) rfl ?_
    refine XS.aloadN X2.here hx rfl (hb hby d_prog_5_method_5_17) rfl rfl ?_
    refine st3 _ ?_
    show Steps p.tables e below (T3.setTop (mkF m 21 #[.val (.ref a5), .val (.long nn), .second, .val .null] [(.int (2 : Int32)), (.long (nn - q1))])) _
    refine XS.i2l X3.here hx rfl (hb hby d_prog_5_method_5_21) rfl ?_
    refine XS.lcmp X3.here hx rfl (hb hby d_prog_5_method_5_22) rfl ?_
    refine XS.ifYes X3.here hx rfl (pc0 := 23) (pc' := 52) rfl (hb hby d_prog_5_method_5_23) rfl ((if0 _ _).trans (flt (by rw [hd]; decide)).2.1) (by decide) (by decide) ?_
    refine XS.aloadN X3.here hx rfl (hb hby d_prog_5_method_5_52) rfl rfl ?_
    exact retOut X3 hx Bd.returns rfl (Or.inr (Or.inr (Or.inr (Or.inr ⟨rfl, rfl, rfl⟩)))) (hb hby d_prog_5_method_5_53) hr
  · show QX .null h0 n0 _ T3.heap _
    rw [e3]
    exact ⟨rfl, N0, rfl⟩
set_option maxRecDepth 65536 in
set_option maxHeartbeats 40000000 in
theorem rm_get_1_0_RNN_0 (l : Launch) (Z : State) (a0 : Array Value) (hw : ∀ d ∈ tables_1, d.before a0 Z = true) (ws : List Jvm.Cond) (a5 b5 : Addr) (k5 : ClassId) (u0 : Addr) (q1 : Int64) (h0 : Heap) (n0 : Nat) (O0 : Old Z n0 h0) (hR : Ring Z n0 h0 a5 b5 k5 (1 : Int32) (0 : Int32) q1 [(.ref u0), .null, .null, .null, .null, .null, .null, .null, .null, .null, .null, .null, .null, .null, .null, .null]) (nn : Int64) (hge : ¬ nn < q1) (hd : nn - q1 = (0 : Int64)) :
    Met l my_7 prog_5_method_5_code 4 (some (.object nObject_2)) ws ({ frames := 0, cells := 0, slots := 0, locals := 0 } : Room) #[(.ref a5), (.long nn)] Z h0 (QX (.ref u0) h0 n0) := by
  refine MetFree.of_bodySF (plainFor_of_name pn_2) hisR ?_
  intro p e s m args below meth c s₁ Bd hml0 hP hK
  obtain ⟨rfl, hZ, hh⟩ := hP
  have hx := Bd.exec
  have hby := Bd.bytes
  have hml : c.maxLocals = 4 := hml0
  have hown : s.vm.findClass nConsec_1 = some m.cls := findClass_of_methodNamed Bd.named
  have hnm := (name_of_methodNamed Bd.named Bd.method).1
  have X0 : Stand p l e ({ frames := 0, cells := 0, slots := 0, locals := 0 } : Room) s m #[(.ref a5), (.long nn)] below meth c s₁ [] 0 0 := Stand.of_body Bd
  have e0 : s₁.heap = h0 := by rw [← hh, Bd.state]; rfl
  have N0 := Fr.nil n0
  obtain ⟨f₀, hf₀⟩ : ∃ f, f = entryFrame m #[(.ref a5), (.long nn)] 4 := ⟨_, rfl⟩
  rw [← hf₀]
  have pre0 : Go p e below s₁ f₀ s₁ (mkF m 0 #[.val (.ref a5), .val (.long nn), .second, .unset] []) := fun t kk => castTop (hf₀.trans (ef_rm_get_1_0_RNN_0 m (a5) (nn))) kk
  obtain ⟨E5, F_values, F_size, F_head, F_first, V5, Ov5, g5, gb5⟩ := (id hR)
  have ne5 := Exa.neArv E5 V5 (wq hw 9 rfl)
  obtain ⟨T1, X1, e1, st1⟩ := getF X0 hx hZ hown (host := "") (Or.inl (wq hw 21 rfl)) Via.refl e0 F_first (g := (mkF m 4 #[.val (.ref a5), .val (.long nn), .second, .val .null] [(.ref a5), (.long nn)])) rfl rfl (hb hby d_prog_5_method_5_4)
  obtain ⟨T2, X2, e2, st2⟩ := getF X1 hx hZ hown (host := "") (Or.inl (wq hw 21 rfl)) Via.refl e1 F_first (g := (mkF m 13 #[.val (.ref a5), .val (.long nn), .second, .val .null] [(.ref a5), (.long nn)])) rfl rfl (hb hby d_prog_5_method_5_13)
  obtain ⟨T3, X3, e3, st3⟩ := getF X2 hx hZ hown (host := "") (Or.inl (wq hw 28 rfl)) Via.refl e2 F_size (g := (mkF m 18 #[.val (.ref a5), .val (.long nn), .second, .val .null] [(.ref a5), (.long (nn - q1))])) rfl rfl (hb hby d_prog_5_method_5_18)
  obtain ⟨T4, X4, e4, st4⟩ := getF X3 hx hZ hown (host := "") (Or.inl (wq hw 19 rfl)) Via.refl e3 F_values (g := (mkF m 27 #[.val (.ref a5), .val (.long nn), .second, .val .null] [(.ref a5)])) rfl rfl (hb hby d_prog_5_method_5_27)
  obtain ⟨T5, X5, e5, st5⟩ := getF X4 hx hZ hown (host := "") (Or.inl (wq hw 30 rfl)) Via.refl e4 F_head (g := (mkF m 31 #[.val (.ref a5), .val (.long nn), .second, .val .null] [(.ref a5), (.ref b5)])) rfl rfl (hb hby d_prog_5_method_5_31)
  obtain ⟨T6, X6, e6, st6⟩ := getF X5 hx hZ hown (host := "") (Or.inl (wq hw 21 rfl)) Via.refl e5 F_first (g := (mkF m 38 #[.val (.ref a5), .val (.long nn), .second, .val .null] [(.ref a5), (.long (((0 : Int32).toInt64) + nn)), (.ref b5)])) rfl rfl (hb hby d_prog_5_method_5_38)
  obtain ⟨T7, X7, e7, st7⟩ := getF X6 hx hZ hown (host := "") (Or.inl (wq hw 19 rfl)) Via.refl e6 F_values (g := (mkF m 43 #[.val (.ref a5), .val (.long nn), .second, .val .null] [(.ref a5), (.long ((((0 : Int32).toInt64) + nn) - q1)), (.ref b5)])) rfl rfl (hb hby d_prog_5_method_5_43)
  obtain ⟨c8, Ar8, q8, S8, M8, Hh8, G8⟩ := (id V5)
  have gp9 : Go p e below s₁ f₀ T7 (mkF m 50 #[.val (.ref a5), .val (.long nn), .second, .val .null] [(.int ((((((0 : Int32).toInt64) + nn) - q1) - (((((0 : Int32).toInt64) + nn) - q1) / ((16 : Int32).toInt64)) * ((16 : Int32).toInt64)).toInt32)), (.ref b5)]) := fun t kt => pre0 t (by
    refine XS.aconstNull X0.here hx rfl (hb hby d_prog_5_method_5_0) ?_
    show Steps p.tables e below (s₁.setTop (mkF m 1 #[.val (.ref a5), .val (.long nn), .second, .unset] [.null])) _
    refine XS.astoreN X0.here hx rfl (hb hby d_prog_5_method_5_1) rfl rfl (l' := #[.val (.ref a5), .val (.long nn), .second, .val .null]) rfl ?_
    refine XS.lloadN X0.here hx rfl (hb hby d_prog_5_method_5_2) rfl ?_
    refine XS.aloadN X0.here hx rfl (hb hby d_prog_5_method_5_3) rfl rfl ?_
    refine st1 _ ?_
    refine XS.lcmp X1.here hx rfl (hb hby d_prog_5_method_5_7) rfl ?_
    refine XS.ifNo X1.here hx rfl (hb hby d_prog_5_method_5_8) rfl ((if0 _ _).trans (flt (fun q => hge ((lw_lt _ _).mp q))).1) ?_
    show Steps p.tables e below (T1.setTop (mkF m 11 #[.val (.ref a5), .val (.long nn), .second, .val .null] [])) _
    refine XS.lloadN X1.here hx rfl (hb hby d_prog_5_method_5_11) rfl ?_
    refine XS.aloadN X1.here hx rfl (hb hby d_prog_5_method_5_12) rfl rfl ?_
    refine st2 _ ?_
    refine XS.lsub X2.here hx rfl (hb hby d_prog_5_method_5_16) rfl ?_
    refine XS.aloadN X2.here hx rfl (hb hby d_prog_5_method_5_17) rfl rfl ?_
    refine st3 _ ?_
    show Steps p.tables e below (T3.setTop (mkF m 21 #[.val (.ref a5), .val (.long nn), .second, .val .null] [(.int (1 : Int32)), (.long (nn - q1))])) _
    refine XS.i2l X3.here hx rfl (hb hby d_prog_5_method_5_21) rfl ?_
    refine XS.lcmp X3.here hx rfl (hb hby d_prog_5_method_5_22) rfl ?_
    refine XS.ifNo X3.here hx rfl (hb hby d_prog_5_method_5_23) rfl ((if0 _ _).trans (tlt (by rw [hd]; decide)).2.1) ?_
    refine XS.aloadN X3.here hx rfl (hb hby d_prog_5_method_5_26) rfl rfl ?_
    refine st4 _ ?_
    refine XS.aloadN X4.here hx rfl (hb hby d_prog_5_method_5_30) rfl rfl ?_
    show Steps p.tables e below (T4.setTop (mkF m 31 #[.val (.ref a5), .val (.long nn), .second, .val .null] [(.ref a5), (.ref b5)])) _
    refine st5 _ ?_
    refine XS.i2l X5.here hx rfl (hb hby d_prog_5_method_5_34) rfl ?_
    refine XS.lloadN X5.here hx rfl (hb hby d_prog_5_method_5_35) rfl ?_
    refine XS.ladd X5.here hx rfl (hb hby d_prog_5_method_5_36) rfl ?_
    refine XS.aloadN X5.here hx rfl (hb hby d_prog_5_method_5_37) rfl rfl ?_
    refine st6 _ ?_
    show Steps p.tables e below (T6.setTop (mkF m 41 #[.val (.ref a5), .val (.long nn), .second, .val .null] [(.long q1), (.long (((0 : Int32).toInt64) + nn)), (.ref b5)])) _
    refine XS.lsub X6.here hx rfl (hb hby d_prog_5_method_5_41) rfl ?_
    refine XS.aloadN X6.here hx rfl (hb hby d_prog_5_method_5_42) rfl rfl ?_
    refine st7 _ ?_
    refine X7.arraylength hx (by rw [e7]; exact Ar8.1) (State.isArrayOf_alike hZ.alike Ar8.2.1) (g := (mkF m 46 #[.val (.ref a5), .val (.long nn), .second, .val .null] [(.ref b5), (.long ((((0 : Int32).toInt64) + nn) - q1)), (.ref b5)])) rfl rfl (hb hby d_prog_5_method_5_46) _ ?_
    rw [len_of S8 M8]
    refine XS.i2l X7.here hx rfl (hb hby d_prog_5_method_5_47) rfl ?_
    refine XS.lrem X7.here hx rfl (hb hby d_prog_5_method_5_48) rfl (by decide) ?_
    show Steps p.tables e below (T7.setTop (mkF m 49 #[.val (.ref a5), .val (.long nn), .second, .val .null] [(.long (((((0 : Int32).toInt64) + nn) - q1) - (((((0 : Int32).toInt64) + nn) - q1) / ((16 : Int32).toInt64)) * ((16 : Int32).toInt64))), (.ref b5)])) _
    refine XS.l2i X7.here hx rfl (hb hby d_prog_5_method_5_49) rfl ?_
    exact kt)
  have hix := own_x (((0 : Int32)).toInt64) nn q1 (0 : Int64) (0 : Int64) hd (by decide)
  have hj : ((((((0 : Int32).toInt64) + nn) - q1) - (((((0 : Int32).toInt64) + nn) - q1) / ((16 : Int32).toInt64)) * ((16 : Int32).toInt64)).toInt32) = (0 : Int32) := by rw [hix]; decide
  have gp10 := gp9
  rw [hj] at gp10
  obtain ⟨c11, Ar11, q11, S11, M11, Hh11, G11⟩ := (id V5)
  have hin11 : ¬ ((0 : Int32) < 0 ∨ c11.slots.size ≤ ((0 : Int32)).toNatClampNeg) := inb_of S11 ⟨by decide, by decide⟩
  have hat11 : c11.slots[((0 : Int32)).toNatClampNeg]? = some (.ref u0) := Hh11.at hin11 rfl
  obtain ⟨fs, hr, hrun, hended, hW, hsame⟩ := X7.leave (v := (some (.ref u0))) (fun h => by rw [Bd.returns] at h; cases h)
  refine ⟨_, _, gp10 _ ?_, hrun, hended, _, _, rfl, ?_, ⟨_, rfl⟩, hW, hsame.mono (by decide) (by decide)⟩
  · refine X7.aaload hx (j := (0 : Int32)) (v := (.ref u0)) (by rw [e7]; exact Ar11.1) (State.isArrayOf_alike hZ.alike Ar11.2.1) rfl Ar11.2.2 hin11 hat11 (g := (mkF m 50 #[.val (.ref a5), .val (.long nn), .second, .val .null] [(.int (0 : Int32)), (.ref b5)])) rfl rfl (hb hby d_prog_5_method_5_50) _ ?_
    refine XS.astoreN X7.here hx rfl (hb hby d_prog_5_method_5_51) rfl rfl (l' := #[.val (.ref a5), .val (.long nn), .second, .val (.ref u0)]) rfl ?_
    refine XS.aloadN X7.here hx rfl (hb hby d_prog_5_method_5_52) rfl rfl ?_
    exact retOut X7 hx Bd.returns rfl (Or.inr (Or.inr (Or.inr (Or.inr ⟨rfl, rfl, rfl⟩)))) (hb hby d_prog_5_method_5_53) hr
  · show QX (.ref u0) h0 n0 _ T7.heap _
    rw [e7]
    exact ⟨rfl, N0, rfl⟩
set_option maxRecDepth 65536 in
set_option maxHeartbeats 40000000 in
theorem rm_fst_1_0_RNN (l : Launch) (Z : State) (a0 : Array Value) (hw : ∀ d ∈ tables_1, d.before a0 Z = true) (ws : List Jvm.Cond) (a5 b5 : Addr) (k5 : ClassId) (u0 : Addr) (q1 : Int64) (h0 : Heap) (n0 : Nat) (O0 : Old Z n0 h0) (hR : Ring Z n0 h0 a5 b5 k5 (1 : Int32) (0 : Int32) q1 [(.ref u0), .null, .null, .null, .null, .null, .null, .null, .null, .null, .null, .null, .null, .null, .null, .null]) :
    Met l my_8 prog_5_method_6_code 1 (some (.object nObject_2)) ws ({ frames := 1, cells := 0, slots := 0, locals := 15 } : Room) #[(.ref a5)] Z h0 (QX (.ref u0) h0 n0) := by
  refine MetFree.of_bodySF (plainFor_of_name pn_2) hisR ?_
  intro p e s m args below meth c s₁ Bd hml0 hP hK
  obtain ⟨rfl, hZ, hh⟩ := hP
  have hx := Bd.exec
  have hby := Bd.bytes
  have hml : c.maxLocals = 1 := hml0
  have hown : s.vm.findClass nConsec_1 = some m.cls := findClass_of_methodNamed Bd.named
  have hnm := (name_of_methodNamed Bd.named Bd.method).1
  have X0 : Stand p l e ({ frames := 1, cells := 0, slots := 0, locals := 15 } : Room) s m #[(.ref a5)] below meth c s₁ [] 0 0 := Stand.of_body Bd
  have e0 : s₁.heap = h0 := by rw [← hh, Bd.state]; rfl
  have N0 := Fr.nil n0
  obtain ⟨f₀, hf₀⟩ : ∃ f, f = entryFrame m #[(.ref a5)] 1 := ⟨_, rfl⟩
  rw [← hf₀]
  have pre0 : Go p e below s₁ f₀ s₁ (mkF m 0 #[.val (.ref a5)] []) := fun t kk => castTop (hf₀.trans (ef_rm_fst_1_0_RNN m (a5))) kk
  obtain ⟨E5, F_values, F_size, F_head, F_first, V5, Ov5, g5, gb5⟩ := (id hR)
  have ne5 := Exa.neArv E5 V5 (wq hw 9 rfl)
  obtain ⟨T1, X1, e1, st1⟩ := getF X0 hx hZ hown (host := "") (Or.inl (wq hw 28 rfl)) Via.refl e0 F_size (g := (mkF m 1 #[.val (.ref a5)] [(.ref a5)])) rfl rfl (hb hby d_prog_5_method_6_1)
  obtain ⟨T2, X2, e2, st2⟩ := getF X1 hx hZ hown (host := "") (Or.inl (wq hw 21 rfl)) Via.refl e1 F_first (g := (mkF m 19 #[.val (.ref a5)] [(.ref a5), (.ref a5)])) rfl rfl (hb hby d_prog_5_method_6_19)
  obtain ⟨cq3, kq3, q3a, q3b, q3c⟩ := isOf hZ e2 (E5)
  obtain ⟨_, _, ⟨T3, L3, k3, n3⟩, -, X3, ⟨Lc3, hQ3, l3, y3, z3⟩, st3⟩ := X2.virtualBack hx (y := my_7) (z := my_7) hown (mvT hZ (wq hw 43 rfl)) (mvT hZ (wq hw 44 rfl)) (notFace_of_selects (args := #[]) (mvT hZ (wq hw 46 rfl))) (mvT hZ (wq hw 46 rfl)) (mvT hZ (wq hw 45 rfl)) (by decide) (backOf (W := 0) (rm_get_1_0_RNN_0 l Z a0 hw [] a5 b5 k5 u0 q1 h0 n0 O0 hR q1 (fun q => absurd q Int64.lt_irrefl) (Int64.sub_self _)) hZ (wq hw 47 rfl) (wq hw 10 rfl) (by decide) (by decide)) q3a q3c (g := (mkF m 22 #[.val (.ref a5)] [(.long q1), (.ref a5)])) rfl (by rw [hml]; rfl) (Steps.refl _) (argsL := [(.long q1)]) (rest := []) (lenOf pd_7 rfl) rfl (by show 2 * 0 + _ ≤ _; exact Nat.le_of_eq rfl) (hb hby d_prog_5_method_6_22) (fun _ _ => ⟨rfl, e2, (by decide : 0 + 0 ≤ _), (by decide : 0 + 0 ≤ _)⟩)
  dsimp only [Pt.U, Pt.locs, Pt.cells, Pt.slots] at X3 l3 y3 z3 st3 hQ3
  have X3 := own_to X3 l3 y3 z3
  obtain ⟨rfl, N3q, e3⟩ := hQ3
  have N3 := Fr.app N0 N3q
  obtain ⟨fs, hr, hrun, hended, hW, hsame⟩ := X3.leave (v := (some (.ref u0))) (fun h => by rw [Bd.returns] at h; cases h)
  refine ⟨_, _, pre0 _ ?_, hrun, hended, _, _, rfl, ?_, ⟨_, rfl⟩, hW, hsame.mono (by decide) (by decide)⟩
  · refine XS.aloadN X0.here hx rfl (hb hby d_prog_5_method_6_0) rfl rfl ?_
    refine st1 _ ?_
    refine XS.ifYes X1.here hx rfl (pc0 := 4) (pc' := 17) rfl (hb hby d_prog_5_method_6_4) rfl ((if0 _ _).trans (feq (by decide : ¬ ((1 : Int32) = (0 : Int32)))).2) (by decide) (by decide) ?_
    refine XS.aloadN X1.here hx rfl (hb hby d_prog_5_method_6_17) rfl rfl ?_
    refine XS.aloadN X1.here hx rfl (hb hby d_prog_5_method_6_18) rfl rfl ?_
    show Steps p.tables e below (T1.setTop (mkF m 19 #[.val (.ref a5)] [(.ref a5), (.ref a5)])) _
    refine st2 _ ?_
    refine st3.trans ?_
    exact retOut X3 hx Bd.returns rfl (Or.inr (Or.inr (Or.inr (Or.inr ⟨rfl, rfl, rfl⟩)))) (hb hby d_prog_5_method_6_25) hr
  · show QX (.ref u0) h0 n0 _ T3.heap _
    rw [e3]
    exact ⟨rfl, N3, rfl⟩
set_option maxRecDepth 65536 in
set_option maxHeartbeats 40000000 in
theorem rm_rem_1_0_RNN (l : Launch) (Z : State) (a0 : Array Value) (hw : ∀ d ∈ tables_1, d.before a0 Z = true) (ws : List Jvm.Cond) (a5 b5 : Addr) (k5 : ClassId) (u0 : Addr) (q1 : Int64) (h0 : Heap) (n0 : Nat) (O0 : Old Z n0 h0) (hR : Ring Z n0 h0 a5 b5 k5 (1 : Int32) (0 : Int32) q1 [(.ref u0), .null, .null, .null, .null, .null, .null, .null, .null, .null, .null, .null, .null, .null, .null, .null]) :
    Met l my_9 prog_5_method_8_code 2 (some (.object nObject_2)) ws ({ frames := 2, cells := 0, slots := 0, locals := 27 } : Room) #[(.ref a5)] Z h0 (QG Z (some (.ref u0)) a5 b5 k5 (0 : Int32) (1 : Int32) (q1 + (1 : Int64)) [.null, .null, .null, .null, .null, .null, .null, .null, .null, .null, .null, .null, .null, .null, .null, .null] h0 n0) := by
  refine MetFree.of_bodySF (plainFor_of_name pn_2) hisR ?_
  intro p e s m args below meth c s₁ Bd hml0 hP hK
  obtain ⟨rfl, hZ, hh⟩ := hP
  have hx := Bd.exec
  have hby := Bd.bytes
  have hml : c.maxLocals = 2 := hml0
  have hown : s.vm.findClass nConsec_1 = some m.cls := findClass_of_methodNamed Bd.named
  have hnm := (name_of_methodNamed Bd.named Bd.method).1
  have X0 : Stand p l e ({ frames := 2, cells := 0, slots := 0, locals := 27 } : Room) s m #[(.ref a5)] below meth c s₁ [] 0 0 := Stand.of_body Bd
  have e0 : s₁.heap = h0 := by rw [← hh, Bd.state]; rfl
  have N0 := Fr.nil n0
  obtain ⟨f₀, hf₀⟩ : ∃ f, f = entryFrame m #[(.ref a5)] 2 := ⟨_, rfl⟩
  rw [← hf₀]
  have pre0 : Go p e below s₁ f₀ s₁ (mkF m 0 #[.val (.ref a5), .unset] []) := fun t kk => castTop (hf₀.trans (ef_rm_rem_1_0_RNN m (a5))) kk
  obtain ⟨E5, F_values, F_size, F_head, F_first, V5, Ov5, g5, gb5⟩ := (id hR)
  have ne5 := Exa.neArv E5 V5 (wq hw 9 rfl)
  obtain ⟨cq1, kq1, q1a, q1b, q1c⟩ := isOf hZ e0 (E5)
  obtain ⟨_, _, ⟨T1, L1, k1, n1⟩, -, X1, ⟨Lc1, hQ1, l1, y1, z1⟩, st1⟩ := X0.virtualBack hx (y := my_8) (z := my_8) hown (mvT hZ (wq hw 38 rfl)) (mvT hZ (wq hw 39 rfl)) (notFace_of_selects (args := #[]) (mvT hZ (wq hw 41 rfl))) (mvT hZ (wq hw 41 rfl)) (mvT hZ (wq hw 40 rfl)) (by decide) (backOf (W := 0) (rm_fst_1_0_RNN l Z a0 hw [] a5 b5 k5 u0 q1 h0 n0 O0 hR) hZ (wq hw 42 rfl) (wq hw 10 rfl) (by decide) (by decide)) q1a q1c (g := (mkF m 1 #[.val (.ref a5), .unset] [(.ref a5)])) rfl (by rw [hml]; rfl) (Steps.refl _) (argsL := []) (rest := []) (lenOf pd_8 rfl) rfl (by show 2 * 0 + _ ≤ _; exact Nat.le_of_eq rfl) (hb hby d_prog_5_method_8_1) (fun _ _ => ⟨rfl, e0, (by decide : 0 + 0 ≤ _), (by decide : 0 + 0 ≤ _)⟩)
  dsimp only [Pt.U, Pt.locs, Pt.cells, Pt.slots] at X1 l1 y1 z1 st1 hQ1
  have X1 := own_to X1 l1 y1 z1
  obtain ⟨rfl, N1q, e1⟩ := hQ1
  have N1 := Fr.app N0 N1q
  obtain ⟨T2, X2, e2, st2⟩ := getF X1 hx hZ hown (host := "") (Or.inl (wq hw 19 rfl)) Via.refl e1 F_values (g := (mkF m 6 #[.val (.ref a5), .val (.ref u0)] [(.ref a5)])) rfl rfl (hb hby d_prog_5_method_8_6)
  obtain ⟨T3, X3, e3, st3⟩ := getF X2 hx hZ hown (host := "") (Or.inl (wq hw 30 rfl)) Via.refl e2 F_head (g := (mkF m 10 #[.val (.ref a5), .val (.ref u0)] [(.ref a5), (.ref b5)])) rfl rfl (hb hby d_prog_5_method_8_10)
  obtain ⟨c4, Ar4, q4, S4, M4, Hh4, G4⟩ := (id V5)
  have hin4 : ¬ ((0 : Int32) < 0 ∨ c4.slots.size ≤ ((0 : Int32)).toNatClampNeg) := inb_of S4 ⟨by decide, by decide⟩
  obtain ⟨T5, h5, X5, e5, W5, st5⟩ := stR X3 hx hZ e3 Ar4 (j := (0 : Int32)) hin4 rfl (Or.inl rfl) (g := (mkF m 14 #[.val (.ref a5), .val (.ref u0)] [.null, (.int (0 : Int32)), (.ref b5)])) rfl rfl (hb hby d_prog_5_method_8_14)
  have v6 : Arv Z h5 b5 k5 (.object nObject_2) (16 : Int32) [.null, .null, .null, .null, .null, .null, .null, .null, .null, .null, .null, .null, .null, .null, .null, .null] .null := Arv.set Ar4 q4 S4 M4 Hh4 G4 rfl W5 0 rfl (Nat.le_of_ble_eq_true rfl)
  have N5 := Fr.snoc X5 N1 gb5
  have O7 : Old Z n0 h5 := Old.wr O0 W5 gb5
  have K8 : Keep h0 h5 [a5, b5] := (Keep.refl h0 [a5, b5]).wr W5 (Or.inl (List.mem_of_getElem? (i := 1) rfl))
  have t9 : Fld Z h5 a5 nConsec_1 "head" "I" (.int (0 : Int32)) := (F_head.other W5 (Or.inl ne5))
  obtain ⟨T10, X10, e10, st10⟩ := getF X5 hx hZ hown (host := "") (Or.inl (wq hw 30 rfl)) Via.refl e5 t9 (g := (mkF m 17 #[.val (.ref a5), .val (.ref u0)] [(.ref a5), (.ref a5)])) rfl rfl (hb hby d_prog_5_method_8_17)
  have t11 : Fld Z h5 a5 nConsec_1 "values" "[Ljava/lang/Object;" (.ref b5) := (F_values.other W5 (Or.inl ne5))
  obtain ⟨T12, X12, e12, st12⟩ := getF X10 hx hZ hown (host := "") (Or.inl (wq hw 19 rfl)) Via.refl e10 t11 (g := (mkF m 23 #[.val (.ref a5), .val (.ref u0)] [(.ref a5), (.int (1 : Int32)), (.ref a5)])) rfl rfl (hb hby d_prog_5_method_8_23)
  obtain ⟨c13, Ar13, q13, S13, M13, Hh13, G13⟩ := (id v6)
  have t14 : Exa Z h5 a5 nConsec_1 := (E5.wr W5)
  obtain ⟨T15, h15, X15, e15, W15, st15⟩ := putF X12 hx hZ hown (host := "") (Or.inl (wq hw 30 rfl)) Via.refl e12 t9 t14 (Or.inl (wq hw 31 rfl)) (wq hw 9 rfl) (ty := .int) (by decide) rfl rfl (g := (mkF m 28 #[.val (.ref a5), .val (.ref u0)] [(.int (1 : Int32)), (.ref a5)])) rfl rfl (hb hby d_prog_5_method_8_28)
  have f16 : Fld Z h15 a5 nConsec_1 "head" "I" (.int (1 : Int32)) := t9.same W15
  have N15 := Fr.snoc X15 N5 g5
  have O17 : Old Z n0 h15 := Old.wr O7 W15 g5
  have K18 : Keep h0 h15 [a5, b5] := K8.wr W15 (Or.inl (List.mem_of_getElem? (i := 0) rfl))
  have t19 : Fld Z h15 a5 nConsec_1 "size" "I" (.int (1 : Int32)) := ((F_size.other W5 (Or.inl ne5)).other W15 (Or.inr (slot_ne (Or.inl (wq hw 29 rfl)) (Or.inl (wq hw 31 rfl)) (by decide) (t := .int) (t' := .int) (by decide) (by decide))))
  obtain ⟨T20, X20, e20, st20⟩ := getF X15 hx hZ hown (host := "") (Or.inl (wq hw 28 rfl)) Via.refl e15 t19 (g := (mkF m 33 #[.val (.ref a5), .val (.ref u0)] [(.ref a5), (.ref a5)])) rfl rfl (hb hby d_prog_5_method_8_33)
  have t21 : Exa Z h15 a5 nConsec_1 := (t14.wr W15)
  obtain ⟨T22, h22, X22, e22, W22, st22⟩ := putF X20 hx hZ hown (host := "") (Or.inl (wq hw 28 rfl)) Via.refl e20 t19 t21 (Or.inl (wq hw 29 rfl)) (wq hw 9 rfl) (ty := .int) (by decide) rfl rfl (g := (mkF m 38 #[.val (.ref a5), .val (.ref u0)] [(.int (0 : Int32)), (.ref a5)])) rfl rfl (hb hby d_prog_5_method_8_38)
  have f23 : Fld Z h22 a5 nConsec_1 "size" "I" (.int (0 : Int32)) := t19.same W22
  have N22 := Fr.snoc X22 N15 g5
  have O24 : Old Z n0 h22 := Old.wr O17 W22 g5
  have K25 : Keep h0 h22 [a5, b5] := K18.wr W22 (Or.inl (List.mem_of_getElem? (i := 0) rfl))
  have t26 : Fld Z h22 a5 nConsec_1 "first" "J" (.long q1) := (((F_first.other W5 (Or.inl ne5)).other W15 (Or.inr (slot_ne (Or.inl (wq hw 22 rfl)) (Or.inl (wq hw 31 rfl)) (by decide) (t := .long) (t' := .int) (by decide) (by decide)))).other W22 (Or.inr (slot_ne (Or.inl (wq hw 22 rfl)) (Or.inl (wq hw 29 rfl)) (by decide) (t := .long) (t' := .int) (by decide) (by decide))))
  obtain ⟨T27, X27, e27, st27⟩ := getF X22 hx hZ hown (host := "") (Or.inl (wq hw 21 rfl)) Via.refl e22 t26 (g := (mkF m 43 #[.val (.ref a5), .val (.ref u0)] [(.ref a5), (.ref a5)])) rfl rfl (hb hby d_prog_5_method_8_43)
  have t28 : Exa Z h22 a5 nConsec_1 := (t21.wr W22)
  obtain ⟨T29, h29, X29, e29, W29, st29⟩ := putF X27 hx hZ hown (host := "") (Or.inl (wq hw 21 rfl)) Via.refl e27 t26 t28 (Or.inl (wq hw 22 rfl)) (wq hw 9 rfl) (ty := .long) (by decide) rfl rfl (g := (mkF m 48 #[.val (.ref a5), .val (.ref u0)] [(.long (q1 + (1 : Int64))), (.ref a5)])) rfl rfl (hb hby d_prog_5_method_8_48)
  have f30 : Fld Z h29 a5 nConsec_1 "first" "J" (.long (q1 + (1 : Int64))) := t26.same W29
  have N29 := Fr.snoc X29 N22 g5
  have O31 : Old Z n0 h29 := Old.wr O24 W29 g5
  have K32 : Keep h0 h29 [a5, b5] := K25.wr W29 (Or.inl (List.mem_of_getElem? (i := 0) rfl))
  have t33 : Exa Z h29 a5 nConsec_1 := (t28.wr W29)
  have t34 : Fld Z h29 a5 nConsec_1 "values" "[Ljava/lang/Object;" (.ref b5) := (((t11.other W15 (Or.inr (slot_ne (Or.inl (wq hw 20 rfl)) (Or.inl (wq hw 31 rfl)) (by decide) (t := (.array (.object nObject_2))) (t' := .int) (by decide) (by decide)))).other W22 (Or.inr (slot_ne (Or.inl (wq hw 20 rfl)) (Or.inl (wq hw 29 rfl)) (by decide) (t := (.array (.object nObject_2))) (t' := .int) (by decide) (by decide)))).other W29 (Or.inr (slot_ne (Or.inl (wq hw 20 rfl)) (Or.inl (wq hw 22 rfl)) (by decide) (t := (.array (.object nObject_2))) (t' := .long) (by decide) (by decide))))
  have t35 : Fld Z h29 a5 nConsec_1 "size" "I" (.int (0 : Int32)) := (f23.other W29 (Or.inr (slot_ne (Or.inl (wq hw 29 rfl)) (Or.inl (wq hw 22 rfl)) (by decide) (t := .int) (t' := .long) (by decide) (by decide))))
  have t36 : Fld Z h29 a5 nConsec_1 "head" "I" (.int (1 : Int32)) := ((f16.other W22 (Or.inr (slot_ne (Or.inl (wq hw 31 rfl)) (Or.inl (wq hw 29 rfl)) (by decide) (t := .int) (t' := .int) (by decide) (by decide)))).other W29 (Or.inr (slot_ne (Or.inl (wq hw 31 rfl)) (Or.inl (wq hw 22 rfl)) (by decide) (t := .int) (t' := .long) (by decide) (by decide))))
  have t37 : Arv Z h29 b5 k5 (.object nObject_2) (16 : Int32) [.null, .null, .null, .null, .null, .null, .null, .null, .null, .null, .null, .null, .null, .null, .null, .null] .null := (((v6.other W15 (Ne.symm ne5)).other W22 (Ne.symm ne5)).other W29 (Ne.symm ne5))
  obtain ⟨fs, hr, hrun, hended, hW, hsame⟩ := X29.leave (v := (some (.ref u0))) (fun h => by rw [Bd.returns] at h; cases h)
  refine ⟨_, _, pre0 _ ?_, hrun, hended, _, _, rfl, ?_, ⟨_, rfl⟩, hW, hsame.mono (by decide) (by decide)⟩
  · refine XS.aloadN X0.here hx rfl (hb hby d_prog_5_method_8_0) rfl rfl ?_
    refine st1.trans ?_
    refine XS.astoreN X1.here hx rfl (hb hby d_prog_5_method_8_4) rfl rfl (l' := #[.val (.ref a5), .val (.ref u0)]) rfl ?_
    refine XS.aloadN X1.here hx rfl (hb hby d_prog_5_method_8_5) rfl rfl ?_
    show Steps p.tables e below (T1.setTop (mkF m 6 #[.val (.ref a5), .val (.ref u0)] [(.ref a5)])) _
    refine st2 _ ?_
    refine XS.aloadN X2.here hx rfl (hb hby d_prog_5_method_8_9) rfl rfl ?_
    refine st3 _ ?_
    refine XS.aconstNull X3.here hx rfl (hb hby d_prog_5_method_8_13) ?_
    refine st5 _ ?_
    refine XS.aloadN X5.here hx rfl (hb hby d_prog_5_method_8_15) rfl rfl ?_
    show Steps p.tables e below (T5.setTop (mkF m 16 #[.val (.ref a5), .val (.ref u0)] [(.ref a5)])) _
    refine XS.aloadN X5.here hx rfl (hb hby d_prog_5_method_8_16) rfl rfl ?_
    refine st10 _ ?_
    refine XS.iconst X10.here hx rfl (hb hby d_prog_5_method_8_20) ?_
    refine XS.iadd X10.here hx rfl (hb hby d_prog_5_method_8_21) rfl ?_
    show Steps p.tables e below (T10.setTop (mkF m 22 #[.val (.ref a5), .val (.ref u0)] [(.int (1 : Int32)), (.ref a5)])) _
    refine XS.aloadN X10.here hx rfl (hb hby d_prog_5_method_8_22) rfl rfl ?_
    refine st12 _ ?_
    show Steps p.tables e below (T12.setTop (mkF m 26 #[.val (.ref a5), .val (.ref u0)] [(.ref b5), (.int (1 : Int32)), (.ref a5)])) _
    refine X12.arraylength hx (by rw [e12]; exact Ar13.1) (State.isArrayOf_alike hZ.alike Ar13.2.1) (g := (mkF m 26 #[.val (.ref a5), .val (.ref u0)] [(.ref b5), (.int (1 : Int32)), (.ref a5)])) rfl rfl (hb hby d_prog_5_method_8_26) _ ?_
    rw [len_of S13 M13]
    refine iremM X12 hx rfl (hb hby d_prog_5_method_8_27) rfl (by decide) ?_
    show Steps p.tables e below (T12.setTop (mkF m 28 #[.val (.ref a5), .val (.ref u0)] [(.int (1 : Int32)), (.ref a5)])) _
    refine st15 _ ?_
    refine XS.aloadN X15.here hx rfl (hb hby d_prog_5_method_8_31) rfl rfl ?_
    refine XS.dup X15.here hx rfl (hb hby d_prog_5_method_8_32) rfl rfl ?_
    refine st20 _ ?_
    show Steps p.tables e below (T20.setTop (mkF m 36 #[.val (.ref a5), .val (.ref u0)] [(.int (1 : Int32)), (.ref a5)])) _
    refine XS.iconst X20.here hx rfl (hb hby d_prog_5_method_8_36) ?_
    refine XS.isub X20.here hx rfl (hb hby d_prog_5_method_8_37) rfl ?_
    show Steps p.tables e below (T20.setTop (mkF m 38 #[.val (.ref a5), .val (.ref u0)] [(.int (0 : Int32)), (.ref a5)])) _
    refine st22 _ ?_
    refine XS.aloadN X22.here hx rfl (hb hby d_prog_5_method_8_41) rfl rfl ?_
    refine XS.dup X22.here hx rfl (hb hby d_prog_5_method_8_42) rfl rfl ?_
    refine st27 _ ?_
    show Steps p.tables e below (T27.setTop (mkF m 46 #[.val (.ref a5), .val (.ref u0)] [(.long q1), (.ref a5)])) _
    refine XS.lconst X27.here hx rfl (hb hby d_prog_5_method_8_46) ?_
    refine XS.ladd X27.here hx rfl (hb hby d_prog_5_method_8_47) rfl ?_
    refine st29 _ ?_
    refine XS.aloadN X29.here hx rfl (hb hby d_prog_5_method_8_51) rfl rfl ?_
    exact retOut X29 hx Bd.returns rfl (Or.inr (Or.inr (Or.inr (Or.inr ⟨rfl, rfl, rfl⟩)))) (hb hby d_prog_5_method_8_52) hr
  · show QG Z (some (.ref u0)) a5 b5 k5 (0 : Int32) (1 : Int32) (q1 + (1 : Int64)) [.null, .null, .null, .null, .null, .null, .null, .null, .null, .null, .null, .null, .null, .null, .null, .null] h0 n0 _ T29.heap _
    rw [e29]
    exact ⟨rfl, N29, K32, ⟨t33, t34, t35, t36, f30, t37, Ov5, g5, gb5⟩⟩
set_option maxRecDepth 65536 in
set_option maxHeartbeats 40000000 in
theorem rm_add_0_1_NNN (l : Launch) (Z : State) (a0 : Array Value) (hw : ∀ d ∈ tables_1, d.before a0 Z = true) (ws : List Jvm.Cond) (a5 b5 : Addr) (k5 : ClassId) (q1 : Int64) (h0 : Heap) (n0 : Nat) (O0 : Old Z n0 h0) (hR : Ring Z n0 h0 a5 b5 k5 (0 : Int32) (1 : Int32) q1 [.null, .null, .null, .null, .null, .null, .null, .null, .null, .null, .null, .null, .null, .null, .null, .null]) (wv : Addr) (Ew : Exa Z h0 wv nIntege_0) :
    Met l my_6 prog_5_method_7_code 4 none ws ({ frames := 0, cells := 0, slots := 0, locals := 0 } : Room) #[(.ref a5), (.ref wv)] Z h0 (QG Z none a5 b5 k5 (1 : Int32) (1 : Int32) q1 [.null, (.ref wv), .null, .null, .null, .null, .null, .null, .null, .null, .null, .null, .null, .null, .null, .null] h0 n0) := by
  refine MetFree.of_bodySF (plainFor_of_name pn_2) hisR ?_
  intro p e s m args below meth c s₁ Bd hml0 hP hK
  obtain ⟨rfl, hZ, hh⟩ := hP
  have hx := Bd.exec
  have hby := Bd.bytes
  have hml : c.maxLocals = 4 := hml0
  have hown : s.vm.findClass nConsec_1 = some m.cls := findClass_of_methodNamed Bd.named
  have hnm := (name_of_methodNamed Bd.named Bd.method).1
  have X0 : Stand p l e ({ frames := 0, cells := 0, slots := 0, locals := 0 } : Room) s m #[(.ref a5), (.ref wv)] below meth c s₁ [] 0 0 := Stand.of_body Bd
  have e0 : s₁.heap = h0 := by rw [← hh, Bd.state]; rfl
  have N0 := Fr.nil n0
  obtain ⟨f₀, hf₀⟩ : ∃ f, f = entryFrame m #[(.ref a5), (.ref wv)] 4 := ⟨_, rfl⟩
  rw [← hf₀]
  have pre0 : Go p e below s₁ f₀ s₁ (mkF m 0 #[.val (.ref a5), .val (.ref wv), .unset, .unset] []) := fun t kk => castTop (hf₀.trans (ef_rm_add_0_1_NNN m (a5) (wv))) kk
  obtain ⟨E5, F_values, F_size, F_head, F_first, V5, Ov5, g5, gb5⟩ := (id hR)
  have ne5 := Exa.neArv E5 V5 (wq hw 9 rfl)
  obtain ⟨T1, X1, e1, st1⟩ := getF X0 hx hZ hown (host := "") (Or.inl (wq hw 28 rfl)) Via.refl e0 F_size (g := (mkF m 1 #[.val (.ref a5), .val (.ref wv), .unset, .unset] [(.ref a5)])) rfl rfl (hb hby d_prog_5_method_7_1)
  obtain ⟨T2, X2, e2, st2⟩ := getF X1 hx hZ hown (host := "") (Or.inl (wq hw 19 rfl)) Via.refl e1 F_values (g := (mkF m 5 #[.val (.ref a5), .val (.ref wv), .unset, .unset] [(.ref a5), (.int (0 : Int32))])) rfl rfl (hb hby d_prog_5_method_7_5)
  obtain ⟨c3, Ar3, q3, S3, M3, Hh3, G3⟩ := (id V5)
  obtain ⟨T4, X4, e4, st4⟩ := getF X2 hx hZ hown (host := "") (Or.inl (wq hw 19 rfl)) Via.refl e2 F_values (g := (mkF m 70 #[.val (.ref a5), .val (.ref wv), .unset, .unset] [(.ref a5)])) rfl rfl (hb hby d_prog_5_method_7_70)
  obtain ⟨T5, X5, e5, st5⟩ := getF X4 hx hZ hown (host := "") (Or.inl (wq hw 30 rfl)) Via.refl e4 F_head (g := (mkF m 74 #[.val (.ref a5), .val (.ref wv), .unset, .unset] [(.ref a5), (.ref b5)])) rfl rfl (hb hby d_prog_5_method_7_74)
  obtain ⟨T6, X6, e6, st6⟩ := getF X5 hx hZ hown (host := "") (Or.inl (wq hw 28 rfl)) Via.refl e5 F_size (g := (mkF m 78 #[.val (.ref a5), .val (.ref wv), .unset, .unset] [(.ref a5), (.int (1 : Int32)), (.ref b5)])) rfl rfl (hb hby d_prog_5_method_7_78)
  obtain ⟨T7, X7, e7, st7⟩ := getF X6 hx hZ hown (host := "") (Or.inl (wq hw 19 rfl)) Via.refl e6 F_values (g := (mkF m 83 #[.val (.ref a5), .val (.ref wv), .unset, .unset] [(.ref a5), (.int (1 : Int32)), (.ref b5)])) rfl rfl (hb hby d_prog_5_method_7_83)
  obtain ⟨c8, Ar8, q8, S8, M8, Hh8, G8⟩ := (id V5)
  obtain ⟨c9, Ar9, q9, S9, M9, Hh9, G9⟩ := (id V5)
  have hin9 : ¬ ((1 : Int32) < 0 ∨ c9.slots.size ≤ ((1 : Int32)).toNatClampNeg) := inb_of S9 ⟨by decide, by decide⟩
  obtain ⟨T10, h10, X10, e10, W10, st10⟩ := stR X7 hx hZ e7 Ar9 (j := (1 : Int32)) hin9 rfl (Sto.ofV Ar9 q9 Ov5 (Ins.of_exa Ew (wq hw 32 rfl))) (g := (mkF m 89 #[.val (.ref a5), .val (.ref wv), .unset, .unset] [(.ref wv), (.int (1 : Int32)), (.ref b5)])) rfl rfl (hb hby d_prog_5_method_7_89)
  have v11 : Arv Z h10 b5 k5 (.object nObject_2) (16 : Int32) [.null, (.ref wv), .null, .null, .null, .null, .null, .null, .null, .null, .null, .null, .null, .null, .null, .null] .null := Arv.set Ar9 q9 S9 M9 Hh9 G9 rfl W10 1 rfl (Nat.le_of_ble_eq_true rfl)
  have N10 := Fr.snoc X10 N0 gb5
  have O12 : Old Z n0 h10 := Old.wr O0 W10 gb5
  have K13 : Keep h0 h10 [a5, b5] := (Keep.refl h0 [a5, b5]).wr W10 (Or.inl (List.mem_of_getElem? (i := 1) rfl))
  have t14 : Fld Z h10 a5 nConsec_1 "size" "I" (.int (0 : Int32)) := (F_size.other W10 (Or.inl ne5))
  obtain ⟨T15, X15, e15, st15⟩ := getF X10 hx hZ hown (host := "") (Or.inl (wq hw 28 rfl)) Via.refl e10 t14 (g := (mkF m 92 #[.val (.ref a5), .val (.ref wv), .unset, .unset] [(.ref a5), (.ref a5)])) rfl rfl (hb hby d_prog_5_method_7_92)
  have t16 : Exa Z h10 a5 nConsec_1 := (E5.wr W10)
  obtain ⟨T17, h17, X17, e17, W17, st17⟩ := putF X15 hx hZ hown (host := "") (Or.inl (wq hw 28 rfl)) Via.refl e15 t14 t16 (Or.inl (wq hw 29 rfl)) (wq hw 9 rfl) (ty := .int) (by decide) rfl rfl (g := (mkF m 97 #[.val (.ref a5), .val (.ref wv), .unset, .unset] [(.int (1 : Int32)), (.ref a5)])) rfl rfl (hb hby d_prog_5_method_7_97)
  have f18 : Fld Z h17 a5 nConsec_1 "size" "I" (.int (1 : Int32)) := t14.same W17
  have N17 := Fr.snoc X17 N10 g5
  have O19 : Old Z n0 h17 := Old.wr O12 W17 g5
  have K20 : Keep h0 h17 [a5, b5] := K13.wr W17 (Or.inl (List.mem_of_getElem? (i := 0) rfl))
  have t21 : Exa Z h17 a5 nConsec_1 := (t16.wr W17)
  have t22 : Fld Z h17 a5 nConsec_1 "values" "[Ljava/lang/Object;" (.ref b5) := ((F_values.other W10 (Or.inl ne5)).other W17 (Or.inr (slot_ne (Or.inl (wq hw 20 rfl)) (Or.inl (wq hw 29 rfl)) (by decide) (t := (.array (.object nObject_2))) (t' := .int) (by decide) (by decide))))
  have t23 : Fld Z h17 a5 nConsec_1 "head" "I" (.int (1 : Int32)) := ((F_head.other W10 (Or.inl ne5)).other W17 (Or.inr (slot_ne (Or.inl (wq hw 31 rfl)) (Or.inl (wq hw 29 rfl)) (by decide) (t := .int) (t' := .int) (by decide) (by decide))))
  have t24 : Fld Z h17 a5 nConsec_1 "first" "J" (.long q1) := ((F_first.other W10 (Or.inl ne5)).other W17 (Or.inr (slot_ne (Or.inl (wq hw 22 rfl)) (Or.inl (wq hw 29 rfl)) (by decide) (t := .long) (t' := .int) (by decide) (by decide))))
  have t25 : Arv Z h17 b5 k5 (.object nObject_2) (16 : Int32) [.null, (.ref wv), .null, .null, .null, .null, .null, .null, .null, .null, .null, .null, .null, .null, .null, .null] .null := (v11.other W17 (Ne.symm ne5))
  obtain ⟨fs, hr, hrun, hended, hW, hsame⟩ := X17.leave (v := none) (fun _ => rfl)
  refine ⟨_, _, pre0 _ ?_, hrun, hended, _, _, rfl, ?_, ⟨_, rfl⟩, hW, hsame.mono (by decide) (by decide)⟩
  · refine XS.aloadN X0.here hx rfl (hb hby d_prog_5_method_7_0) rfl rfl ?_
    refine st1 _ ?_
    refine XS.aloadN X1.here hx rfl (hb hby d_prog_5_method_7_4) rfl rfl ?_
    refine st2 _ ?_
    refine X2.arraylength hx (by rw [e2]; exact Ar3.1) (State.isArrayOf_alike hZ.alike Ar3.2.1) (g := (mkF m 8 #[.val (.ref a5), .val (.ref wv), .unset, .unset] [(.ref b5), (.int (0 : Int32))])) rfl rfl (hb hby d_prog_5_method_7_8) _ ?_
    rw [len_of S3 M3]
    show Steps p.tables e below (T2.setTop (mkF m 9 #[.val (.ref a5), .val (.ref wv), .unset, .unset] [(.int (16 : Int32)), (.int (0 : Int32))])) _
    refine XS.icmpYes X2.here hx rfl (pc0 := 9) (pc' := 69) rfl (hb hby d_prog_5_method_7_9) rfl (feq (by decide : ¬ ((0 : Int32) = (16 : Int32)))).2 (by decide) (by decide) ?_
    refine XS.aloadN X2.here hx rfl (hb hby d_prog_5_method_7_69) rfl rfl ?_
    refine st4 _ ?_
    refine XS.aloadN X4.here hx rfl (hb hby d_prog_5_method_7_73) rfl rfl ?_
    refine st5 _ ?_
    refine XS.aloadN X5.here hx rfl (hb hby d_prog_5_method_7_77) rfl rfl ?_
    show Steps p.tables e below (T5.setTop (mkF m 78 #[.val (.ref a5), .val (.ref wv), .unset, .unset] [(.ref a5), (.int (1 : Int32)), (.ref b5)])) _
    refine st6 _ ?_
    refine XS.iadd X6.here hx rfl (hb hby d_prog_5_method_7_81) rfl ?_
    show Steps p.tables e below (T6.setTop (mkF m 82 #[.val (.ref a5), .val (.ref wv), .unset, .unset] [(.int (1 : Int32)), (.ref b5)])) _
    refine XS.aloadN X6.here hx rfl (hb hby d_prog_5_method_7_82) rfl rfl ?_
    refine st7 _ ?_
    refine X7.arraylength hx (by rw [e7]; exact Ar8.1) (State.isArrayOf_alike hZ.alike Ar8.2.1) (g := (mkF m 86 #[.val (.ref a5), .val (.ref wv), .unset, .unset] [(.ref b5), (.int (1 : Int32)), (.ref b5)])) rfl rfl (hb hby d_prog_5_method_7_86) _ ?_
    rw [len_of S8 M8]
    refine iremM X7 hx rfl (hb hby d_prog_5_method_7_87) rfl (by decide) ?_
    show Steps p.tables e below (T7.setTop (mkF m 88 #[.val (.ref a5), .val (.ref wv), .unset, .unset] [(.int (1 : Int32)), (.ref b5)])) _
    refine XS.aloadN X7.here hx rfl (hb hby d_prog_5_method_7_88) rfl rfl ?_
    refine st10 _ ?_
    refine XS.aloadN X10.here hx rfl (hb hby d_prog_5_method_7_90) rfl rfl ?_
    refine XS.dup X10.here hx rfl (hb hby d_prog_5_method_7_91) rfl rfl ?_
    refine st15 _ ?_
    refine XS.iconst X15.here hx rfl (hb hby d_prog_5_method_7_95) ?_
    show Steps p.tables e below (T15.setTop (mkF m 96 #[.val (.ref a5), .val (.ref wv), .unset, .unset] [(.int (1 : Int32)), (.int (0 : Int32)), (.ref a5)])) _
    refine XS.iadd X15.here hx rfl (hb hby d_prog_5_method_7_96) rfl ?_
    show Steps p.tables e below (T15.setTop (mkF m 97 #[.val (.ref a5), .val (.ref wv), .unset, .unset] [(.int (1 : Int32)), (.ref a5)])) _
    refine st17 _ ?_
    exact X17.returnOut hx Bd.returns (hb hby d_prog_5_method_7_100) hr
  · show QG Z none a5 b5 k5 (1 : Int32) (1 : Int32) q1 [.null, (.ref wv), .null, .null, .null, .null, .null, .null, .null, .null, .null, .null, .null, .null, .null, .null] h0 n0 _ T17.heap _
    rw [e17]
    exact ⟨rfl, N17, K20, ⟨t21, t22, f18, t23, t24, t25, Ov5, g5, gb5⟩⟩
set_option maxRecDepth 65536 in
set_option maxHeartbeats 40000000 in
theorem rm_get_1_1_NRN_0 (l : Launch) (Z : State) (a0 : Array Value) (hw : ∀ d ∈ tables_1, d.before a0 Z = true) (ws : List Jvm.Cond) (a5 b5 : Addr) (k5 : ClassId) (u1 : Addr) (q1 : Int64) (h0 : Heap) (n0 : Nat) (O0 : Old Z n0 h0) (hR : Ring Z n0 h0 a5 b5 k5 (1 : Int32) (1 : Int32) q1 [.null, (.ref u1), .null, .null, .null, .null, .null, .null, .null, .null, .null, .null, .null, .null, .null, .null]) (nn : Int64) (hge : ¬ nn < q1) (hd : nn - q1 = (0 : Int64)) :
    Met l my_7 prog_5_method_5_code 4 (some (.object nObject_2)) ws ({ frames := 0, cells := 0, slots := 0, locals := 0 } : Room) #[(.ref a5), (.long nn)] Z h0 (QX (.ref u1) h0 n0) := by
  refine MetFree.of_bodySF (plainFor_of_name pn_2) hisR ?_
  intro p e s m args below meth c s₁ Bd hml0 hP hK
  obtain ⟨rfl, hZ, hh⟩ := hP
  have hx := Bd.exec
  have hby := Bd.bytes
  have hml : c.maxLocals = 4 := hml0
  have hown : s.vm.findClass nConsec_1 = some m.cls := findClass_of_methodNamed Bd.named
  have hnm := (name_of_methodNamed Bd.named Bd.method).1
  have X0 : Stand p l e ({ frames := 0, cells := 0, slots := 0, locals := 0 } : Room) s m #[(.ref a5), (.long nn)] below meth c s₁ [] 0 0 := Stand.of_body Bd
  have e0 : s₁.heap = h0 := by rw [← hh, Bd.state]; rfl
  have N0 := Fr.nil n0
  obtain ⟨f₀, hf₀⟩ : ∃ f, f = entryFrame m #[(.ref a5), (.long nn)] 4 := ⟨_, rfl⟩
  rw [← hf₀]
  have pre0 : Go p e below s₁ f₀ s₁ (mkF m 0 #[.val (.ref a5), .val (.long nn), .second, .unset] []) := fun t kk => castTop (hf₀.trans (ef_rm_get_1_1_NRN_0 m (a5) (nn))) kk
  obtain ⟨E5, F_values, F_size, F_head, F_first, V5, Ov5, g5, gb5⟩ := (id hR)
  have ne5 := Exa.neArv E5 V5 (wq hw 9 rfl)
  obtain ⟨T1, X1, e1, st1⟩ := getF X0 hx hZ hown (host := "") (Or.inl (wq hw 21 rfl)) Via.refl e0 F_first (g := (mkF m 4 #[.val (.ref a5), .val (.long nn), .second, .val .null] [(.ref a5), (.long nn)])) rfl rfl (hb hby d_prog_5_method_5_4)
  obtain ⟨T2, X2, e2, st2⟩ := getF X1 hx hZ hown (host := "") (Or.inl (wq hw 21 rfl)) Via.refl e1 F_first (g := (mkF m 13 #[.val (.ref a5), .val (.long nn), .second, .val .null] [(.ref a5), (.long nn)])) rfl rfl (hb hby d_prog_5_method_5_13)
  obtain ⟨T3, X3, e3, st3⟩ := getF X2 hx hZ hown (host := "") (Or.inl (wq hw 28 rfl)) Via.refl e2 F_size (g := (mkF m 18 #[.val (.ref a5), .val (.long nn), .second, .val .null] [(.ref a5), (.long (nn - q1))])) rfl rfl (hb hby d_prog_5_method_5_18)
  obtain ⟨T4, X4, e4, st4⟩ := getF X3 hx hZ hown (host := "") (Or.inl (wq hw 19 rfl)) Via.refl e3 F_values (g := (mkF m 27 #[.val (.ref a5), .val (.long nn), .second, .val .null] [(.ref a5)])) rfl rfl (hb hby d_prog_5_method_5_27)
  obtain ⟨T5, X5, e5, st5⟩ := getF X4 hx hZ hown (host := "") (Or.inl (wq hw 30 rfl)) Via.refl e4 F_head (g := (mkF m 31 #[.val (.ref a5), .val (.long nn), .second, .val .null] [(.ref a5), (.ref b5)])) rfl rfl (hb hby d_prog_5_method_5_31)
  obtain ⟨T6, X6, e6, st6⟩ := getF X5 hx hZ hown (host := "") (Or.inl (wq hw 21 rfl)) Via.refl e5 F_first (g := (mkF m 38 #[.val (.ref a5), .val (.long nn), .second, .val .null] [(.ref a5), (.long (((1 : Int32).toInt64) + nn)), (.ref b5)])) rfl rfl (hb hby d_prog_5_method_5_38)
  obtain ⟨T7, X7, e7, st7⟩ := getF X6 hx hZ hown (host := "") (Or.inl (wq hw 19 rfl)) Via.refl e6 F_values (g := (mkF m 43 #[.val (.ref a5), .val (.long nn), .second, .val .null] [(.ref a5), (.long ((((1 : Int32).toInt64) + nn) - q1)), (.ref b5)])) rfl rfl (hb hby d_prog_5_method_5_43)
  obtain ⟨c8, Ar8, q8, S8, M8, Hh8, G8⟩ := (id V5)
  have gp9 : Go p e below s₁ f₀ T7 (mkF m 50 #[.val (.ref a5), .val (.long nn), .second, .val .null] [(.int ((((((1 : Int32).toInt64) + nn) - q1) - (((((1 : Int32).toInt64) + nn) - q1) / ((16 : Int32).toInt64)) * ((16 : Int32).toInt64)).toInt32)), (.ref b5)]) := fun t kt => pre0 t (by
    refine XS.aconstNull X0.here hx rfl (hb hby d_prog_5_method_5_0) ?_
    show Steps p.tables e below (s₁.setTop (mkF m 1 #[.val (.ref a5), .val (.long nn), .second, .unset] [.null])) _
    refine XS.astoreN X0.here hx rfl (hb hby d_prog_5_method_5_1) rfl rfl (l' := #[.val (.ref a5), .val (.long nn), .second, .val .null]) rfl ?_
    refine XS.lloadN X0.here hx rfl (hb hby d_prog_5_method_5_2) rfl ?_
    refine XS.aloadN X0.here hx rfl (hb hby d_prog_5_method_5_3) rfl rfl ?_
    refine st1 _ ?_
    refine XS.lcmp X1.here hx rfl (hb hby d_prog_5_method_5_7) rfl ?_
    refine XS.ifNo X1.here hx rfl (hb hby d_prog_5_method_5_8) rfl ((if0 _ _).trans (flt (fun q => hge ((lw_lt _ _).mp q))).1) ?_
    show Steps p.tables e below (T1.setTop (mkF m 11 #[.val (.ref a5), .val (.long nn), .second, .val .null] [])) _
    refine XS.lloadN X1.here hx rfl (hb hby d_prog_5_method_5_11) rfl ?_
    refine XS.aloadN X1.here hx rfl (hb hby d_prog_5_method_5_12) rfl rfl ?_
    refine st2 _ ?_
    refine XS.lsub X2.here hx rfl (hb hby d_prog_5_method_5_16) rfl ?_
    refine XS.aloadN X2.here hx rfl (hb hby d_prog_5_method_5_17) rfl rfl ?_
    refine st3 _ ?_
    show Steps p.tables e below (T3.setTop (mkF m 21 #[.val (.ref a5), .val (.long nn), .second, .val .null] [(.int (1 : Int32)), (.long (nn - q1))])) _
    refine XS.i2l X3.here hx rfl (hb hby d_prog_5_method_5_21) rfl ?_
    refine XS.lcmp X3.here hx rfl (hb hby d_prog_5_method_5_22) rfl ?_
    refine XS.ifNo X3.here hx rfl (hb hby d_prog_5_method_5_23) rfl ((if0 _ _).trans (tlt (by rw [hd]; decide)).2.1) ?_
    refine XS.aloadN X3.here hx rfl (hb hby d_prog_5_method_5_26) rfl rfl ?_
    refine st4 _ ?_
    refine XS.aloadN X4.here hx rfl (hb hby d_prog_5_method_5_30) rfl rfl ?_
    show Steps p.tables e below (T4.setTop (mkF m 31 #[.val (.ref a5), .val (.long nn), .second, .val .null] [(.ref a5), (.ref b5)])) _
    refine st5 _ ?_
    refine XS.i2l X5.here hx rfl (hb hby d_prog_5_method_5_34) rfl ?_
    refine XS.lloadN X5.here hx rfl (hb hby d_prog_5_method_5_35) rfl ?_
    refine XS.ladd X5.here hx rfl (hb hby d_prog_5_method_5_36) rfl ?_
    refine XS.aloadN X5.here hx rfl (hb hby d_prog_5_method_5_37) rfl rfl ?_
    refine st6 _ ?_
    show Steps p.tables e below (T6.setTop (mkF m 41 #[.val (.ref a5), .val (.long nn), .second, .val .null] [(.long q1), (.long (((1 : Int32).toInt64) + nn)), (.ref b5)])) _
    refine XS.lsub X6.here hx rfl (hb hby d_prog_5_method_5_41) rfl ?_
    refine XS.aloadN X6.here hx rfl (hb hby d_prog_5_method_5_42) rfl rfl ?_
    refine st7 _ ?_
    refine X7.arraylength hx (by rw [e7]; exact Ar8.1) (State.isArrayOf_alike hZ.alike Ar8.2.1) (g := (mkF m 46 #[.val (.ref a5), .val (.long nn), .second, .val .null] [(.ref b5), (.long ((((1 : Int32).toInt64) + nn) - q1)), (.ref b5)])) rfl rfl (hb hby d_prog_5_method_5_46) _ ?_
    rw [len_of S8 M8]
    refine XS.i2l X7.here hx rfl (hb hby d_prog_5_method_5_47) rfl ?_
    refine XS.lrem X7.here hx rfl (hb hby d_prog_5_method_5_48) rfl (by decide) ?_
    show Steps p.tables e below (T7.setTop (mkF m 49 #[.val (.ref a5), .val (.long nn), .second, .val .null] [(.long (((((1 : Int32).toInt64) + nn) - q1) - (((((1 : Int32).toInt64) + nn) - q1) / ((16 : Int32).toInt64)) * ((16 : Int32).toInt64))), (.ref b5)])) _
    refine XS.l2i X7.here hx rfl (hb hby d_prog_5_method_5_49) rfl ?_
    exact kt)
  have hix := own_x (((1 : Int32)).toInt64) nn q1 (0 : Int64) (1 : Int64) hd (by decide)
  have hj : ((((((1 : Int32).toInt64) + nn) - q1) - (((((1 : Int32).toInt64) + nn) - q1) / ((16 : Int32).toInt64)) * ((16 : Int32).toInt64)).toInt32) = (1 : Int32) := by rw [hix]; decide
  have gp10 := gp9
  rw [hj] at gp10
  obtain ⟨c11, Ar11, q11, S11, M11, Hh11, G11⟩ := (id V5)
  have hin11 : ¬ ((1 : Int32) < 0 ∨ c11.slots.size ≤ ((1 : Int32)).toNatClampNeg) := inb_of S11 ⟨by decide, by decide⟩
  have hat11 : c11.slots[((1 : Int32)).toNatClampNeg]? = some (.ref u1) := Hh11.at hin11 rfl
  obtain ⟨fs, hr, hrun, hended, hW, hsame⟩ := X7.leave (v := (some (.ref u1))) (fun h => by rw [Bd.returns] at h; cases h)
  refine ⟨_, _, gp10 _ ?_, hrun, hended, _, _, rfl, ?_, ⟨_, rfl⟩, hW, hsame.mono (by decide) (by decide)⟩
  · refine X7.aaload hx (j := (1 : Int32)) (v := (.ref u1)) (by rw [e7]; exact Ar11.1) (State.isArrayOf_alike hZ.alike Ar11.2.1) rfl Ar11.2.2 hin11 hat11 (g := (mkF m 50 #[.val (.ref a5), .val (.long nn), .second, .val .null] [(.int (1 : Int32)), (.ref b5)])) rfl rfl (hb hby d_prog_5_method_5_50) _ ?_
    refine XS.astoreN X7.here hx rfl (hb hby d_prog_5_method_5_51) rfl rfl (l' := #[.val (.ref a5), .val (.long nn), .second, .val (.ref u1)]) rfl ?_
    refine XS.aloadN X7.here hx rfl (hb hby d_prog_5_method_5_52) rfl rfl ?_
    exact retOut X7 hx Bd.returns rfl (Or.inr (Or.inr (Or.inr (Or.inr ⟨rfl, rfl, rfl⟩)))) (hb hby d_prog_5_method_5_53) hr
  · show QX (.ref u1) h0 n0 _ T7.heap _
    rw [e7]
    exact ⟨rfl, N0, rfl⟩
set_option maxRecDepth 65536 in
set_option maxHeartbeats 40000000 in
theorem rm_get_1_1_NRN_lo (l : Launch) (Z : State) (a0 : Array Value) (hw : ∀ d ∈ tables_1, d.before a0 Z = true) (ws : List Jvm.Cond) (a5 b5 : Addr) (k5 : ClassId) (u1 : Addr) (q1 : Int64) (h0 : Heap) (n0 : Nat) (O0 : Old Z n0 h0) (hR : Ring Z n0 h0 a5 b5 k5 (1 : Int32) (1 : Int32) q1 [.null, (.ref u1), .null, .null, .null, .null, .null, .null, .null, .null, .null, .null, .null, .null, .null, .null]) (nn : Int64) (hlo : nn < q1) :
    Met l my_7 prog_5_method_5_code 4 (some (.object nObject_2)) ws ({ frames := 0, cells := 0, slots := 0, locals := 0 } : Room) #[(.ref a5), (.long nn)] Z h0 (QX .null h0 n0) := by
  refine MetFree.of_bodySF (plainFor_of_name pn_2) hisR ?_
  intro p e s m args below meth c s₁ Bd hml0 hP hK
  obtain ⟨rfl, hZ, hh⟩ := hP
  have hx := Bd.exec
  have hby := Bd.bytes
  have hml : c.maxLocals = 4 := hml0
  have hown : s.vm.findClass nConsec_1 = some m.cls := findClass_of_methodNamed Bd.named
  have hnm := (name_of_methodNamed Bd.named Bd.method).1
  have X0 : Stand p l e ({ frames := 0, cells := 0, slots := 0, locals := 0 } : Room) s m #[(.ref a5), (.long nn)] below meth c s₁ [] 0 0 := Stand.of_body Bd
  have e0 : s₁.heap = h0 := by rw [← hh, Bd.state]; rfl
  have N0 := Fr.nil n0
  obtain ⟨f₀, hf₀⟩ : ∃ f, f = entryFrame m #[(.ref a5), (.long nn)] 4 := ⟨_, rfl⟩
  rw [← hf₀]
  have pre0 : Go p e below s₁ f₀ s₁ (mkF m 0 #[.val (.ref a5), .val (.long nn), .second, .unset] []) := fun t kk => castTop (hf₀.trans (ef_rm_get_1_1_NRN_lo m (a5) (nn))) kk
  obtain ⟨E5, F_values, F_size, F_head, F_first, V5, Ov5, g5, gb5⟩ := (id hR)
  have ne5 := Exa.neArv E5 V5 (wq hw 9 rfl)
  obtain ⟨T1, X1, e1, st1⟩ := getF X0 hx hZ hown (host := "") (Or.inl (wq hw 21 rfl)) Via.refl e0 F_first (g := (mkF m 4 #[.val (.ref a5), .val (.long nn), .second, .val .null] [(.ref a5), (.long nn)])) rfl rfl (hb hby d_prog_5_method_5_4)
  obtain ⟨fs, hr, hrun, hended, hW, hsame⟩ := X1.leave (v := (some .null)) (fun h => by rw [Bd.returns] at h; cases h)
  refine ⟨_, _, pre0 _ ?_, hrun, hended, _, _, rfl, ?_, ⟨_, rfl⟩, hW, hsame.mono (by decide) (by decide)⟩
  · refine XS.aconstNull X0.here hx rfl (hb hby d_prog_5_method_5_0) ?_
    refine XS.astoreN X0.here hx rfl (hb hby d_prog_5_method_5_1) rfl rfl (l' := #[.val (.ref a5), .val (.long nn), .second, .val .null]) rfl ?_
    refine XS.lloadN X0.here hx rfl (hb hby d_prog_5_method_5_2) rfl ?_
    refine XS.aloadN X0.here hx rfl (hb hby d_prog_5_method_5_3) rfl rfl ?_
    show Steps p.tables e below (s₁.setTop (mkF m 4 #[.val (.ref a5), .val (.long nn), .second, .val .null] [(.ref a5), (.long nn)])) _
    refine st1 _ ?_
    refine XS.lcmp X1.here hx rfl (hb hby d_prog_5_method_5_7) rfl ?_
    refine XS.ifYes X1.here hx rfl (pc0 := 8) (pc' := 52) rfl (hb hby d_prog_5_method_5_8) rfl ((if0 _ _).trans (tlt ((lw_lt _ _).mpr hlo)).1) (by decide) (by decide) ?_
    refine XS.aloadN X1.here hx rfl (hb hby d_prog_5_method_5_52) rfl rfl ?_
    exact retOut X1 hx Bd.returns rfl (Or.inr (Or.inr (Or.inr (Or.inr ⟨rfl, rfl, rfl⟩)))) (hb hby d_prog_5_method_5_53) hr
  · show QX .null h0 n0 _ T1.heap _
    rw [e1]
    exact ⟨rfl, N0, rfl⟩
set_option maxRecDepth 65536 in
set_option maxHeartbeats 40000000 in
theorem rm_get_1_1_NRN_hi (l : Launch) (Z : State) (a0 : Array Value) (hw : ∀ d ∈ tables_1, d.before a0 Z = true) (ws : List Jvm.Cond) (a5 b5 : Addr) (k5 : ClassId) (u1 : Addr) (q1 : Int64) (h0 : Heap) (n0 : Nat) (O0 : Old Z n0 h0) (hR : Ring Z n0 h0 a5 b5 k5 (1 : Int32) (1 : Int32) q1 [.null, (.ref u1), .null, .null, .null, .null, .null, .null, .null, .null, .null, .null, .null, .null, .null, .null]) (nn : Int64) (hge : ¬ nn < q1) (hd : nn - q1 = (1 : Int64)) :
    Met l my_7 prog_5_method_5_code 4 (some (.object nObject_2)) ws ({ frames := 0, cells := 0, slots := 0, locals := 0 } : Room) #[(.ref a5), (.long nn)] Z h0 (QX .null h0 n0) := by
  refine MetFree.of_bodySF (plainFor_of_name pn_2) hisR ?_
  intro p e s m args below meth c s₁ Bd hml0 hP hK
  obtain ⟨rfl, hZ, hh⟩ := hP
  have hx := Bd.exec
  have hby := Bd.bytes
  have hml : c.maxLocals = 4 := hml0
  have hown : s.vm.findClass nConsec_1 = some m.cls := findClass_of_methodNamed Bd.named
  have hnm := (name_of_methodNamed Bd.named Bd.method).1
  have X0 : Stand p l e ({ frames := 0, cells := 0, slots := 0, locals := 0 } : Room) s m #[(.ref a5), (.long nn)] below meth c s₁ [] 0 0 := Stand.of_body Bd
  have e0 : s₁.heap = h0 := by rw [← hh, Bd.state]; rfl
  have N0 := Fr.nil n0
  obtain ⟨f₀, hf₀⟩ : ∃ f, f = entryFrame m #[(.ref a5), (.long nn)] 4 := ⟨_, rfl⟩
  rw [← hf₀]
  have pre0 : Go p e below s₁ f₀ s₁ (mkF m 0 #[.val (.ref a5), .val (.long nn), .second, .unset] []) := fun t kk => castTop (hf₀.trans (ef_rm_get_1_1_NRN_hi m (a5) (nn))) kk
  obtain ⟨E5, F_values, F_size, F_head, F_first, V5, Ov5, g5, gb5⟩ := (id hR)
  have ne5 := Exa.neArv E5 V5 (wq hw 9 rfl)
  obtain ⟨T1, X1, e1, st1⟩ := getF X0 hx hZ hown (host := "") (Or.inl (wq hw 21 rfl)) Via.refl e0 F_first (g := (mkF m 4 #[.val (.ref a5), .val (.long nn), .second, .val .null] [(.ref a5), (.long nn)])) rfl rfl (hb hby d_prog_5_method_5_4)
  obtain ⟨T2, X2, e2, st2⟩ := getF X1 hx hZ hown (host := "") (Or.inl (wq hw 21 rfl)) Via.refl e1 F_first (g := (mkF m 13 #[.val (.ref a5), .val (.long nn), .second, .val .null] [(.ref a5), (.long nn)])) rfl rfl (hb hby d_prog_5_method_5_13)
  obtain ⟨T3, X3, e3, st3⟩ := getF X2 hx hZ hown (host := "") (Or.inl (wq hw 28 rfl)) Via.refl e2 F_size (g := (mkF m 18 #[.val (.ref a5), .val (.long nn), .second, .val .null] [(.ref a5), (.long (nn - q1))])) rfl rfl (hb hby d_prog_5_method_5_18)
  obtain ⟨fs, hr, hrun, hended, hW, hsame⟩ := X3.leave (v := (some .null)) (fun h => by rw [Bd.returns] at h; cases h)
  refine ⟨_, _, pre0 _ ?_, hrun, hended, _, _, rfl, ?_, ⟨_, rfl⟩, hW, hsame.mono (by decide) (by decide)⟩
  · refine XS.aconstNull X0.here hx rfl (hb hby d_prog_5_method_5_0) ?_
    show Steps p.tables e below (s₁.setTop (mkF m 1 #[.val (.ref a5), .val (.long nn), .second, .unset] [.null])) _
    refine XS.astoreN X0.here hx rfl (hb hby d_prog_5_method_5_1) rfl rfl (l' := #[.val (.ref a5), .val (.long nn), .second, .val .null]) rfl ?_
    refine XS.lloadN X0.here hx rfl (hb hby d_prog_5_method_5_2) rfl ?_
    refine XS.aloadN X0.here hx rfl (hb hby d_prog_5_method_5_3) rfl rfl ?_
    refine st1 _ ?_
    refine XS.lcmp X1.here hx rfl (hb hby d_prog_5_method_5_7) rfl ?_
    refine XS.ifNo X1.here hx rfl (hb hby d_prog_5_method_5_8) rfl ((if0 _ _).trans (flt (fun q => hge ((lw_lt _ _).mp q))).1) ?_
    show Steps p.tables e below (T1.setTop (mkF m 11 #[.val (.ref a5), .val (.long nn), .second, .val .null] [])) _
    refine XS.lloadN X1.here hx rfl (hb hby d_prog_5_method_5_11) rfl ?_
    refine XS.aloadN X1.here hx rfl (hb hby d_prog_5_method_5_12) rfl rfl ?_
    refine st2 _ ?_
    refine XS.lsub X2.here hx rfl (hb hby d_prog_5_method_5_16) rfl ?_
    refine XS.aloadN X2.here hx rfl (hb hby d_prog_5_method_5_17) rfl rfl ?_
    refine st3 _ ?_
    show Steps p.tables e below (T3.setTop (mkF m 21 #[.val (.ref a5), .val (.long nn), .second, .val .null] [(.int (1 : Int32)), (.long (nn - q1))])) _
    refine XS.i2l X3.here hx rfl (hb hby d_prog_5_method_5_21) rfl ?_
    refine XS.lcmp X3.here hx rfl (hb hby d_prog_5_method_5_22) rfl ?_
    refine XS.ifYes X3.here hx rfl (pc0 := 23) (pc' := 52) rfl (hb hby d_prog_5_method_5_23) rfl ((if0 _ _).trans (flt (by rw [hd]; decide)).2.1) (by decide) (by decide) ?_
    refine XS.aloadN X3.here hx rfl (hb hby d_prog_5_method_5_52) rfl rfl ?_
    exact retOut X3 hx Bd.returns rfl (Or.inr (Or.inr (Or.inr (Or.inr ⟨rfl, rfl, rfl⟩)))) (hb hby d_prog_5_method_5_53) hr
  · show QX .null h0 n0 _ T3.heap _
    rw [e3]
    exact ⟨rfl, N0, rfl⟩
set_option maxRecDepth 65536 in
set_option maxHeartbeats 40000000 in
theorem rm_add_2_0_RRN (l : Launch) (Z : State) (a0 : Array Value) (hw : ∀ d ∈ tables_1, d.before a0 Z = true) (ws : List Jvm.Cond) (a5 b5 : Addr) (k5 : ClassId) (u0 : Addr) (u1 : Addr) (q1 : Int64) (h0 : Heap) (n0 : Nat) (O0 : Old Z n0 h0) (hR : Ring Z n0 h0 a5 b5 k5 (2 : Int32) (0 : Int32) q1 [(.ref u0), (.ref u1), .null, .null, .null, .null, .null, .null, .null, .null, .null, .null, .null, .null, .null, .null]) (wv : Addr) (Ew : Exa Z h0 wv nIntege_0) :
    Met l my_6 prog_5_method_7_code 4 none ws ({ frames := 0, cells := 0, slots := 0, locals := 0 } : Room) #[(.ref a5), (.ref wv)] Z h0 (QG Z none a5 b5 k5 (3 : Int32) (0 : Int32) q1 [(.ref u0), (.ref u1), (.ref wv), .null, .null, .null, .null, .null, .null, .null, .null, .null, .null, .null, .null, .null] h0 n0) := by
  refine MetFree.of_bodySF (plainFor_of_name pn_2) hisR ?_
  intro p e s m args below meth c s₁ Bd hml0 hP hK
  obtain ⟨rfl, hZ, hh⟩ := hP
  have hx := Bd.exec
  have hby := Bd.bytes
  have hml : c.maxLocals = 4 := hml0
  have hown : s.vm.findClass nConsec_1 = some m.cls := findClass_of_methodNamed Bd.named
  have hnm := (name_of_methodNamed Bd.named Bd.method).1
  have X0 : Stand p l e ({ frames := 0, cells := 0, slots := 0, locals := 0 } : Room) s m #[(.ref a5), (.ref wv)] below meth c s₁ [] 0 0 := Stand.of_body Bd
  have e0 : s₁.heap = h0 := by rw [← hh, Bd.state]; rfl
  have N0 := Fr.nil n0
  obtain ⟨f₀, hf₀⟩ : ∃ f, f = entryFrame m #[(.ref a5), (.ref wv)] 4 := ⟨_, rfl⟩
  rw [← hf₀]
  have pre0 : Go p e below s₁ f₀ s₁ (mkF m 0 #[.val (.ref a5), .val (.ref wv), .unset, .unset] []) := fun t kk => castTop (hf₀.trans (ef_rm_add_2_0_RRN m (a5) (wv))) kk
  obtain ⟨E5, F_values, F_size, F_head, F_first, V5, Ov5, g5, gb5⟩ := (id hR)
  have ne5 := Exa.neArv E5 V5 (wq hw 9 rfl)
  obtain ⟨T1, X1, e1, st1⟩ := getF X0 hx hZ hown (host := "") (Or.inl (wq hw 28 rfl)) Via.refl e0 F_size (g := (mkF m 1 #[.val (.ref a5), .val (.ref wv), .unset, .unset] [(.ref a5)])) rfl rfl (hb hby d_prog_5_method_7_1)
  obtain ⟨T2, X2, e2, st2⟩ := getF X1 hx hZ hown (host := "") (Or.inl (wq hw 19 rfl)) Via.refl e1 F_values (g := (mkF m 5 #[.val (.ref a5), .val (.ref wv), .unset, .unset] [(.ref a5), (.int (2 : Int32))])) rfl rfl (hb hby d_prog_5_method_7_5)
  obtain ⟨c3, Ar3, q3, S3, M3, Hh3, G3⟩ := (id V5)
  obtain ⟨T4, X4, e4, st4⟩ := getF X2 hx hZ hown (host := "") (Or.inl (wq hw 19 rfl)) Via.refl e2 F_values (g := (mkF m 70 #[.val (.ref a5), .val (.ref wv), .unset, .unset] [(.ref a5)])) rfl rfl (hb hby d_prog_5_method_7_70)
  obtain ⟨T5, X5, e5, st5⟩ := getF X4 hx hZ hown (host := "") (Or.inl (wq hw 30 rfl)) Via.refl e4 F_head (g := (mkF m 74 #[.val (.ref a5), .val (.ref wv), .unset, .unset] [(.ref a5), (.ref b5)])) rfl rfl (hb hby d_prog_5_method_7_74)
  obtain ⟨T6, X6, e6, st6⟩ := getF X5 hx hZ hown (host := "") (Or.inl (wq hw 28 rfl)) Via.refl e5 F_size (g := (mkF m 78 #[.val (.ref a5), .val (.ref wv), .unset, .unset] [(.ref a5), (.int (0 : Int32)), (.ref b5)])) rfl rfl (hb hby d_prog_5_method_7_78)
  obtain ⟨T7, X7, e7, st7⟩ := getF X6 hx hZ hown (host := "") (Or.inl (wq hw 19 rfl)) Via.refl e6 F_values (g := (mkF m 83 #[.val (.ref a5), .val (.ref wv), .unset, .unset] [(.ref a5), (.int (2 : Int32)), (.ref b5)])) rfl rfl (hb hby d_prog_5_method_7_83)
  obtain ⟨c8, Ar8, q8, S8, M8, Hh8, G8⟩ := (id V5)
  obtain ⟨c9, Ar9, q9, S9, M9, Hh9, G9⟩ := (id V5)
  have hin9 : ¬ ((2 : Int32) < 0 ∨ c9.slots.size ≤ ((2 : Int32)).toNatClampNeg) := inb_of S9 ⟨by decide, by decide⟩
  obtain ⟨T10, h10, X10, e10, W10, st10⟩ := stR X7 hx hZ e7 Ar9 (j := (2 : Int32)) hin9 rfl (Sto.ofV Ar9 q9 Ov5 (Ins.of_exa Ew (wq hw 32 rfl))) (g := (mkF m 89 #[.val (.ref a5), .val (.ref wv), .unset, .unset] [(.ref wv), (.int (2 : Int32)), (.ref b5)])) rfl rfl (hb hby d_prog_5_method_7_89)
  have v11 : Arv Z h10 b5 k5 (.object nObject_2) (16 : Int32) [(.ref u0), (.ref u1), (.ref wv), .null, .null, .null, .null, .null, .null, .null, .null, .null, .null, .null, .null, .null] .null := Arv.set Ar9 q9 S9 M9 Hh9 G9 rfl W10 2 rfl (Nat.le_of_ble_eq_true rfl)
  have N10 := Fr.snoc X10 N0 gb5
  have O12 : Old Z n0 h10 := Old.wr O0 W10 gb5
  have K13 : Keep h0 h10 [a5, b5] := (Keep.refl h0 [a5, b5]).wr W10 (Or.inl (List.mem_of_getElem? (i := 1) rfl))
  have t14 : Fld Z h10 a5 nConsec_1 "size" "I" (.int (2 : Int32)) := (F_size.other W10 (Or.inl ne5))
  obtain ⟨T15, X15, e15, st15⟩ := getF X10 hx hZ hown (host := "") (Or.inl (wq hw 28 rfl)) Via.refl e10 t14 (g := (mkF m 92 #[.val (.ref a5), .val (.ref wv), .unset, .unset] [(.ref a5), (.ref a5)])) rfl rfl (hb hby d_prog_5_method_7_92)
  have t16 : Exa Z h10 a5 nConsec_1 := (E5.wr W10)
  obtain ⟨T17, h17, X17, e17, W17, st17⟩ := putF X15 hx hZ hown (host := "") (Or.inl (wq hw 28 rfl)) Via.refl e15 t14 t16 (Or.inl (wq hw 29 rfl)) (wq hw 9 rfl) (ty := .int) (by decide) rfl rfl (g := (mkF m 97 #[.val (.ref a5), .val (.ref wv), .unset, .unset] [(.int (3 : Int32)), (.ref a5)])) rfl rfl (hb hby d_prog_5_method_7_97)
  have f18 : Fld Z h17 a5 nConsec_1 "size" "I" (.int (3 : Int32)) := t14.same W17
  have N17 := Fr.snoc X17 N10 g5
  have O19 : Old Z n0 h17 := Old.wr O12 W17 g5
  have K20 : Keep h0 h17 [a5, b5] := K13.wr W17 (Or.inl (List.mem_of_getElem? (i := 0) rfl))
  have t21 : Exa Z h17 a5 nConsec_1 := (t16.wr W17)
  have t22 : Fld Z h17 a5 nConsec_1 "values" "[Ljava/lang/Object;" (.ref b5) := ((F_values.other W10 (Or.inl ne5)).other W17 (Or.inr (slot_ne (Or.inl (wq hw 20 rfl)) (Or.inl (wq hw 29 rfl)) (by decide) (t := (.array (.object nObject_2))) (t' := .int) (by decide) (by decide))))
  have t23 : Fld Z h17 a5 nConsec_1 "head" "I" (.int (0 : Int32)) := ((F_head.other W10 (Or.inl ne5)).other W17 (Or.inr (slot_ne (Or.inl (wq hw 31 rfl)) (Or.inl (wq hw 29 rfl)) (by decide) (t := .int) (t' := .int) (by decide) (by decide))))
  have t24 : Fld Z h17 a5 nConsec_1 "first" "J" (.long q1) := ((F_first.other W10 (Or.inl ne5)).other W17 (Or.inr (slot_ne (Or.inl (wq hw 22 rfl)) (Or.inl (wq hw 29 rfl)) (by decide) (t := .long) (t' := .int) (by decide) (by decide))))
  have t25 : Arv Z h17 b5 k5 (.object nObject_2) (16 : Int32) [(.ref u0), (.ref u1), (.ref wv), .null, .null, .null, .null, .null, .null, .null, .null, .null, .null, .null, .null, .null] .null := (v11.other W17 (Ne.symm ne5))
  obtain ⟨fs, hr, hrun, hended, hW, hsame⟩ := X17.leave (v := none) (fun _ => rfl)
  refine ⟨_, _, pre0 _ ?_, hrun, hended, _, _, rfl, ?_, ⟨_, rfl⟩, hW, hsame.mono (by decide) (by decide)⟩
  · refine XS.aloadN X0.here hx rfl (hb hby d_prog_5_method_7_0) rfl rfl ?_
    refine st1 _ ?_
    refine XS.aloadN X1.here hx rfl (hb hby d_prog_5_method_7_4) rfl rfl ?_
    refine st2 _ ?_
    refine X2.arraylength hx (by rw [e2]; exact Ar3.1) (State.isArrayOf_alike hZ.alike Ar3.2.1) (g := (mkF m 8 #[.val (.ref a5), .val (.ref wv), .unset, .unset] [(.ref b5), (.int (2 : Int32))])) rfl rfl (hb hby d_prog_5_method_7_8) _ ?_
    rw [len_of S3 M3]
    show Steps p.tables e below (T2.setTop (mkF m 9 #[.val (.ref a5), .val (.ref wv), .unset, .unset] [(.int (16 : Int32)), (.int (2 : Int32))])) _
    refine XS.icmpYes X2.here hx rfl (pc0 := 9) (pc' := 69) rfl (hb hby d_prog_5_method_7_9) rfl (feq (by decide : ¬ ((2 : Int32) = (16 : Int32)))).2 (by decide) (by decide) ?_
    refine XS.aloadN X2.here hx rfl (hb hby d_prog_5_method_7_69) rfl rfl ?_
    refine st4 _ ?_
    refine XS.aloadN X4.here hx rfl (hb hby d_prog_5_method_7_73) rfl rfl ?_
    refine st5 _ ?_
    refine XS.aloadN X5.here hx rfl (hb hby d_prog_5_method_7_77) rfl rfl ?_
    show Steps p.tables e below (T5.setTop (mkF m 78 #[.val (.ref a5), .val (.ref wv), .unset, .unset] [(.ref a5), (.int (0 : Int32)), (.ref b5)])) _
    refine st6 _ ?_
    refine XS.iadd X6.here hx rfl (hb hby d_prog_5_method_7_81) rfl ?_
    show Steps p.tables e below (T6.setTop (mkF m 82 #[.val (.ref a5), .val (.ref wv), .unset, .unset] [(.int (2 : Int32)), (.ref b5)])) _
    refine XS.aloadN X6.here hx rfl (hb hby d_prog_5_method_7_82) rfl rfl ?_
    refine st7 _ ?_
    refine X7.arraylength hx (by rw [e7]; exact Ar8.1) (State.isArrayOf_alike hZ.alike Ar8.2.1) (g := (mkF m 86 #[.val (.ref a5), .val (.ref wv), .unset, .unset] [(.ref b5), (.int (2 : Int32)), (.ref b5)])) rfl rfl (hb hby d_prog_5_method_7_86) _ ?_
    rw [len_of S8 M8]
    refine iremM X7 hx rfl (hb hby d_prog_5_method_7_87) rfl (by decide) ?_
    show Steps p.tables e below (T7.setTop (mkF m 88 #[.val (.ref a5), .val (.ref wv), .unset, .unset] [(.int (2 : Int32)), (.ref b5)])) _
    refine XS.aloadN X7.here hx rfl (hb hby d_prog_5_method_7_88) rfl rfl ?_
    refine st10 _ ?_
    refine XS.aloadN X10.here hx rfl (hb hby d_prog_5_method_7_90) rfl rfl ?_
    refine XS.dup X10.here hx rfl (hb hby d_prog_5_method_7_91) rfl rfl ?_
    refine st15 _ ?_
    refine XS.iconst X15.here hx rfl (hb hby d_prog_5_method_7_95) ?_
    show Steps p.tables e below (T15.setTop (mkF m 96 #[.val (.ref a5), .val (.ref wv), .unset, .unset] [(.int (1 : Int32)), (.int (2 : Int32)), (.ref a5)])) _
    refine XS.iadd X15.here hx rfl (hb hby d_prog_5_method_7_96) rfl ?_
    show Steps p.tables e below (T15.setTop (mkF m 97 #[.val (.ref a5), .val (.ref wv), .unset, .unset] [(.int (3 : Int32)), (.ref a5)])) _
    refine st17 _ ?_
    exact X17.returnOut hx Bd.returns (hb hby d_prog_5_method_7_100) hr
  · show QG Z none a5 b5 k5 (3 : Int32) (0 : Int32) q1 [(.ref u0), (.ref u1), (.ref wv), .null, .null, .null, .null, .null, .null, .null, .null, .null, .null, .null, .null, .null] h0 n0 _ T17.heap _
    rw [e17]
    exact ⟨rfl, N17, K20, ⟨t21, t22, f18, t23, t24, t25, Ov5, g5, gb5⟩⟩
set_option maxRecDepth 65536 in
set_option maxHeartbeats 40000000 in
theorem rm_get_3_0_RRR_2 (l : Launch) (Z : State) (a0 : Array Value) (hw : ∀ d ∈ tables_1, d.before a0 Z = true) (ws : List Jvm.Cond) (a5 b5 : Addr) (k5 : ClassId) (u0 : Addr) (u1 : Addr) (u2 : Addr) (q1 : Int64) (h0 : Heap) (n0 : Nat) (O0 : Old Z n0 h0) (hR : Ring Z n0 h0 a5 b5 k5 (3 : Int32) (0 : Int32) q1 [(.ref u0), (.ref u1), (.ref u2), .null, .null, .null, .null, .null, .null, .null, .null, .null, .null, .null, .null, .null]) (nn : Int64) (hge : ¬ nn < q1) (hd : nn - q1 = (2 : Int64)) :
    Met l my_7 prog_5_method_5_code 4 (some (.object nObject_2)) ws ({ frames := 0, cells := 0, slots := 0, locals := 0 } : Room) #[(.ref a5), (.long nn)] Z h0 (QX (.ref u2) h0 n0) := by
  refine MetFree.of_bodySF (plainFor_of_name pn_2) hisR ?_
  intro p e s m args below meth c s₁ Bd hml0 hP hK
  obtain ⟨rfl, hZ, hh⟩ := hP
  have hx := Bd.exec
  have hby := Bd.bytes
  have hml : c.maxLocals = 4 := hml0
  have hown : s.vm.findClass nConsec_1 = some m.cls := findClass_of_methodNamed Bd.named
  have hnm := (name_of_methodNamed Bd.named Bd.method).1
  have X0 : Stand p l e ({ frames := 0, cells := 0, slots := 0, locals := 0 } : Room) s m #[(.ref a5), (.long nn)] below meth c s₁ [] 0 0 := Stand.of_body Bd
  have e0 : s₁.heap = h0 := by rw [← hh, Bd.state]; rfl
  have N0 := Fr.nil n0
  obtain ⟨f₀, hf₀⟩ : ∃ f, f = entryFrame m #[(.ref a5), (.long nn)] 4 := ⟨_, rfl⟩
  rw [← hf₀]
  have pre0 : Go p e below s₁ f₀ s₁ (mkF m 0 #[.val (.ref a5), .val (.long nn), .second, .unset] []) := fun t kk => castTop (hf₀.trans (ef_rm_get_3_0_RRR_2 m (a5) (nn))) kk
  obtain ⟨E5, F_values, F_size, F_head, F_first, V5, Ov5, g5, gb5⟩ := (id hR)
  have ne5 := Exa.neArv E5 V5 (wq hw 9 rfl)
  obtain ⟨T1, X1, e1, st1⟩ := getF X0 hx hZ hown (host := "") (Or.inl (wq hw 21 rfl)) Via.refl e0 F_first (g := (mkF m 4 #[.val (.ref a5), .val (.long nn), .second, .val .null] [(.ref a5), (.long nn)])) rfl rfl (hb hby d_prog_5_method_5_4)
  obtain ⟨T2, X2, e2, st2⟩ := getF X1 hx hZ hown (host := "") (Or.inl (wq hw 21 rfl)) Via.refl e1 F_first (g := (mkF m 13 #[.val (.ref a5), .val (.long nn), .second, .val .null] [(.ref a5), (.long nn)])) rfl rfl (hb hby d_prog_5_method_5_13)
  obtain ⟨T3, X3, e3, st3⟩ := getF X2 hx hZ hown (host := "") (Or.inl (wq hw 28 rfl)) Via.refl e2 F_size (g := (mkF m 18 #[.val (.ref a5), .val (.long nn), .second, .val .null] [(.ref a5), (.long (nn - q1))])) rfl rfl (hb hby d_prog_5_method_5_18)
  obtain ⟨T4, X4, e4, st4⟩ := getF X3 hx hZ hown (host := "") (Or.inl (wq hw 19 rfl)) Via.refl e3 F_values (g := (mkF m 27 #[.val (.ref a5), .val (.long nn), .second, .val .null] [(.ref a5)])) rfl rfl (hb hby d_prog_5_method_5_27)
  obtain ⟨T5, X5, e5, st5⟩ := getF X4 hx hZ hown (host := "") (Or.inl (wq hw 30 rfl)) Via.refl e4 F_head (g := (mkF m 31 #[.val (.ref a5), .val (.long nn), .second, .val .null] [(.ref a5), (.ref b5)])) rfl rfl (hb hby d_prog_5_method_5_31)
  obtain ⟨T6, X6, e6, st6⟩ := getF X5 hx hZ hown (host := "") (Or.inl (wq hw 21 rfl)) Via.refl e5 F_first (g := (mkF m 38 #[.val (.ref a5), .val (.long nn), .second, .val .null] [(.ref a5), (.long (((0 : Int32).toInt64) + nn)), (.ref b5)])) rfl rfl (hb hby d_prog_5_method_5_38)
  obtain ⟨T7, X7, e7, st7⟩ := getF X6 hx hZ hown (host := "") (Or.inl (wq hw 19 rfl)) Via.refl e6 F_values (g := (mkF m 43 #[.val (.ref a5), .val (.long nn), .second, .val .null] [(.ref a5), (.long ((((0 : Int32).toInt64) + nn) - q1)), (.ref b5)])) rfl rfl (hb hby d_prog_5_method_5_43)
  obtain ⟨c8, Ar8, q8, S8, M8, Hh8, G8⟩ := (id V5)
  have gp9 : Go p e below s₁ f₀ T7 (mkF m 50 #[.val (.ref a5), .val (.long nn), .second, .val .null] [(.int ((((((0 : Int32).toInt64) + nn) - q1) - (((((0 : Int32).toInt64) + nn) - q1) / ((16 : Int32).toInt64)) * ((16 : Int32).toInt64)).toInt32)), (.ref b5)]) := fun t kt => pre0 t (by
    refine XS.aconstNull X0.here hx rfl (hb hby d_prog_5_method_5_0) ?_
    show Steps p.tables e below (s₁.setTop (mkF m 1 #[.val (.ref a5), .val (.long nn), .second, .unset] [.null])) _
    refine XS.astoreN X0.here hx rfl (hb hby d_prog_5_method_5_1) rfl rfl (l' := #[.val (.ref a5), .val (.long nn), .second, .val .null]) rfl ?_
    refine XS.lloadN X0.here hx rfl (hb hby d_prog_5_method_5_2) rfl ?_
    refine XS.aloadN X0.here hx rfl (hb hby d_prog_5_method_5_3) rfl rfl ?_
    refine st1 _ ?_
    refine XS.lcmp X1.here hx rfl (hb hby d_prog_5_method_5_7) rfl ?_
    refine XS.ifNo X1.here hx rfl (hb hby d_prog_5_method_5_8) rfl ((if0 _ _).trans (flt (fun q => hge ((lw_lt _ _).mp q))).1) ?_
    show Steps p.tables e below (T1.setTop (mkF m 11 #[.val (.ref a5), .val (.long nn), .second, .val .null] [])) _
    refine XS.lloadN X1.here hx rfl (hb hby d_prog_5_method_5_11) rfl ?_
    refine XS.aloadN X1.here hx rfl (hb hby d_prog_5_method_5_12) rfl rfl ?_
    refine st2 _ ?_
    refine XS.lsub X2.here hx rfl (hb hby d_prog_5_method_5_16) rfl ?_
    refine XS.aloadN X2.here hx rfl (hb hby d_prog_5_method_5_17) rfl rfl ?_
    refine st3 _ ?_
    show Steps p.tables e below (T3.setTop (mkF m 21 #[.val (.ref a5), .val (.long nn), .second, .val .null] [(.int (3 : Int32)), (.long (nn - q1))])) _
    refine XS.i2l X3.here hx rfl (hb hby d_prog_5_method_5_21) rfl ?_
    refine XS.lcmp X3.here hx rfl (hb hby d_prog_5_method_5_22) rfl ?_
    refine XS.ifNo X3.here hx rfl (hb hby d_prog_5_method_5_23) rfl ((if0 _ _).trans (tlt (by rw [hd]; decide)).2.1) ?_
    refine XS.aloadN X3.here hx rfl (hb hby d_prog_5_method_5_26) rfl rfl ?_
    refine st4 _ ?_
    refine XS.aloadN X4.here hx rfl (hb hby d_prog_5_method_5_30) rfl rfl ?_
    show Steps p.tables e below (T4.setTop (mkF m 31 #[.val (.ref a5), .val (.long nn), .second, .val .null] [(.ref a5), (.ref b5)])) _
    refine st5 _ ?_
    refine XS.i2l X5.here hx rfl (hb hby d_prog_5_method_5_34) rfl ?_
    refine XS.lloadN X5.here hx rfl (hb hby d_prog_5_method_5_35) rfl ?_
    refine XS.ladd X5.here hx rfl (hb hby d_prog_5_method_5_36) rfl ?_
    refine XS.aloadN X5.here hx rfl (hb hby d_prog_5_method_5_37) rfl rfl ?_
    refine st6 _ ?_
    show Steps p.tables e below (T6.setTop (mkF m 41 #[.val (.ref a5), .val (.long nn), .second, .val .null] [(.long q1), (.long (((0 : Int32).toInt64) + nn)), (.ref b5)])) _
    refine XS.lsub X6.here hx rfl (hb hby d_prog_5_method_5_41) rfl ?_
    refine XS.aloadN X6.here hx rfl (hb hby d_prog_5_method_5_42) rfl rfl ?_
    refine st7 _ ?_
    refine X7.arraylength hx (by rw [e7]; exact Ar8.1) (State.isArrayOf_alike hZ.alike Ar8.2.1) (g := (mkF m 46 #[.val (.ref a5), .val (.long nn), .second, .val .null] [(.ref b5), (.long ((((0 : Int32).toInt64) + nn) - q1)), (.ref b5)])) rfl rfl (hb hby d_prog_5_method_5_46) _ ?_
    rw [len_of S8 M8]
    refine XS.i2l X7.here hx rfl (hb hby d_prog_5_method_5_47) rfl ?_
    refine XS.lrem X7.here hx rfl (hb hby d_prog_5_method_5_48) rfl (by decide) ?_
    show Steps p.tables e below (T7.setTop (mkF m 49 #[.val (.ref a5), .val (.long nn), .second, .val .null] [(.long (((((0 : Int32).toInt64) + nn) - q1) - (((((0 : Int32).toInt64) + nn) - q1) / ((16 : Int32).toInt64)) * ((16 : Int32).toInt64))), (.ref b5)])) _
    refine XS.l2i X7.here hx rfl (hb hby d_prog_5_method_5_49) rfl ?_
    exact kt)
  have hix := own_x (((0 : Int32)).toInt64) nn q1 (2 : Int64) (2 : Int64) hd (by decide)
  have hj : ((((((0 : Int32).toInt64) + nn) - q1) - (((((0 : Int32).toInt64) + nn) - q1) / ((16 : Int32).toInt64)) * ((16 : Int32).toInt64)).toInt32) = (2 : Int32) := by rw [hix]; decide
  have gp10 := gp9
  rw [hj] at gp10
  obtain ⟨c11, Ar11, q11, S11, M11, Hh11, G11⟩ := (id V5)
  have hin11 : ¬ ((2 : Int32) < 0 ∨ c11.slots.size ≤ ((2 : Int32)).toNatClampNeg) := inb_of S11 ⟨by decide, by decide⟩
  have hat11 : c11.slots[((2 : Int32)).toNatClampNeg]? = some (.ref u2) := Hh11.at hin11 rfl
  obtain ⟨fs, hr, hrun, hended, hW, hsame⟩ := X7.leave (v := (some (.ref u2))) (fun h => by rw [Bd.returns] at h; cases h)
  refine ⟨_, _, gp10 _ ?_, hrun, hended, _, _, rfl, ?_, ⟨_, rfl⟩, hW, hsame.mono (by decide) (by decide)⟩
  · refine X7.aaload hx (j := (2 : Int32)) (v := (.ref u2)) (by rw [e7]; exact Ar11.1) (State.isArrayOf_alike hZ.alike Ar11.2.1) rfl Ar11.2.2 hin11 hat11 (g := (mkF m 50 #[.val (.ref a5), .val (.long nn), .second, .val .null] [(.int (2 : Int32)), (.ref b5)])) rfl rfl (hb hby d_prog_5_method_5_50) _ ?_
    refine XS.astoreN X7.here hx rfl (hb hby d_prog_5_method_5_51) rfl rfl (l' := #[.val (.ref a5), .val (.long nn), .second, .val (.ref u2)]) rfl ?_
    refine XS.aloadN X7.here hx rfl (hb hby d_prog_5_method_5_52) rfl rfl ?_
    exact retOut X7 hx Bd.returns rfl (Or.inr (Or.inr (Or.inr (Or.inr ⟨rfl, rfl, rfl⟩)))) (hb hby d_prog_5_method_5_53) hr
  · show QX (.ref u2) h0 n0 _ T7.heap _
    rw [e7]
    exact ⟨rfl, N0, rfl⟩
set_option maxRecDepth 65536 in
set_option maxHeartbeats 40000000 in
theorem rm_get_3_0_RRR_1 (l : Launch) (Z : State) (a0 : Array Value) (hw : ∀ d ∈ tables_1, d.before a0 Z = true) (ws : List Jvm.Cond) (a5 b5 : Addr) (k5 : ClassId) (u0 : Addr) (u1 : Addr) (u2 : Addr) (q1 : Int64) (h0 : Heap) (n0 : Nat) (O0 : Old Z n0 h0) (hR : Ring Z n0 h0 a5 b5 k5 (3 : Int32) (0 : Int32) q1 [(.ref u0), (.ref u1), (.ref u2), .null, .null, .null, .null, .null, .null, .null, .null, .null, .null, .null, .null, .null]) (nn : Int64) (hge : ¬ nn < q1) (hd : nn - q1 = (1 : Int64)) :
    Met l my_7 prog_5_method_5_code 4 (some (.object nObject_2)) ws ({ frames := 0, cells := 0, slots := 0, locals := 0 } : Room) #[(.ref a5), (.long nn)] Z h0 (QX (.ref u1) h0 n0) := by
  refine MetFree.of_bodySF (plainFor_of_name pn_2) hisR ?_
  intro p e s m args below meth c s₁ Bd hml0 hP hK
  obtain ⟨rfl, hZ, hh⟩ := hP
  have hx := Bd.exec
  have hby := Bd.bytes
  have hml : c.maxLocals = 4 := hml0
  have hown : s.vm.findClass nConsec_1 = some m.cls := findClass_of_methodNamed Bd.named
  have hnm := (name_of_methodNamed Bd.named Bd.method).1
  have X0 : Stand p l e ({ frames := 0, cells := 0, slots := 0, locals := 0 } : Room) s m #[(.ref a5), (.long nn)] below meth c s₁ [] 0 0 := Stand.of_body Bd
  have e0 : s₁.heap = h0 := by rw [← hh, Bd.state]; rfl
  have N0 := Fr.nil n0
  obtain ⟨f₀, hf₀⟩ : ∃ f, f = entryFrame m #[(.ref a5), (.long nn)] 4 := ⟨_, rfl⟩
  rw [← hf₀]
  have pre0 : Go p e below s₁ f₀ s₁ (mkF m 0 #[.val (.ref a5), .val (.long nn), .second, .unset] []) := fun t kk => castTop (hf₀.trans (ef_rm_get_3_0_RRR_1 m (a5) (nn))) kk
  obtain ⟨E5, F_values, F_size, F_head, F_first, V5, Ov5, g5, gb5⟩ := (id hR)
  have ne5 := Exa.neArv E5 V5 (wq hw 9 rfl)
  obtain ⟨T1, X1, e1, st1⟩ := getF X0 hx hZ hown (host := "") (Or.inl (wq hw 21 rfl)) Via.refl e0 F_first (g := (mkF m 4 #[.val (.ref a5), .val (.long nn), .second, .val .null] [(.ref a5), (.long nn)])) rfl rfl (hb hby d_prog_5_method_5_4)
  obtain ⟨T2, X2, e2, st2⟩ := getF X1 hx hZ hown (host := "") (Or.inl (wq hw 21 rfl)) Via.refl e1 F_first (g := (mkF m 13 #[.val (.ref a5), .val (.long nn), .second, .val .null] [(.ref a5), (.long nn)])) rfl rfl (hb hby d_prog_5_method_5_13)
  obtain ⟨T3, X3, e3, st3⟩ := getF X2 hx hZ hown (host := "") (Or.inl (wq hw 28 rfl)) Via.refl e2 F_size (g := (mkF m 18 #[.val (.ref a5), .val (.long nn), .second, .val .null] [(.ref a5), (.long (nn - q1))])) rfl rfl (hb hby d_prog_5_method_5_18)
  obtain ⟨T4, X4, e4, st4⟩ := getF X3 hx hZ hown (host := "") (Or.inl (wq hw 19 rfl)) Via.refl e3 F_values (g := (mkF m 27 #[.val (.ref a5), .val (.long nn), .second, .val .null] [(.ref a5)])) rfl rfl (hb hby d_prog_5_method_5_27)
  obtain ⟨T5, X5, e5, st5⟩ := getF X4 hx hZ hown (host := "") (Or.inl (wq hw 30 rfl)) Via.refl e4 F_head (g := (mkF m 31 #[.val (.ref a5), .val (.long nn), .second, .val .null] [(.ref a5), (.ref b5)])) rfl rfl (hb hby d_prog_5_method_5_31)
  obtain ⟨T6, X6, e6, st6⟩ := getF X5 hx hZ hown (host := "") (Or.inl (wq hw 21 rfl)) Via.refl e5 F_first (g := (mkF m 38 #[.val (.ref a5), .val (.long nn), .second, .val .null] [(.ref a5), (.long (((0 : Int32).toInt64) + nn)), (.ref b5)])) rfl rfl (hb hby d_prog_5_method_5_38)
  obtain ⟨T7, X7, e7, st7⟩ := getF X6 hx hZ hown (host := "") (Or.inl (wq hw 19 rfl)) Via.refl e6 F_values (g := (mkF m 43 #[.val (.ref a5), .val (.long nn), .second, .val .null] [(.ref a5), (.long ((((0 : Int32).toInt64) + nn) - q1)), (.ref b5)])) rfl rfl (hb hby d_prog_5_method_5_43)
  obtain ⟨c8, Ar8, q8, S8, M8, Hh8, G8⟩ := (id V5)
  have gp9 : Go p e below s₁ f₀ T7 (mkF m 50 #[.val (.ref a5), .val (.long nn), .second, .val .null] [(.int ((((((0 : Int32).toInt64) + nn) - q1) - (((((0 : Int32).toInt64) + nn) - q1) / ((16 : Int32).toInt64)) * ((16 : Int32).toInt64)).toInt32)), (.ref b5)]) := fun t kt => pre0 t (by
    refine XS.aconstNull X0.here hx rfl (hb hby d_prog_5_method_5_0) ?_
    show Steps p.tables e below (s₁.setTop (mkF m 1 #[.val (.ref a5), .val (.long nn), .second, .unset] [.null])) _
    refine XS.astoreN X0.here hx rfl (hb hby d_prog_5_method_5_1) rfl rfl (l' := #[.val (.ref a5), .val (.long nn), .second, .val .null]) rfl ?_
    refine XS.lloadN X0.here hx rfl (hb hby d_prog_5_method_5_2) rfl ?_
    refine XS.aloadN X0.here hx rfl (hb hby d_prog_5_method_5_3) rfl rfl ?_
    refine st1 _ ?_
    refine XS.lcmp X1.here hx rfl (hb hby d_prog_5_method_5_7) rfl ?_
    refine XS.ifNo X1.here hx rfl (hb hby d_prog_5_method_5_8) rfl ((if0 _ _).trans (flt (fun q => hge ((lw_lt _ _).mp q))).1) ?_
    show Steps p.tables e below (T1.setTop (mkF m 11 #[.val (.ref a5), .val (.long nn), .second, .val .null] [])) _
    refine XS.lloadN X1.here hx rfl (hb hby d_prog_5_method_5_11) rfl ?_
    refine XS.aloadN X1.here hx rfl (hb hby d_prog_5_method_5_12) rfl rfl ?_
    refine st2 _ ?_
    refine XS.lsub X2.here hx rfl (hb hby d_prog_5_method_5_16) rfl ?_
    refine XS.aloadN X2.here hx rfl (hb hby d_prog_5_method_5_17) rfl rfl ?_
    refine st3 _ ?_
    show Steps p.tables e below (T3.setTop (mkF m 21 #[.val (.ref a5), .val (.long nn), .second, .val .null] [(.int (3 : Int32)), (.long (nn - q1))])) _
    refine XS.i2l X3.here hx rfl (hb hby d_prog_5_method_5_21) rfl ?_
    refine XS.lcmp X3.here hx rfl (hb hby d_prog_5_method_5_22) rfl ?_
    refine XS.ifNo X3.here hx rfl (hb hby d_prog_5_method_5_23) rfl ((if0 _ _).trans (tlt (by rw [hd]; decide)).2.1) ?_
    refine XS.aloadN X3.here hx rfl (hb hby d_prog_5_method_5_26) rfl rfl ?_
    refine st4 _ ?_
    refine XS.aloadN X4.here hx rfl (hb hby d_prog_5_method_5_30) rfl rfl ?_
    show Steps p.tables e below (T4.setTop (mkF m 31 #[.val (.ref a5), .val (.long nn), .second, .val .null] [(.ref a5), (.ref b5)])) _
    refine st5 _ ?_
    refine XS.i2l X5.here hx rfl (hb hby d_prog_5_method_5_34) rfl ?_
    refine XS.lloadN X5.here hx rfl (hb hby d_prog_5_method_5_35) rfl ?_
    refine XS.ladd X5.here hx rfl (hb hby d_prog_5_method_5_36) rfl ?_
    refine XS.aloadN X5.here hx rfl (hb hby d_prog_5_method_5_37) rfl rfl ?_
    refine st6 _ ?_
    show Steps p.tables e below (T6.setTop (mkF m 41 #[.val (.ref a5), .val (.long nn), .second, .val .null] [(.long q1), (.long (((0 : Int32).toInt64) + nn)), (.ref b5)])) _
    refine XS.lsub X6.here hx rfl (hb hby d_prog_5_method_5_41) rfl ?_
    refine XS.aloadN X6.here hx rfl (hb hby d_prog_5_method_5_42) rfl rfl ?_
    refine st7 _ ?_
    refine X7.arraylength hx (by rw [e7]; exact Ar8.1) (State.isArrayOf_alike hZ.alike Ar8.2.1) (g := (mkF m 46 #[.val (.ref a5), .val (.long nn), .second, .val .null] [(.ref b5), (.long ((((0 : Int32).toInt64) + nn) - q1)), (.ref b5)])) rfl rfl (hb hby d_prog_5_method_5_46) _ ?_
    rw [len_of S8 M8]
    refine XS.i2l X7.here hx rfl (hb hby d_prog_5_method_5_47) rfl ?_
    refine XS.lrem X7.here hx rfl (hb hby d_prog_5_method_5_48) rfl (by decide) ?_
    show Steps p.tables e below (T7.setTop (mkF m 49 #[.val (.ref a5), .val (.long nn), .second, .val .null] [(.long (((((0 : Int32).toInt64) + nn) - q1) - (((((0 : Int32).toInt64) + nn) - q1) / ((16 : Int32).toInt64)) * ((16 : Int32).toInt64))), (.ref b5)])) _
    refine XS.l2i X7.here hx rfl (hb hby d_prog_5_method_5_49) rfl ?_
    exact kt)
  have hix := own_x (((0 : Int32)).toInt64) nn q1 (1 : Int64) (1 : Int64) hd (by decide)
  have hj : ((((((0 : Int32).toInt64) + nn) - q1) - (((((0 : Int32).toInt64) + nn) - q1) / ((16 : Int32).toInt64)) * ((16 : Int32).toInt64)).toInt32) = (1 : Int32) := by rw [hix]; decide
  have gp10 := gp9
  rw [hj] at gp10
  obtain ⟨c11, Ar11, q11, S11, M11, Hh11, G11⟩ := (id V5)
  have hin11 : ¬ ((1 : Int32) < 0 ∨ c11.slots.size ≤ ((1 : Int32)).toNatClampNeg) := inb_of S11 ⟨by decide, by decide⟩
  have hat11 : c11.slots[((1 : Int32)).toNatClampNeg]? = some (.ref u1) := Hh11.at hin11 rfl
  obtain ⟨fs, hr, hrun, hended, hW, hsame⟩ := X7.leave (v := (some (.ref u1))) (fun h => by rw [Bd.returns] at h; cases h)
  refine ⟨_, _, gp10 _ ?_, hrun, hended, _, _, rfl, ?_, ⟨_, rfl⟩, hW, hsame.mono (by decide) (by decide)⟩
  · refine X7.aaload hx (j := (1 : Int32)) (v := (.ref u1)) (by rw [e7]; exact Ar11.1) (State.isArrayOf_alike hZ.alike Ar11.2.1) rfl Ar11.2.2 hin11 hat11 (g := (mkF m 50 #[.val (.ref a5), .val (.long nn), .second, .val .null] [(.int (1 : Int32)), (.ref b5)])) rfl rfl (hb hby d_prog_5_method_5_50) _ ?_
    refine XS.astoreN X7.here hx rfl (hb hby d_prog_5_method_5_51) rfl rfl (l' := #[.val (.ref a5), .val (.long nn), .second, .val (.ref u1)]) rfl ?_
    refine XS.aloadN X7.here hx rfl (hb hby d_prog_5_method_5_52) rfl rfl ?_
    exact retOut X7 hx Bd.returns rfl (Or.inr (Or.inr (Or.inr (Or.inr ⟨rfl, rfl, rfl⟩)))) (hb hby d_prog_5_method_5_53) hr
  · show QX (.ref u1) h0 n0 _ T7.heap _
    rw [e7]
    exact ⟨rfl, N0, rfl⟩
set_option maxRecDepth 65536 in
set_option maxHeartbeats 40000000 in
theorem rm_get_3_0_RRR_hi (l : Launch) (Z : State) (a0 : Array Value) (hw : ∀ d ∈ tables_1, d.before a0 Z = true) (ws : List Jvm.Cond) (a5 b5 : Addr) (k5 : ClassId) (u0 : Addr) (u1 : Addr) (u2 : Addr) (q1 : Int64) (h0 : Heap) (n0 : Nat) (O0 : Old Z n0 h0) (hR : Ring Z n0 h0 a5 b5 k5 (3 : Int32) (0 : Int32) q1 [(.ref u0), (.ref u1), (.ref u2), .null, .null, .null, .null, .null, .null, .null, .null, .null, .null, .null, .null, .null]) (nn : Int64) (hge : ¬ nn < q1) (hd : nn - q1 = (3 : Int64)) :
    Met l my_7 prog_5_method_5_code 4 (some (.object nObject_2)) ws ({ frames := 0, cells := 0, slots := 0, locals := 0 } : Room) #[(.ref a5), (.long nn)] Z h0 (QX .null h0 n0) := by
  refine MetFree.of_bodySF (plainFor_of_name pn_2) hisR ?_
  intro p e s m args below meth c s₁ Bd hml0 hP hK
  obtain ⟨rfl, hZ, hh⟩ := hP
  have hx := Bd.exec
  have hby := Bd.bytes
  have hml : c.maxLocals = 4 := hml0
  have hown : s.vm.findClass nConsec_1 = some m.cls := findClass_of_methodNamed Bd.named
  have hnm := (name_of_methodNamed Bd.named Bd.method).1
  have X0 : Stand p l e ({ frames := 0, cells := 0, slots := 0, locals := 0 } : Room) s m #[(.ref a5), (.long nn)] below meth c s₁ [] 0 0 := Stand.of_body Bd
  have e0 : s₁.heap = h0 := by rw [← hh, Bd.state]; rfl
  have N0 := Fr.nil n0
  obtain ⟨f₀, hf₀⟩ : ∃ f, f = entryFrame m #[(.ref a5), (.long nn)] 4 := ⟨_, rfl⟩
  rw [← hf₀]
  have pre0 : Go p e below s₁ f₀ s₁ (mkF m 0 #[.val (.ref a5), .val (.long nn), .second, .unset] []) := fun t kk => castTop (hf₀.trans (ef_rm_get_3_0_RRR_hi m (a5) (nn))) kk
  obtain ⟨E5, F_values, F_size, F_head, F_first, V5, Ov5, g5, gb5⟩ := (id hR)
  have ne5 := Exa.neArv E5 V5 (wq hw 9 rfl)
  obtain ⟨T1, X1, e1, st1⟩ := getF X0 hx hZ hown (host := "") (Or.inl (wq hw 21 rfl)) Via.refl e0 F_first (g := (mkF m 4 #[.val (.ref a5), .val (.long nn), .second, .val .null] [(.ref a5), (.long nn)])) rfl rfl (hb hby d_prog_5_method_5_4)
  obtain ⟨T2, X2, e2, st2⟩ := getF X1 hx hZ hown (host := "") (Or.inl (wq hw 21 rfl)) Via.refl e1 F_first (g := (mkF m 13 #[.val (.ref a5), .val (.long nn), .second, .val .null] [(.ref a5), (.long nn)])) rfl rfl (hb hby d_prog_5_method_5_13)
  obtain ⟨T3, X3, e3, st3⟩ := getF X2 hx hZ hown (host := "") (Or.inl (wq hw 28 rfl)) Via.refl e2 F_size (g := (mkF m 18 #[.val (.ref a5), .val (.long nn), .second, .val .null] [(.ref a5), (.long (nn - q1))])) rfl rfl (hb hby d_prog_5_method_5_18)
  obtain ⟨fs, hr, hrun, hended, hW, hsame⟩ := X3.leave (v := (some .null)) (fun h => by rw [Bd.returns] at h; cases h)
  refine ⟨_, _, pre0 _ ?_, hrun, hended, _, _, rfl, ?_, ⟨_, rfl⟩, hW, hsame.mono (by decide) (by decide)⟩
  · refine XS.aconstNull X0.here hx rfl (hb hby d_prog_5_method_5_0) ?_
    show Steps p.tables e below (s₁.setTop (mkF m 1 #[.val (.ref a5), .val (.long nn), .second, .unset] [.null])) _
    refine XS.astoreN X0.here hx rfl (hb hby d_prog_5_method_5_1) rfl rfl (l' := #[.val (.ref a5), .val (.long nn), .second, .val .null]) rfl ?_
    refine XS.lloadN X0.here hx rfl (hb hby d_prog_5_method_5_2) rfl ?_
    refine XS.aloadN X0.here hx rfl (hb hby d_prog_5_method_5_3) rfl rfl ?_
    refine st1 _ ?_
    refine XS.lcmp X1.here hx rfl (hb hby d_prog_5_method_5_7) rfl ?_
    refine XS.ifNo X1.here hx rfl (hb hby d_prog_5_method_5_8) rfl ((if0 _ _).trans (flt (fun q => hge ((lw_lt _ _).mp q))).1) ?_
    show Steps p.tables e below (T1.setTop (mkF m 11 #[.val (.ref a5), .val (.long nn), .second, .val .null] [])) _
    refine XS.lloadN X1.here hx rfl (hb hby d_prog_5_method_5_11) rfl ?_
    refine XS.aloadN X1.here hx rfl (hb hby d_prog_5_method_5_12) rfl rfl ?_
    refine st2 _ ?_
    refine XS.lsub X2.here hx rfl (hb hby d_prog_5_method_5_16) rfl ?_
    refine XS.aloadN X2.here hx rfl (hb hby d_prog_5_method_5_17) rfl rfl ?_
    refine st3 _ ?_
    show Steps p.tables e below (T3.setTop (mkF m 21 #[.val (.ref a5), .val (.long nn), .second, .val .null] [(.int (3 : Int32)), (.long (nn - q1))])) _
    refine XS.i2l X3.here hx rfl (hb hby d_prog_5_method_5_21) rfl ?_
    refine XS.lcmp X3.here hx rfl (hb hby d_prog_5_method_5_22) rfl ?_
    refine XS.ifYes X3.here hx rfl (pc0 := 23) (pc' := 52) rfl (hb hby d_prog_5_method_5_23) rfl ((if0 _ _).trans (flt (by rw [hd]; decide)).2.1) (by decide) (by decide) ?_
    refine XS.aloadN X3.here hx rfl (hb hby d_prog_5_method_5_52) rfl rfl ?_
    exact retOut X3 hx Bd.returns rfl (Or.inr (Or.inr (Or.inr (Or.inr ⟨rfl, rfl, rfl⟩)))) (hb hby d_prog_5_method_5_53) hr
  · show QX .null h0 n0 _ T3.heap _
    rw [e3]
    exact ⟨rfl, N0, rfl⟩
set_option maxRecDepth 65536 in
set_option maxHeartbeats 40000000 in
theorem rm_fst_2_0_RRN (l : Launch) (Z : State) (a0 : Array Value) (hw : ∀ d ∈ tables_1, d.before a0 Z = true) (ws : List Jvm.Cond) (a5 b5 : Addr) (k5 : ClassId) (u0 : Addr) (u1 : Addr) (q1 : Int64) (h0 : Heap) (n0 : Nat) (O0 : Old Z n0 h0) (hR : Ring Z n0 h0 a5 b5 k5 (2 : Int32) (0 : Int32) q1 [(.ref u0), (.ref u1), .null, .null, .null, .null, .null, .null, .null, .null, .null, .null, .null, .null, .null, .null]) :
    Met l my_8 prog_5_method_6_code 1 (some (.object nObject_2)) ws ({ frames := 1, cells := 0, slots := 0, locals := 15 } : Room) #[(.ref a5)] Z h0 (QX (.ref u0) h0 n0) := by
  refine MetFree.of_bodySF (plainFor_of_name pn_2) hisR ?_
  intro p e s m args below meth c s₁ Bd hml0 hP hK
  obtain ⟨rfl, hZ, hh⟩ := hP
  have hx := Bd.exec
  have hby := Bd.bytes
  have hml : c.maxLocals = 1 := hml0
  have hown : s.vm.findClass nConsec_1 = some m.cls := findClass_of_methodNamed Bd.named
  have hnm := (name_of_methodNamed Bd.named Bd.method).1
  have X0 : Stand p l e ({ frames := 1, cells := 0, slots := 0, locals := 15 } : Room) s m #[(.ref a5)] below meth c s₁ [] 0 0 := Stand.of_body Bd
  have e0 : s₁.heap = h0 := by rw [← hh, Bd.state]; rfl
  have N0 := Fr.nil n0
  obtain ⟨f₀, hf₀⟩ : ∃ f, f = entryFrame m #[(.ref a5)] 1 := ⟨_, rfl⟩
  rw [← hf₀]
  have pre0 : Go p e below s₁ f₀ s₁ (mkF m 0 #[.val (.ref a5)] []) := fun t kk => castTop (hf₀.trans (ef_rm_fst_2_0_RRN m (a5))) kk
  obtain ⟨E5, F_values, F_size, F_head, F_first, V5, Ov5, g5, gb5⟩ := (id hR)
  have ne5 := Exa.neArv E5 V5 (wq hw 9 rfl)
  obtain ⟨T1, X1, e1, st1⟩ := getF X0 hx hZ hown (host := "") (Or.inl (wq hw 28 rfl)) Via.refl e0 F_size (g := (mkF m 1 #[.val (.ref a5)] [(.ref a5)])) rfl rfl (hb hby d_prog_5_method_6_1)
  obtain ⟨T2, X2, e2, st2⟩ := getF X1 hx hZ hown (host := "") (Or.inl (wq hw 21 rfl)) Via.refl e1 F_first (g := (mkF m 19 #[.val (.ref a5)] [(.ref a5), (.ref a5)])) rfl rfl (hb hby d_prog_5_method_6_19)
  obtain ⟨cq3, kq3, q3a, q3b, q3c⟩ := isOf hZ e2 (E5)
  obtain ⟨_, _, ⟨T3, L3, k3, n3⟩, -, X3, ⟨Lc3, hQ3, l3, y3, z3⟩, st3⟩ := X2.virtualBack hx (y := my_7) (z := my_7) hown (mvT hZ (wq hw 43 rfl)) (mvT hZ (wq hw 44 rfl)) (notFace_of_selects (args := #[]) (mvT hZ (wq hw 46 rfl))) (mvT hZ (wq hw 46 rfl)) (mvT hZ (wq hw 45 rfl)) (by decide) (backOf (W := 0) (rm_get_2_0_RRN_0 l Z a0 hw [] a5 b5 k5 u0 u1 q1 h0 n0 O0 hR q1 (fun q => absurd q Int64.lt_irrefl) (Int64.sub_self _)) hZ (wq hw 47 rfl) (wq hw 10 rfl) (by decide) (by decide)) q3a q3c (g := (mkF m 22 #[.val (.ref a5)] [(.long q1), (.ref a5)])) rfl (by rw [hml]; rfl) (Steps.refl _) (argsL := [(.long q1)]) (rest := []) (lenOf pd_7 rfl) rfl (by show 2 * 0 + _ ≤ _; exact Nat.le_of_eq rfl) (hb hby d_prog_5_method_6_22) (fun _ _ => ⟨rfl, e2, (by decide : 0 + 0 ≤ _), (by decide : 0 + 0 ≤ _)⟩)
  dsimp only [Pt.U, Pt.locs, Pt.cells, Pt.slots] at X3 l3 y3 z3 st3 hQ3
  have X3 := own_to X3 l3 y3 z3
  obtain ⟨rfl, N3q, e3⟩ := hQ3
  have N3 := Fr.app N0 N3q
  obtain ⟨fs, hr, hrun, hended, hW, hsame⟩ := X3.leave (v := (some (.ref u0))) (fun h => by rw [Bd.returns] at h; cases h)
  refine ⟨_, _, pre0 _ ?_, hrun, hended, _, _, rfl, ?_, ⟨_, rfl⟩, hW, hsame.mono (by decide) (by decide)⟩
  · refine XS.aloadN X0.here hx rfl (hb hby d_prog_5_method_6_0) rfl rfl ?_
    refine st1 _ ?_
    refine XS.ifYes X1.here hx rfl (pc0 := 4) (pc' := 17) rfl (hb hby d_prog_5_method_6_4) rfl ((if0 _ _).trans (feq (by decide : ¬ ((2 : Int32) = (0 : Int32)))).2) (by decide) (by decide) ?_
    refine XS.aloadN X1.here hx rfl (hb hby d_prog_5_method_6_17) rfl rfl ?_
    refine XS.aloadN X1.here hx rfl (hb hby d_prog_5_method_6_18) rfl rfl ?_
    show Steps p.tables e below (T1.setTop (mkF m 19 #[.val (.ref a5)] [(.ref a5), (.ref a5)])) _
    refine st2 _ ?_
    refine st3.trans ?_
    exact retOut X3 hx Bd.returns rfl (Or.inr (Or.inr (Or.inr (Or.inr ⟨rfl, rfl, rfl⟩)))) (hb hby d_prog_5_method_6_25) hr
  · show QX (.ref u0) h0 n0 _ T3.heap _
    rw [e3]
    exact ⟨rfl, N3, rfl⟩
set_option maxRecDepth 65536 in
set_option maxHeartbeats 40000000 in
theorem rm_rem_2_0_RRN (l : Launch) (Z : State) (a0 : Array Value) (hw : ∀ d ∈ tables_1, d.before a0 Z = true) (ws : List Jvm.Cond) (a5 b5 : Addr) (k5 : ClassId) (u0 : Addr) (u1 : Addr) (q1 : Int64) (h0 : Heap) (n0 : Nat) (O0 : Old Z n0 h0) (hR : Ring Z n0 h0 a5 b5 k5 (2 : Int32) (0 : Int32) q1 [(.ref u0), (.ref u1), .null, .null, .null, .null, .null, .null, .null, .null, .null, .null, .null, .null, .null, .null]) :
    Met l my_9 prog_5_method_8_code 2 (some (.object nObject_2)) ws ({ frames := 2, cells := 0, slots := 0, locals := 27 } : Room) #[(.ref a5)] Z h0 (QG Z (some (.ref u0)) a5 b5 k5 (1 : Int32) (1 : Int32) (q1 + (1 : Int64)) [.null, (.ref u1), .null, .null, .null, .null, .null, .null, .null, .null, .null, .null, .null, .null, .null, .null] h0 n0) := by
  refine MetFree.of_bodySF (plainFor_of_name pn_2) hisR ?_
  intro p e s m args below meth c s₁ Bd hml0 hP hK
  obtain ⟨rfl, hZ, hh⟩ := hP
  have hx := Bd.exec
  have hby := Bd.bytes
  have hml : c.maxLocals = 2 := hml0
  have hown : s.vm.findClass nConsec_1 = some m.cls := findClass_of_methodNamed Bd.named
  have hnm := (name_of_methodNamed Bd.named Bd.method).1
  have X0 : Stand p l e ({ frames := 2, cells := 0, slots := 0, locals := 27 } : Room) s m #[(.ref a5)] below meth c s₁ [] 0 0 := Stand.of_body Bd
  have e0 : s₁.heap = h0 := by rw [← hh, Bd.state]; rfl
  have N0 := Fr.nil n0
  obtain ⟨f₀, hf₀⟩ : ∃ f, f = entryFrame m #[(.ref a5)] 2 := ⟨_, rfl⟩
  rw [← hf₀]
  have pre0 : Go p e below s₁ f₀ s₁ (mkF m 0 #[.val (.ref a5), .unset] []) := fun t kk => castTop (hf₀.trans (ef_rm_rem_2_0_RRN m (a5))) kk
  obtain ⟨E5, F_values, F_size, F_head, F_first, V5, Ov5, g5, gb5⟩ := (id hR)
  have ne5 := Exa.neArv E5 V5 (wq hw 9 rfl)
  obtain ⟨cq1, kq1, q1a, q1b, q1c⟩ := isOf hZ e0 (E5)
  obtain ⟨_, _, ⟨T1, L1, k1, n1⟩, -, X1, ⟨Lc1, hQ1, l1, y1, z1⟩, st1⟩ := X0.virtualBack hx (y := my_8) (z := my_8) hown (mvT hZ (wq hw 38 rfl)) (mvT hZ (wq hw 39 rfl)) (notFace_of_selects (args := #[]) (mvT hZ (wq hw 41 rfl))) (mvT hZ (wq hw 41 rfl)) (mvT hZ (wq hw 40 rfl)) (by decide) (backOf (W := 0) (rm_fst_2_0_RRN l Z a0 hw [] a5 b5 k5 u0 u1 q1 h0 n0 O0 hR) hZ (wq hw 42 rfl) (wq hw 10 rfl) (by decide) (by decide)) q1a q1c (g := (mkF m 1 #[.val (.ref a5), .unset] [(.ref a5)])) rfl (by rw [hml]; rfl) (Steps.refl _) (argsL := []) (rest := []) (lenOf pd_8 rfl) rfl (by show 2 * 0 + _ ≤ _; exact Nat.le_of_eq rfl) (hb hby d_prog_5_method_8_1) (fun _ _ => ⟨rfl, e0, (by decide : 0 + 0 ≤ _), (by decide : 0 + 0 ≤ _)⟩)
  dsimp only [Pt.U, Pt.locs, Pt.cells, Pt.slots] at X1 l1 y1 z1 st1 hQ1
  have X1 := own_to X1 l1 y1 z1
  obtain ⟨rfl, N1q, e1⟩ := hQ1
  have N1 := Fr.app N0 N1q
  obtain ⟨T2, X2, e2, st2⟩ := getF X1 hx hZ hown (host := "") (Or.inl (wq hw 19 rfl)) Via.refl e1 F_values (g := (mkF m 6 #[.val (.ref a5), .val (.ref u0)] [(.ref a5)])) rfl rfl (hb hby d_prog_5_method_8_6)
  obtain ⟨T3, X3, e3, st3⟩ := getF X2 hx hZ hown (host := "") (Or.inl (wq hw 30 rfl)) Via.refl e2 F_head (g := (mkF m 10 #[.val (.ref a5), .val (.ref u0)] [(.ref a5), (.ref b5)])) rfl rfl (hb hby d_prog_5_method_8_10)
  obtain ⟨c4, Ar4, q4, S4, M4, Hh4, G4⟩ := (id V5)
  have hin4 : ¬ ((0 : Int32) < 0 ∨ c4.slots.size ≤ ((0 : Int32)).toNatClampNeg) := inb_of S4 ⟨by decide, by decide⟩
  obtain ⟨T5, h5, X5, e5, W5, st5⟩ := stR X3 hx hZ e3 Ar4 (j := (0 : Int32)) hin4 rfl (Or.inl rfl) (g := (mkF m 14 #[.val (.ref a5), .val (.ref u0)] [.null, (.int (0 : Int32)), (.ref b5)])) rfl rfl (hb hby d_prog_5_method_8_14)
  have v6 : Arv Z h5 b5 k5 (.object nObject_2) (16 : Int32) [.null, (.ref u1), .null, .null, .null, .null, .null, .null, .null, .null, .null, .null, .null, .null, .null, .null] .null := Arv.set Ar4 q4 S4 M4 Hh4 G4 rfl W5 0 rfl (Nat.le_of_ble_eq_true rfl)
  have N5 := Fr.snoc X5 N1 gb5
  have O7 : Old Z n0 h5 := Old.wr O0 W5 gb5
  have K8 : Keep h0 h5 [a5, b5] := (Keep.refl h0 [a5, b5]).wr W5 (Or.inl (List.mem_of_getElem? (i := 1) rfl))
  have t9 : Fld Z h5 a5 nConsec_1 "head" "I" (.int (0 : Int32)) := (F_head.other W5 (Or.inl ne5))
  obtain ⟨T10, X10, e10, st10⟩ := getF X5 hx hZ hown (host := "") (Or.inl (wq hw 30 rfl)) Via.refl e5 t9 (g := (mkF m 17 #[.val (.ref a5), .val (.ref u0)] [(.ref a5), (.ref a5)])) rfl rfl (hb hby d_prog_5_method_8_17)
  have t11 : Fld Z h5 a5 nConsec_1 "values" "[Ljava/lang/Object;" (.ref b5) := (F_values.other W5 (Or.inl ne5))
  obtain ⟨T12, X12, e12, st12⟩ := getF X10 hx hZ hown (host := "") (Or.inl (wq hw 19 rfl)) Via.refl e10 t11 (g := (mkF m 23 #[.val (.ref a5), .val (.ref u0)] [(.ref a5), (.int (1 : Int32)), (.ref a5)])) rfl rfl (hb hby d_prog_5_method_8_23)
  obtain ⟨c13, Ar13, q13, S13, M13, Hh13, G13⟩ := (id v6)
  have t14 : Exa Z h5 a5 nConsec_1 := (E5.wr W5)
  obtain ⟨T15, h15, X15, e15, W15, st15⟩ := putF X12 hx hZ hown (host := "") (Or.inl (wq hw 30 rfl)) Via.refl e12 t9 t14 (Or.inl (wq hw 31 rfl)) (wq hw 9 rfl) (ty := .int) (by decide) rfl rfl (g := (mkF m 28 #[.val (.ref a5), .val (.ref u0)] [(.int (1 : Int32)), (.ref a5)])) rfl rfl (hb hby d_prog_5_method_8_28)
  have f16 : Fld Z h15 a5 nConsec_1 "head" "I" (.int (1 : Int32)) := t9.same W15
  have N15 := Fr.snoc X15 N5 g5
  have O17 : Old Z n0 h15 := Old.wr O7 W15 g5
  have K18 : Keep h0 h15 [a5, b5] := K8.wr W15 (Or.inl (List.mem_of_getElem? (i := 0) rfl))
  have t19 : Fld Z h15 a5 nConsec_1 "size" "I" (.int (2 : Int32)) := ((F_size.other W5 (Or.inl ne5)).other W15 (Or.inr (slot_ne (Or.inl (wq hw 29 rfl)) (Or.inl (wq hw 31 rfl)) (by decide) (t := .int) (t' := .int) (by decide) (by decide))))
  obtain ⟨T20, X20, e20, st20⟩ := getF X15 hx hZ hown (host := "") (Or.inl (wq hw 28 rfl)) Via.refl e15 t19 (g := (mkF m 33 #[.val (.ref a5), .val (.ref u0)] [(.ref a5), (.ref a5)])) rfl rfl (hb hby d_prog_5_method_8_33)
  have t21 : Exa Z h15 a5 nConsec_1 := (t14.wr W15)
  obtain ⟨T22, h22, X22, e22, W22, st22⟩ := putF X20 hx hZ hown (host := "") (Or.inl (wq hw 28 rfl)) Via.refl e20 t19 t21 (Or.inl (wq hw 29 rfl)) (wq hw 9 rfl) (ty := .int) (by decide) rfl rfl (g := (mkF m 38 #[.val (.ref a5), .val (.ref u0)] [(.int (1 : Int32)), (.ref a5)])) rfl rfl (hb hby d_prog_5_method_8_38)
  have f23 : Fld Z h22 a5 nConsec_1 "size" "I" (.int (1 : Int32)) := t19.same W22
  have N22 := Fr.snoc X22 N15 g5
  have O24 : Old Z n0 h22 := Old.wr O17 W22 g5
  have K25 : Keep h0 h22 [a5, b5] := K18.wr W22 (Or.inl (List.mem_of_getElem? (i := 0) rfl))
  have t26 : Fld Z h22 a5 nConsec_1 "first" "J" (.long q1) := (((F_first.other W5 (Or.inl ne5)).other W15 (Or.inr (slot_ne (Or.inl (wq hw 22 rfl)) (Or.inl (wq hw 31 rfl)) (by decide) (t := .long) (t' := .int) (by decide) (by decide)))).other W22 (Or.inr (slot_ne (Or.inl (wq hw 22 rfl)) (Or.inl (wq hw 29 rfl)) (by decide) (t := .long) (t' := .int) (by decide) (by decide))))
  obtain ⟨T27, X27, e27, st27⟩ := getF X22 hx hZ hown (host := "") (Or.inl (wq hw 21 rfl)) Via.refl e22 t26 (g := (mkF m 43 #[.val (.ref a5), .val (.ref u0)] [(.ref a5), (.ref a5)])) rfl rfl (hb hby d_prog_5_method_8_43)
  have t28 : Exa Z h22 a5 nConsec_1 := (t21.wr W22)
  obtain ⟨T29, h29, X29, e29, W29, st29⟩ := putF X27 hx hZ hown (host := "") (Or.inl (wq hw 21 rfl)) Via.refl e27 t26 t28 (Or.inl (wq hw 22 rfl)) (wq hw 9 rfl) (ty := .long) (by decide) rfl rfl (g := (mkF m 48 #[.val (.ref a5), .val (.ref u0)] [(.long (q1 + (1 : Int64))), (.ref a5)])) rfl rfl (hb hby d_prog_5_method_8_48)
  have f30 : Fld Z h29 a5 nConsec_1 "first" "J" (.long (q1 + (1 : Int64))) := t26.same W29
  have N29 := Fr.snoc X29 N22 g5
  have O31 : Old Z n0 h29 := Old.wr O24 W29 g5
  have K32 : Keep h0 h29 [a5, b5] := K25.wr W29 (Or.inl (List.mem_of_getElem? (i := 0) rfl))
  have t33 : Exa Z h29 a5 nConsec_1 := (t28.wr W29)
  have t34 : Fld Z h29 a5 nConsec_1 "values" "[Ljava/lang/Object;" (.ref b5) := (((t11.other W15 (Or.inr (slot_ne (Or.inl (wq hw 20 rfl)) (Or.inl (wq hw 31 rfl)) (by decide) (t := (.array (.object nObject_2))) (t' := .int) (by decide) (by decide)))).other W22 (Or.inr (slot_ne (Or.inl (wq hw 20 rfl)) (Or.inl (wq hw 29 rfl)) (by decide) (t := (.array (.object nObject_2))) (t' := .int) (by decide) (by decide)))).other W29 (Or.inr (slot_ne (Or.inl (wq hw 20 rfl)) (Or.inl (wq hw 22 rfl)) (by decide) (t := (.array (.object nObject_2))) (t' := .long) (by decide) (by decide))))
  have t35 : Fld Z h29 a5 nConsec_1 "size" "I" (.int (1 : Int32)) := (f23.other W29 (Or.inr (slot_ne (Or.inl (wq hw 29 rfl)) (Or.inl (wq hw 22 rfl)) (by decide) (t := .int) (t' := .long) (by decide) (by decide))))
  have t36 : Fld Z h29 a5 nConsec_1 "head" "I" (.int (1 : Int32)) := ((f16.other W22 (Or.inr (slot_ne (Or.inl (wq hw 31 rfl)) (Or.inl (wq hw 29 rfl)) (by decide) (t := .int) (t' := .int) (by decide) (by decide)))).other W29 (Or.inr (slot_ne (Or.inl (wq hw 31 rfl)) (Or.inl (wq hw 22 rfl)) (by decide) (t := .int) (t' := .long) (by decide) (by decide))))
  have t37 : Arv Z h29 b5 k5 (.object nObject_2) (16 : Int32) [.null, (.ref u1), .null, .null, .null, .null, .null, .null, .null, .null, .null, .null, .null, .null, .null, .null] .null := (((v6.other W15 (Ne.symm ne5)).other W22 (Ne.symm ne5)).other W29 (Ne.symm ne5))
  obtain ⟨fs, hr, hrun, hended, hW, hsame⟩ := X29.leave (v := (some (.ref u0))) (fun h => by rw [Bd.returns] at h; cases h)
  refine ⟨_, _, pre0 _ ?_, hrun, hended, _, _, rfl, ?_, ⟨_, rfl⟩, hW, hsame.mono (by decide) (by decide)⟩
  · refine XS.aloadN X0.here hx rfl (hb hby d_prog_5_method_8_0) rfl rfl ?_
    refine st1.trans ?_
    refine XS.astoreN X1.here hx rfl (hb hby d_prog_5_method_8_4) rfl rfl (l' := #[.val (.ref a5), .val (.ref u0)]) rfl ?_
    refine XS.aloadN X1.here hx rfl (hb hby d_prog_5_method_8_5) rfl rfl ?_
    show Steps p.tables e below (T1.setTop (mkF m 6 #[.val (.ref a5), .val (.ref u0)] [(.ref a5)])) _
    refine st2 _ ?_
    refine XS.aloadN X2.here hx rfl (hb hby d_prog_5_method_8_9) rfl rfl ?_
    refine st3 _ ?_
    refine XS.aconstNull X3.here hx rfl (hb hby d_prog_5_method_8_13) ?_
    refine st5 _ ?_
    refine XS.aloadN X5.here hx rfl (hb hby d_prog_5_method_8_15) rfl rfl ?_
    show Steps p.tables e below (T5.setTop (mkF m 16 #[.val (.ref a5), .val (.ref u0)] [(.ref a5)])) _
    refine XS.aloadN X5.here hx rfl (hb hby d_prog_5_method_8_16) rfl rfl ?_
    refine st10 _ ?_
    refine XS.iconst X10.here hx rfl (hb hby d_prog_5_method_8_20) ?_
    refine XS.iadd X10.here hx rfl (hb hby d_prog_5_method_8_21) rfl ?_
    show Steps p.tables e below (T10.setTop (mkF m 22 #[.val (.ref a5), .val (.ref u0)] [(.int (1 : Int32)), (.ref a5)])) _
    refine XS.aloadN X10.here hx rfl (hb hby d_prog_5_method_8_22) rfl rfl ?_
    refine st12 _ ?_
    show Steps p.tables e below (T12.setTop (mkF m 26 #[.val (.ref a5), .val (.ref u0)] [(.ref b5), (.int (1 : Int32)), (.ref a5)])) _
    refine X12.arraylength hx (by rw [e12]; exact Ar13.1) (State.isArrayOf_alike hZ.alike Ar13.2.1) (g := (mkF m 26 #[.val (.ref a5), .val (.ref u0)] [(.ref b5), (.int (1 : Int32)), (.ref a5)])) rfl rfl (hb hby d_prog_5_method_8_26) _ ?_
    rw [len_of S13 M13]
    refine iremM X12 hx rfl (hb hby d_prog_5_method_8_27) rfl (by decide) ?_
    show Steps p.tables e below (T12.setTop (mkF m 28 #[.val (.ref a5), .val (.ref u0)] [(.int (1 : Int32)), (.ref a5)])) _
    refine st15 _ ?_
    refine XS.aloadN X15.here hx rfl (hb hby d_prog_5_method_8_31) rfl rfl ?_
    refine XS.dup X15.here hx rfl (hb hby d_prog_5_method_8_32) rfl rfl ?_
    refine st20 _ ?_
    show Steps p.tables e below (T20.setTop (mkF m 36 #[.val (.ref a5), .val (.ref u0)] [(.int (2 : Int32)), (.ref a5)])) _
    refine XS.iconst X20.here hx rfl (hb hby d_prog_5_method_8_36) ?_
    refine XS.isub X20.here hx rfl (hb hby d_prog_5_method_8_37) rfl ?_
    show Steps p.tables e below (T20.setTop (mkF m 38 #[.val (.ref a5), .val (.ref u0)] [(.int (1 : Int32)), (.ref a5)])) _
    refine st22 _ ?_
    refine XS.aloadN X22.here hx rfl (hb hby d_prog_5_method_8_41) rfl rfl ?_
    refine XS.dup X22.here hx rfl (hb hby d_prog_5_method_8_42) rfl rfl ?_
    refine st27 _ ?_
    show Steps p.tables e below (T27.setTop (mkF m 46 #[.val (.ref a5), .val (.ref u0)] [(.long q1), (.ref a5)])) _
    refine XS.lconst X27.here hx rfl (hb hby d_prog_5_method_8_46) ?_
    refine XS.ladd X27.here hx rfl (hb hby d_prog_5_method_8_47) rfl ?_
    refine st29 _ ?_
    refine XS.aloadN X29.here hx rfl (hb hby d_prog_5_method_8_51) rfl rfl ?_
    exact retOut X29 hx Bd.returns rfl (Or.inr (Or.inr (Or.inr (Or.inr ⟨rfl, rfl, rfl⟩)))) (hb hby d_prog_5_method_8_52) hr
  · show QG Z (some (.ref u0)) a5 b5 k5 (1 : Int32) (1 : Int32) (q1 + (1 : Int64)) [.null, (.ref u1), .null, .null, .null, .null, .null, .null, .null, .null, .null, .null, .null, .null, .null, .null] h0 n0 _ T29.heap _
    rw [e29]
    exact ⟨rfl, N29, K32, ⟨t33, t34, t35, t36, f30, t37, Ov5, g5, gb5⟩⟩
set_option maxRecDepth 65536 in
set_option maxHeartbeats 40000000 in
theorem rm_add_1_1_NRN (l : Launch) (Z : State) (a0 : Array Value) (hw : ∀ d ∈ tables_1, d.before a0 Z = true) (ws : List Jvm.Cond) (a5 b5 : Addr) (k5 : ClassId) (u1 : Addr) (q1 : Int64) (h0 : Heap) (n0 : Nat) (O0 : Old Z n0 h0) (hR : Ring Z n0 h0 a5 b5 k5 (1 : Int32) (1 : Int32) q1 [.null, (.ref u1), .null, .null, .null, .null, .null, .null, .null, .null, .null, .null, .null, .null, .null, .null]) (wv : Addr) (Ew : Exa Z h0 wv nIntege_0) :
    Met l my_6 prog_5_method_7_code 4 none ws ({ frames := 0, cells := 0, slots := 0, locals := 0 } : Room) #[(.ref a5), (.ref wv)] Z h0 (QG Z none a5 b5 k5 (2 : Int32) (1 : Int32) q1 [.null, (.ref u1), (.ref wv), .null, .null, .null, .null, .null, .null, .null, .null, .null, .null, .null, .null, .null] h0 n0) := by
  refine MetFree.of_bodySF (plainFor_of_name pn_2) hisR ?_
  intro p e s m args below meth c s₁ Bd hml0 hP hK
  obtain ⟨rfl, hZ, hh⟩ := hP
  have hx := Bd.exec
  have hby := Bd.bytes
  have hml : c.maxLocals = 4 := hml0
  have hown : s.vm.findClass nConsec_1 = some m.cls := findClass_of_methodNamed Bd.named
  have hnm := (name_of_methodNamed Bd.named Bd.method).1
  have X0 : Stand p l e ({ frames := 0, cells := 0, slots := 0, locals := 0 } : Room) s m #[(.ref a5), (.ref wv)] below meth c s₁ [] 0 0 := Stand.of_body Bd
  have e0 : s₁.heap = h0 := by rw [← hh, Bd.state]; rfl
  have N0 := Fr.nil n0
  obtain ⟨f₀, hf₀⟩ : ∃ f, f = entryFrame m #[(.ref a5), (.ref wv)] 4 := ⟨_, rfl⟩
  rw [← hf₀]
  have pre0 : Go p e below s₁ f₀ s₁ (mkF m 0 #[.val (.ref a5), .val (.ref wv), .unset, .unset] []) := fun t kk => castTop (hf₀.trans (ef_rm_add_1_1_NRN m (a5) (wv))) kk
  obtain ⟨E5, F_values, F_size, F_head, F_first, V5, Ov5, g5, gb5⟩ := (id hR)
  have ne5 := Exa.neArv E5 V5 (wq hw 9 rfl)
  obtain ⟨T1, X1, e1, st1⟩ := getF X0 hx hZ hown (host := "") (Or.inl (wq hw 28 rfl)) Via.refl e0 F_size (g := (mkF m 1 #[.val (.ref a5), .val (.ref wv), .unset, .unset] [(.ref a5)])) rfl rfl (hb hby d_prog_5_method_7_1)
  obtain ⟨T2, X2, e2, st2⟩ := getF X1 hx hZ hown (host := "") (Or.inl (wq hw 19 rfl)) Via.refl e1 F_values (g := (mkF m 5 #[.val (.ref a5), .val (.ref wv), .unset, .unset] [(.ref a5), (.int (1 : Int32))])) rfl rfl (hb hby d_prog_5_method_7_5)
  obtain ⟨c3, Ar3, q3, S3, M3, Hh3, G3⟩ := (id V5)
  obtain ⟨T4, X4, e4, st4⟩ := getF X2 hx hZ hown (host := "") (Or.inl (wq hw 19 rfl)) Via.refl e2 F_values (g := (mkF m 70 #[.val (.ref a5), .val (.ref wv), .unset, .unset] [(.ref a5)])) rfl rfl (hb hby d_prog_5_method_7_70)
  obtain ⟨T5, X5, e5, st5⟩ := getF X4 hx hZ hown (host := "") (Or.inl (wq hw 30 rfl)) Via.refl e4 F_head (g := (mkF m 74 #[.val (.ref a5), .val (.ref wv), .unset, .unset] [(.ref a5), (.ref b5)])) rfl rfl (hb hby d_prog_5_method_7_74)
  obtain ⟨T6, X6, e6, st6⟩ := getF X5 hx hZ hown (host := "") (Or.inl (wq hw 28 rfl)) Via.refl e5 F_size (g := (mkF m 78 #[.val (.ref a5), .val (.ref wv), .unset, .unset] [(.ref a5), (.int (1 : Int32)), (.ref b5)])) rfl rfl (hb hby d_prog_5_method_7_78)
  obtain ⟨T7, X7, e7, st7⟩ := getF X6 hx hZ hown (host := "") (Or.inl (wq hw 19 rfl)) Via.refl e6 F_values (g := (mkF m 83 #[.val (.ref a5), .val (.ref wv), .unset, .unset] [(.ref a5), (.int (2 : Int32)), (.ref b5)])) rfl rfl (hb hby d_prog_5_method_7_83)
  obtain ⟨c8, Ar8, q8, S8, M8, Hh8, G8⟩ := (id V5)
  obtain ⟨c9, Ar9, q9, S9, M9, Hh9, G9⟩ := (id V5)
  have hin9 : ¬ ((2 : Int32) < 0 ∨ c9.slots.size ≤ ((2 : Int32)).toNatClampNeg) := inb_of S9 ⟨by decide, by decide⟩
  obtain ⟨T10, h10, X10, e10, W10, st10⟩ := stR X7 hx hZ e7 Ar9 (j := (2 : Int32)) hin9 rfl (Sto.ofV Ar9 q9 Ov5 (Ins.of_exa Ew (wq hw 32 rfl))) (g := (mkF m 89 #[.val (.ref a5), .val (.ref wv), .unset, .unset] [(.ref wv), (.int (2 : Int32)), (.ref b5)])) rfl rfl (hb hby d_prog_5_method_7_89)
  have v11 : Arv Z h10 b5 k5 (.object nObject_2) (16 : Int32) [.null, (.ref u1), (.ref wv), .null, .null, .null, .null, .null, .null, .null, .null, .null, .null, .null, .null, .null] .null := Arv.set Ar9 q9 S9 M9 Hh9 G9 rfl W10 2 rfl (Nat.le_of_ble_eq_true rfl)
  have N10 := Fr.snoc X10 N0 gb5
  have O12 : Old Z n0 h10 := Old.wr O0 W10 gb5
  have K13 : Keep h0 h10 [a5, b5] := (Keep.refl h0 [a5, b5]).wr W10 (Or.inl (List.mem_of_getElem? (i := 1) rfl))
  have t14 : Fld Z h10 a5 nConsec_1 "size" "I" (.int (1 : Int32)) := (F_size.other W10 (Or.inl ne5))
  obtain ⟨T15, X15, e15, st15⟩ := getF X10 hx hZ hown (host := "") (Or.inl (wq hw 28 rfl)) Via.refl e10 t14 (g := (mkF m 92 #[.val (.ref a5), .val (.ref wv), .unset, .unset] [(.ref a5), (.ref a5)])) rfl rfl (hb hby d_prog_5_method_7_92)
  have t16 : Exa Z h10 a5 nConsec_1 := (E5.wr W10)
  obtain ⟨T17, h17, X17, e17, W17, st17⟩ := putF X15 hx hZ hown (host := "") (Or.inl (wq hw 28 rfl)) Via.refl e15 t14 t16 (Or.inl (wq hw 29 rfl)) (wq hw 9 rfl) (ty := .int) (by decide) rfl rfl (g := (mkF m 97 #[.val (.ref a5), .val (.ref wv), .unset, .unset] [(.int (2 : Int32)), (.ref a5)])) rfl rfl (hb hby d_prog_5_method_7_97)
  have f18 : Fld Z h17 a5 nConsec_1 "size" "I" (.int (2 : Int32)) := t14.same W17
  have N17 := Fr.snoc X17 N10 g5
  have O19 : Old Z n0 h17 := Old.wr O12 W17 g5
  have K20 : Keep h0 h17 [a5, b5] := K13.wr W17 (Or.inl (List.mem_of_getElem? (i := 0) rfl))
  have t21 : Exa Z h17 a5 nConsec_1 := (t16.wr W17)
  have t22 : Fld Z h17 a5 nConsec_1 "values" "[Ljava/lang/Object;" (.ref b5) := ((F_values.other W10 (Or.inl ne5)).other W17 (Or.inr (slot_ne (Or.inl (wq hw 20 rfl)) (Or.inl (wq hw 29 rfl)) (by decide) (t := (.array (.object nObject_2))) (t' := .int) (by decide) (by decide))))
  have t23 : Fld Z h17 a5 nConsec_1 "head" "I" (.int (1 : Int32)) := ((F_head.other W10 (Or.inl ne5)).other W17 (Or.inr (slot_ne (Or.inl (wq hw 31 rfl)) (Or.inl (wq hw 29 rfl)) (by decide) (t := .int) (t' := .int) (by decide) (by decide))))
  have t24 : Fld Z h17 a5 nConsec_1 "first" "J" (.long q1) := ((F_first.other W10 (Or.inl ne5)).other W17 (Or.inr (slot_ne (Or.inl (wq hw 22 rfl)) (Or.inl (wq hw 29 rfl)) (by decide) (t := .long) (t' := .int) (by decide) (by decide))))
  have t25 : Arv Z h17 b5 k5 (.object nObject_2) (16 : Int32) [.null, (.ref u1), (.ref wv), .null, .null, .null, .null, .null, .null, .null, .null, .null, .null, .null, .null, .null] .null := (v11.other W17 (Ne.symm ne5))
  obtain ⟨fs, hr, hrun, hended, hW, hsame⟩ := X17.leave (v := none) (fun _ => rfl)
  refine ⟨_, _, pre0 _ ?_, hrun, hended, _, _, rfl, ?_, ⟨_, rfl⟩, hW, hsame.mono (by decide) (by decide)⟩
  · refine XS.aloadN X0.here hx rfl (hb hby d_prog_5_method_7_0) rfl rfl ?_
    refine st1 _ ?_
    refine XS.aloadN X1.here hx rfl (hb hby d_prog_5_method_7_4) rfl rfl ?_
    refine st2 _ ?_
    refine X2.arraylength hx (by rw [e2]; exact Ar3.1) (State.isArrayOf_alike hZ.alike Ar3.2.1) (g := (mkF m 8 #[.val (.ref a5), .val (.ref wv), .unset, .unset] [(.ref b5), (.int (1 : Int32))])) rfl rfl (hb hby d_prog_5_method_7_8) _ ?_
    rw [len_of S3 M3]
    show Steps p.tables e below (T2.setTop (mkF m 9 #[.val (.ref a5), .val (.ref wv), .unset, .unset] [(.int (16 : Int32)), (.int (1 : Int32))])) _
    refine XS.icmpYes X2.here hx rfl (pc0 := 9) (pc' := 69) rfl (hb hby d_prog_5_method_7_9) rfl (feq (by decide : ¬ ((1 : Int32) = (16 : Int32)))).2 (by decide) (by decide) ?_
    refine XS.aloadN X2.here hx rfl (hb hby d_prog_5_method_7_69) rfl rfl ?_
    refine st4 _ ?_
    refine XS.aloadN X4.here hx rfl (hb hby d_prog_5_method_7_73) rfl rfl ?_
    refine st5 _ ?_
    refine XS.aloadN X5.here hx rfl (hb hby d_prog_5_method_7_77) rfl rfl ?_
    show Steps p.tables e below (T5.setTop (mkF m 78 #[.val (.ref a5), .val (.ref wv), .unset, .unset] [(.ref a5), (.int (1 : Int32)), (.ref b5)])) _
    refine st6 _ ?_
    refine XS.iadd X6.here hx rfl (hb hby d_prog_5_method_7_81) rfl ?_
    show Steps p.tables e below (T6.setTop (mkF m 82 #[.val (.ref a5), .val (.ref wv), .unset, .unset] [(.int (2 : Int32)), (.ref b5)])) _
    refine XS.aloadN X6.here hx rfl (hb hby d_prog_5_method_7_82) rfl rfl ?_
    refine st7 _ ?_
    refine X7.arraylength hx (by rw [e7]; exact Ar8.1) (State.isArrayOf_alike hZ.alike Ar8.2.1) (g := (mkF m 86 #[.val (.ref a5), .val (.ref wv), .unset, .unset] [(.ref b5), (.int (2 : Int32)), (.ref b5)])) rfl rfl (hb hby d_prog_5_method_7_86) _ ?_
    rw [len_of S8 M8]
    refine iremM X7 hx rfl (hb hby d_prog_5_method_7_87) rfl (by decide) ?_
    show Steps p.tables e below (T7.setTop (mkF m 88 #[.val (.ref a5), .val (.ref wv), .unset, .unset] [(.int (2 : Int32)), (.ref b5)])) _
    refine XS.aloadN X7.here hx rfl (hb hby d_prog_5_method_7_88) rfl rfl ?_
    refine st10 _ ?_
    refine XS.aloadN X10.here hx rfl (hb hby d_prog_5_method_7_90) rfl rfl ?_
    refine XS.dup X10.here hx rfl (hb hby d_prog_5_method_7_91) rfl rfl ?_
    refine st15 _ ?_
    refine XS.iconst X15.here hx rfl (hb hby d_prog_5_method_7_95) ?_
    show Steps p.tables e below (T15.setTop (mkF m 96 #[.val (.ref a5), .val (.ref wv), .unset, .unset] [(.int (1 : Int32)), (.int (1 : Int32)), (.ref a5)])) _
    refine XS.iadd X15.here hx rfl (hb hby d_prog_5_method_7_96) rfl ?_
    show Steps p.tables e below (T15.setTop (mkF m 97 #[.val (.ref a5), .val (.ref wv), .unset, .unset] [(.int (2 : Int32)), (.ref a5)])) _
    refine st17 _ ?_
    exact X17.returnOut hx Bd.returns (hb hby d_prog_5_method_7_100) hr
  · show QG Z none a5 b5 k5 (2 : Int32) (1 : Int32) q1 [.null, (.ref u1), (.ref wv), .null, .null, .null, .null, .null, .null, .null, .null, .null, .null, .null, .null, .null] h0 n0 _ T17.heap _
    rw [e17]
    exact ⟨rfl, N17, K20, ⟨t21, t22, f18, t23, t24, t25, Ov5, g5, gb5⟩⟩
set_option maxRecDepth 65536 in
set_option maxHeartbeats 40000000 in
theorem rm_get_2_1_NRR_1 (l : Launch) (Z : State) (a0 : Array Value) (hw : ∀ d ∈ tables_1, d.before a0 Z = true) (ws : List Jvm.Cond) (a5 b5 : Addr) (k5 : ClassId) (u1 : Addr) (u2 : Addr) (q1 : Int64) (h0 : Heap) (n0 : Nat) (O0 : Old Z n0 h0) (hR : Ring Z n0 h0 a5 b5 k5 (2 : Int32) (1 : Int32) q1 [.null, (.ref u1), (.ref u2), .null, .null, .null, .null, .null, .null, .null, .null, .null, .null, .null, .null, .null]) (nn : Int64) (hge : ¬ nn < q1) (hd : nn - q1 = (1 : Int64)) :
    Met l my_7 prog_5_method_5_code 4 (some (.object nObject_2)) ws ({ frames := 0, cells := 0, slots := 0, locals := 0 } : Room) #[(.ref a5), (.long nn)] Z h0 (QX (.ref u2) h0 n0) := by
  refine MetFree.of_bodySF (plainFor_of_name pn_2) hisR ?_
  intro p e s m args below meth c s₁ Bd hml0 hP hK
  obtain ⟨rfl, hZ, hh⟩ := hP
  have hx := Bd.exec
  have hby := Bd.bytes
  have hml : c.maxLocals = 4 := hml0
  have hown : s.vm.findClass nConsec_1 = some m.cls := findClass_of_methodNamed Bd.named
  have hnm := (name_of_methodNamed Bd.named Bd.method).1
  have X0 : Stand p l e ({ frames := 0, cells := 0, slots := 0, locals := 0 } : Room) s m #[(.ref a5), (.long nn)] below meth c s₁ [] 0 0 := Stand.of_body Bd
  have e0 : s₁.heap = h0 := by rw [← hh, Bd.state]; rfl
  have N0 := Fr.nil n0
  obtain ⟨f₀, hf₀⟩ : ∃ f, f = entryFrame m #[(.ref a5), (.long nn)] 4 := ⟨_, rfl⟩
  rw [← hf₀]
  have pre0 : Go p e below s₁ f₀ s₁ (mkF m 0 #[.val (.ref a5), .val (.long nn), .second, .unset] []) := fun t kk => castTop (hf₀.trans (ef_rm_get_2_1_NRR_1 m (a5) (nn))) kk
  obtain ⟨E5, F_values, F_size, F_head, F_first, V5, Ov5, g5, gb5⟩ := (id hR)
  have ne5 := Exa.neArv E5 V5 (wq hw 9 rfl)
  obtain ⟨T1, X1, e1, st1⟩ := getF X0 hx hZ hown (host := "") (Or.inl (wq hw 21 rfl)) Via.refl e0 F_first (g := (mkF m 4 #[.val (.ref a5), .val (.long nn), .second, .val .null] [(.ref a5), (.long nn)])) rfl rfl (hb hby d_prog_5_method_5_4)
  obtain ⟨T2, X2, e2, st2⟩ := getF X1 hx hZ hown (host := "") (Or.inl (wq hw 21 rfl)) Via.refl e1 F_first (g := (mkF m 13 #[.val (.ref a5), .val (.long nn), .second, .val .null] [(.ref a5), (.long nn)])) rfl rfl (hb hby d_prog_5_method_5_13)
  obtain ⟨T3, X3, e3, st3⟩ := getF X2 hx hZ hown (host := "") (Or.inl (wq hw 28 rfl)) Via.refl e2 F_size (g := (mkF m 18 #[.val (.ref a5), .val (.long nn), .second, .val .null] [(.ref a5), (.long (nn - q1))])) rfl rfl (hb hby d_prog_5_method_5_18)
  obtain ⟨T4, X4, e4, st4⟩ := getF X3 hx hZ hown (host := "") (Or.inl (wq hw 19 rfl)) Via.refl e3 F_values (g := (mkF m 27 #[.val (.ref a5), .val (.long nn), .second, .val .null] [(.ref a5)])) rfl rfl (hb hby d_prog_5_method_5_27)
  obtain ⟨T5, X5, e5, st5⟩ := getF X4 hx hZ hown (host := "") (Or.inl (wq hw 30 rfl)) Via.refl e4 F_head (g := (mkF m 31 #[.val (.ref a5), .val (.long nn), .second, .val .null] [(.ref a5), (.ref b5)])) rfl rfl (hb hby d_prog_5_method_5_31)
  obtain ⟨T6, X6, e6, st6⟩ := getF X5 hx hZ hown (host := "") (Or.inl (wq hw 21 rfl)) Via.refl e5 F_first (g := (mkF m 38 #[.val (.ref a5), .val (.long nn), .second, .val .null] [(.ref a5), (.long (((1 : Int32).toInt64) + nn)), (.ref b5)])) rfl rfl (hb hby d_prog_5_method_5_38)
  obtain ⟨T7, X7, e7, st7⟩ := getF X6 hx hZ hown (host := "") (Or.inl (wq hw 19 rfl)) Via.refl e6 F_values (g := (mkF m 43 #[.val (.ref a5), .val (.long nn), .second, .val .null] [(.ref a5), (.long ((((1 : Int32).toInt64) + nn) - q1)), (.ref b5)])) rfl rfl (hb hby d_prog_5_method_5_43)
  obtain ⟨c8, Ar8, q8, S8, M8, Hh8, G8⟩ := (id V5)
  have gp9 : Go p e below s₁ f₀ T7 (mkF m 50 #[.val (.ref a5), .val (.long nn), .second, .val .null] [(.int ((((((1 : Int32).toInt64) + nn) - q1) - (((((1 : Int32).toInt64) + nn) - q1) / ((16 : Int32).toInt64)) * ((16 : Int32).toInt64)).toInt32)), (.ref b5)]) := fun t kt => pre0 t (by
    refine XS.aconstNull X0.here hx rfl (hb hby d_prog_5_method_5_0) ?_
    show Steps p.tables e below (s₁.setTop (mkF m 1 #[.val (.ref a5), .val (.long nn), .second, .unset] [.null])) _
    refine XS.astoreN X0.here hx rfl (hb hby d_prog_5_method_5_1) rfl rfl (l' := #[.val (.ref a5), .val (.long nn), .second, .val .null]) rfl ?_
    refine XS.lloadN X0.here hx rfl (hb hby d_prog_5_method_5_2) rfl ?_
    refine XS.aloadN X0.here hx rfl (hb hby d_prog_5_method_5_3) rfl rfl ?_
    refine st1 _ ?_
    refine XS.lcmp X1.here hx rfl (hb hby d_prog_5_method_5_7) rfl ?_
    refine XS.ifNo X1.here hx rfl (hb hby d_prog_5_method_5_8) rfl ((if0 _ _).trans (flt (fun q => hge ((lw_lt _ _).mp q))).1) ?_
    show Steps p.tables e below (T1.setTop (mkF m 11 #[.val (.ref a5), .val (.long nn), .second, .val .null] [])) _
    refine XS.lloadN X1.here hx rfl (hb hby d_prog_5_method_5_11) rfl ?_
    refine XS.aloadN X1.here hx rfl (hb hby d_prog_5_method_5_12) rfl rfl ?_
    refine st2 _ ?_
    refine XS.lsub X2.here hx rfl (hb hby d_prog_5_method_5_16) rfl ?_
    refine XS.aloadN X2.here hx rfl (hb hby d_prog_5_method_5_17) rfl rfl ?_
    refine st3 _ ?_
    show Steps p.tables e below (T3.setTop (mkF m 21 #[.val (.ref a5), .val (.long nn), .second, .val .null] [(.int (2 : Int32)), (.long (nn - q1))])) _
    refine XS.i2l X3.here hx rfl (hb hby d_prog_5_method_5_21) rfl ?_
    refine XS.lcmp X3.here hx rfl (hb hby d_prog_5_method_5_22) rfl ?_
    refine XS.ifNo X3.here hx rfl (hb hby d_prog_5_method_5_23) rfl ((if0 _ _).trans (tlt (by rw [hd]; decide)).2.1) ?_
    refine XS.aloadN X3.here hx rfl (hb hby d_prog_5_method_5_26) rfl rfl ?_
    refine st4 _ ?_
    refine XS.aloadN X4.here hx rfl (hb hby d_prog_5_method_5_30) rfl rfl ?_
    show Steps p.tables e below (T4.setTop (mkF m 31 #[.val (.ref a5), .val (.long nn), .second, .val .null] [(.ref a5), (.ref b5)])) _
    refine st5 _ ?_
    refine XS.i2l X5.here hx rfl (hb hby d_prog_5_method_5_34) rfl ?_
    refine XS.lloadN X5.here hx rfl (hb hby d_prog_5_method_5_35) rfl ?_
    refine XS.ladd X5.here hx rfl (hb hby d_prog_5_method_5_36) rfl ?_
    refine XS.aloadN X5.here hx rfl (hb hby d_prog_5_method_5_37) rfl rfl ?_
    refine st6 _ ?_
    show Steps p.tables e below (T6.setTop (mkF m 41 #[.val (.ref a5), .val (.long nn), .second, .val .null] [(.long q1), (.long (((1 : Int32).toInt64) + nn)), (.ref b5)])) _
    refine XS.lsub X6.here hx rfl (hb hby d_prog_5_method_5_41) rfl ?_
    refine XS.aloadN X6.here hx rfl (hb hby d_prog_5_method_5_42) rfl rfl ?_
    refine st7 _ ?_
    refine X7.arraylength hx (by rw [e7]; exact Ar8.1) (State.isArrayOf_alike hZ.alike Ar8.2.1) (g := (mkF m 46 #[.val (.ref a5), .val (.long nn), .second, .val .null] [(.ref b5), (.long ((((1 : Int32).toInt64) + nn) - q1)), (.ref b5)])) rfl rfl (hb hby d_prog_5_method_5_46) _ ?_
    rw [len_of S8 M8]
    refine XS.i2l X7.here hx rfl (hb hby d_prog_5_method_5_47) rfl ?_
    refine XS.lrem X7.here hx rfl (hb hby d_prog_5_method_5_48) rfl (by decide) ?_
    show Steps p.tables e below (T7.setTop (mkF m 49 #[.val (.ref a5), .val (.long nn), .second, .val .null] [(.long (((((1 : Int32).toInt64) + nn) - q1) - (((((1 : Int32).toInt64) + nn) - q1) / ((16 : Int32).toInt64)) * ((16 : Int32).toInt64))), (.ref b5)])) _
    refine XS.l2i X7.here hx rfl (hb hby d_prog_5_method_5_49) rfl ?_
    exact kt)
  have hix := own_x (((1 : Int32)).toInt64) nn q1 (1 : Int64) (2 : Int64) hd (by decide)
  have hj : ((((((1 : Int32).toInt64) + nn) - q1) - (((((1 : Int32).toInt64) + nn) - q1) / ((16 : Int32).toInt64)) * ((16 : Int32).toInt64)).toInt32) = (2 : Int32) := by rw [hix]; decide
  have gp10 := gp9
  rw [hj] at gp10
  obtain ⟨c11, Ar11, q11, S11, M11, Hh11, G11⟩ := (id V5)
  have hin11 : ¬ ((2 : Int32) < 0 ∨ c11.slots.size ≤ ((2 : Int32)).toNatClampNeg) := inb_of S11 ⟨by decide, by decide⟩
  have hat11 : c11.slots[((2 : Int32)).toNatClampNeg]? = some (.ref u2) := Hh11.at hin11 rfl
  obtain ⟨fs, hr, hrun, hended, hW, hsame⟩ := X7.leave (v := (some (.ref u2))) (fun h => by rw [Bd.returns] at h; cases h)
  refine ⟨_, _, gp10 _ ?_, hrun, hended, _, _, rfl, ?_, ⟨_, rfl⟩, hW, hsame.mono (by decide) (by decide)⟩
  · refine X7.aaload hx (j := (2 : Int32)) (v := (.ref u2)) (by rw [e7]; exact Ar11.1) (State.isArrayOf_alike hZ.alike Ar11.2.1) rfl Ar11.2.2 hin11 hat11 (g := (mkF m 50 #[.val (.ref a5), .val (.long nn), .second, .val .null] [(.int (2 : Int32)), (.ref b5)])) rfl rfl (hb hby d_prog_5_method_5_50) _ ?_
    refine XS.astoreN X7.here hx rfl (hb hby d_prog_5_method_5_51) rfl rfl (l' := #[.val (.ref a5), .val (.long nn), .second, .val (.ref u2)]) rfl ?_
    refine XS.aloadN X7.here hx rfl (hb hby d_prog_5_method_5_52) rfl rfl ?_
    exact retOut X7 hx Bd.returns rfl (Or.inr (Or.inr (Or.inr (Or.inr ⟨rfl, rfl, rfl⟩)))) (hb hby d_prog_5_method_5_53) hr
  · show QX (.ref u2) h0 n0 _ T7.heap _
    rw [e7]
    exact ⟨rfl, N0, rfl⟩
set_option maxRecDepth 65536 in
set_option maxHeartbeats 40000000 in
theorem rm_get_2_1_NRR_0 (l : Launch) (Z : State) (a0 : Array Value) (hw : ∀ d ∈ tables_1, d.before a0 Z = true) (ws : List Jvm.Cond) (a5 b5 : Addr) (k5 : ClassId) (u1 : Addr) (u2 : Addr) (q1 : Int64) (h0 : Heap) (n0 : Nat) (O0 : Old Z n0 h0) (hR : Ring Z n0 h0 a5 b5 k5 (2 : Int32) (1 : Int32) q1 [.null, (.ref u1), (.ref u2), .null, .null, .null, .null, .null, .null, .null, .null, .null, .null, .null, .null, .null]) (nn : Int64) (hge : ¬ nn < q1) (hd : nn - q1 = (0 : Int64)) :
    Met l my_7 prog_5_method_5_code 4 (some (.object nObject_2)) ws ({ frames := 0, cells := 0, slots := 0, locals := 0 } : Room) #[(.ref a5), (.long nn)] Z h0 (QX (.ref u1) h0 n0) := by
  refine MetFree.of_bodySF (plainFor_of_name pn_2) hisR ?_
  intro p e s m args below meth c s₁ Bd hml0 hP hK
  obtain ⟨rfl, hZ, hh⟩ := hP
  have hx := Bd.exec
  have hby := Bd.bytes
  have hml : c.maxLocals = 4 := hml0
  have hown : s.vm.findClass nConsec_1 = some m.cls := findClass_of_methodNamed Bd.named
  have hnm := (name_of_methodNamed Bd.named Bd.method).1
  have X0 : Stand p l e ({ frames := 0, cells := 0, slots := 0, locals := 0 } : Room) s m #[(.ref a5), (.long nn)] below meth c s₁ [] 0 0 := Stand.of_body Bd
  have e0 : s₁.heap = h0 := by rw [← hh, Bd.state]; rfl
  have N0 := Fr.nil n0
  obtain ⟨f₀, hf₀⟩ : ∃ f, f = entryFrame m #[(.ref a5), (.long nn)] 4 := ⟨_, rfl⟩
  rw [← hf₀]
  have pre0 : Go p e below s₁ f₀ s₁ (mkF m 0 #[.val (.ref a5), .val (.long nn), .second, .unset] []) := fun t kk => castTop (hf₀.trans (ef_rm_get_2_1_NRR_0 m (a5) (nn))) kk
  obtain ⟨E5, F_values, F_size, F_head, F_first, V5, Ov5, g5, gb5⟩ := (id hR)
  have ne5 := Exa.neArv E5 V5 (wq hw 9 rfl)
  obtain ⟨T1, X1, e1, st1⟩ := getF X0 hx hZ hown (host := "") (Or.inl (wq hw 21 rfl)) Via.refl e0 F_first (g := (mkF m 4 #[.val (.ref a5), .val (.long nn), .second, .val .null] [(.ref a5), (.long nn)])) rfl rfl (hb hby d_prog_5_method_5_4)
  obtain ⟨T2, X2, e2, st2⟩ := getF X1 hx hZ hown (host := "") (Or.inl (wq hw 21 rfl)) Via.refl e1 F_first (g := (mkF m 13 #[.val (.ref a5), .val (.long nn), .second, .val .null] [(.ref a5), (.long nn)])) rfl rfl (hb hby d_prog_5_method_5_13)
  obtain ⟨T3, X3, e3, st3⟩ := getF X2 hx hZ hown (host := "") (Or.inl (wq hw 28 rfl)) Via.refl e2 F_size (g := (mkF m 18 #[.val (.ref a5), .val (.long nn), .second, .val .null] [(.ref a5), (.long (nn - q1))])) rfl rfl (hb hby d_prog_5_method_5_18)
  obtain ⟨T4, X4, e4, st4⟩ := getF X3 hx hZ hown (host := "") (Or.inl (wq hw 19 rfl)) Via.refl e3 F_values (g := (mkF m 27 #[.val (.ref a5), .val (.long nn), .second, .val .null] [(.ref a5)])) rfl rfl (hb hby d_prog_5_method_5_27)
  obtain ⟨T5, X5, e5, st5⟩ := getF X4 hx hZ hown (host := "") (Or.inl (wq hw 30 rfl)) Via.refl e4 F_head (g := (mkF m 31 #[.val (.ref a5), .val (.long nn), .second, .val .null] [(.ref a5), (.ref b5)])) rfl rfl (hb hby d_prog_5_method_5_31)
  obtain ⟨T6, X6, e6, st6⟩ := getF X5 hx hZ hown (host := "") (Or.inl (wq hw 21 rfl)) Via.refl e5 F_first (g := (mkF m 38 #[.val (.ref a5), .val (.long nn), .second, .val .null] [(.ref a5), (.long (((1 : Int32).toInt64) + nn)), (.ref b5)])) rfl rfl (hb hby d_prog_5_method_5_38)
  obtain ⟨T7, X7, e7, st7⟩ := getF X6 hx hZ hown (host := "") (Or.inl (wq hw 19 rfl)) Via.refl e6 F_values (g := (mkF m 43 #[.val (.ref a5), .val (.long nn), .second, .val .null] [(.ref a5), (.long ((((1 : Int32).toInt64) + nn) - q1)), (.ref b5)])) rfl rfl (hb hby d_prog_5_method_5_43)
  obtain ⟨c8, Ar8, q8, S8, M8, Hh8, G8⟩ := (id V5)
  have gp9 : Go p e below s₁ f₀ T7 (mkF m 50 #[.val (.ref a5), .val (.long nn), .second, .val .null] [(.int ((((((1 : Int32).toInt64) + nn) - q1) - (((((1 : Int32).toInt64) + nn) - q1) / ((16 : Int32).toInt64)) * ((16 : Int32).toInt64)).toInt32)), (.ref b5)]) := fun t kt => pre0 t (by
    refine XS.aconstNull X0.here hx rfl (hb hby d_prog_5_method_5_0) ?_
    show Steps p.tables e below (s₁.setTop (mkF m 1 #[.val (.ref a5), .val (.long nn), .second, .unset] [.null])) _
    refine XS.astoreN X0.here hx rfl (hb hby d_prog_5_method_5_1) rfl rfl (l' := #[.val (.ref a5), .val (.long nn), .second, .val .null]) rfl ?_
    refine XS.lloadN X0.here hx rfl (hb hby d_prog_5_method_5_2) rfl ?_
    refine XS.aloadN X0.here hx rfl (hb hby d_prog_5_method_5_3) rfl rfl ?_
    refine st1 _ ?_
    refine XS.lcmp X1.here hx rfl (hb hby d_prog_5_method_5_7) rfl ?_
    refine XS.ifNo X1.here hx rfl (hb hby d_prog_5_method_5_8) rfl ((if0 _ _).trans (flt (fun q => hge ((lw_lt _ _).mp q))).1) ?_
    show Steps p.tables e below (T1.setTop (mkF m 11 #[.val (.ref a5), .val (.long nn), .second, .val .null] [])) _
    refine XS.lloadN X1.here hx rfl (hb hby d_prog_5_method_5_11) rfl ?_
    refine XS.aloadN X1.here hx rfl (hb hby d_prog_5_method_5_12) rfl rfl ?_
    refine st2 _ ?_
    refine XS.lsub X2.here hx rfl (hb hby d_prog_5_method_5_16) rfl ?_
    refine XS.aloadN X2.here hx rfl (hb hby d_prog_5_method_5_17) rfl rfl ?_
    refine st3 _ ?_
    show Steps p.tables e below (T3.setTop (mkF m 21 #[.val (.ref a5), .val (.long nn), .second, .val .null] [(.int (2 : Int32)), (.long (nn - q1))])) _
    refine XS.i2l X3.here hx rfl (hb hby d_prog_5_method_5_21) rfl ?_
    refine XS.lcmp X3.here hx rfl (hb hby d_prog_5_method_5_22) rfl ?_
    refine XS.ifNo X3.here hx rfl (hb hby d_prog_5_method_5_23) rfl ((if0 _ _).trans (tlt (by rw [hd]; decide)).2.1) ?_
    refine XS.aloadN X3.here hx rfl (hb hby d_prog_5_method_5_26) rfl rfl ?_
    refine st4 _ ?_
    refine XS.aloadN X4.here hx rfl (hb hby d_prog_5_method_5_30) rfl rfl ?_
    show Steps p.tables e below (T4.setTop (mkF m 31 #[.val (.ref a5), .val (.long nn), .second, .val .null] [(.ref a5), (.ref b5)])) _
    refine st5 _ ?_
    refine XS.i2l X5.here hx rfl (hb hby d_prog_5_method_5_34) rfl ?_
    refine XS.lloadN X5.here hx rfl (hb hby d_prog_5_method_5_35) rfl ?_
    refine XS.ladd X5.here hx rfl (hb hby d_prog_5_method_5_36) rfl ?_
    refine XS.aloadN X5.here hx rfl (hb hby d_prog_5_method_5_37) rfl rfl ?_
    refine st6 _ ?_
    show Steps p.tables e below (T6.setTop (mkF m 41 #[.val (.ref a5), .val (.long nn), .second, .val .null] [(.long q1), (.long (((1 : Int32).toInt64) + nn)), (.ref b5)])) _
    refine XS.lsub X6.here hx rfl (hb hby d_prog_5_method_5_41) rfl ?_
    refine XS.aloadN X6.here hx rfl (hb hby d_prog_5_method_5_42) rfl rfl ?_
    refine st7 _ ?_
    refine X7.arraylength hx (by rw [e7]; exact Ar8.1) (State.isArrayOf_alike hZ.alike Ar8.2.1) (g := (mkF m 46 #[.val (.ref a5), .val (.long nn), .second, .val .null] [(.ref b5), (.long ((((1 : Int32).toInt64) + nn) - q1)), (.ref b5)])) rfl rfl (hb hby d_prog_5_method_5_46) _ ?_
    rw [len_of S8 M8]
    refine XS.i2l X7.here hx rfl (hb hby d_prog_5_method_5_47) rfl ?_
    refine XS.lrem X7.here hx rfl (hb hby d_prog_5_method_5_48) rfl (by decide) ?_
    show Steps p.tables e below (T7.setTop (mkF m 49 #[.val (.ref a5), .val (.long nn), .second, .val .null] [(.long (((((1 : Int32).toInt64) + nn) - q1) - (((((1 : Int32).toInt64) + nn) - q1) / ((16 : Int32).toInt64)) * ((16 : Int32).toInt64))), (.ref b5)])) _
    refine XS.l2i X7.here hx rfl (hb hby d_prog_5_method_5_49) rfl ?_
    exact kt)
  have hix := own_x (((1 : Int32)).toInt64) nn q1 (0 : Int64) (1 : Int64) hd (by decide)
  have hj : ((((((1 : Int32).toInt64) + nn) - q1) - (((((1 : Int32).toInt64) + nn) - q1) / ((16 : Int32).toInt64)) * ((16 : Int32).toInt64)).toInt32) = (1 : Int32) := by rw [hix]; decide
  have gp10 := gp9
  rw [hj] at gp10
  obtain ⟨c11, Ar11, q11, S11, M11, Hh11, G11⟩ := (id V5)
  have hin11 : ¬ ((1 : Int32) < 0 ∨ c11.slots.size ≤ ((1 : Int32)).toNatClampNeg) := inb_of S11 ⟨by decide, by decide⟩
  have hat11 : c11.slots[((1 : Int32)).toNatClampNeg]? = some (.ref u1) := Hh11.at hin11 rfl
  obtain ⟨fs, hr, hrun, hended, hW, hsame⟩ := X7.leave (v := (some (.ref u1))) (fun h => by rw [Bd.returns] at h; cases h)
  refine ⟨_, _, gp10 _ ?_, hrun, hended, _, _, rfl, ?_, ⟨_, rfl⟩, hW, hsame.mono (by decide) (by decide)⟩
  · refine X7.aaload hx (j := (1 : Int32)) (v := (.ref u1)) (by rw [e7]; exact Ar11.1) (State.isArrayOf_alike hZ.alike Ar11.2.1) rfl Ar11.2.2 hin11 hat11 (g := (mkF m 50 #[.val (.ref a5), .val (.long nn), .second, .val .null] [(.int (1 : Int32)), (.ref b5)])) rfl rfl (hb hby d_prog_5_method_5_50) _ ?_
    refine XS.astoreN X7.here hx rfl (hb hby d_prog_5_method_5_51) rfl rfl (l' := #[.val (.ref a5), .val (.long nn), .second, .val (.ref u1)]) rfl ?_
    refine XS.aloadN X7.here hx rfl (hb hby d_prog_5_method_5_52) rfl rfl ?_
    exact retOut X7 hx Bd.returns rfl (Or.inr (Or.inr (Or.inr (Or.inr ⟨rfl, rfl, rfl⟩)))) (hb hby d_prog_5_method_5_53) hr
  · show QX (.ref u1) h0 n0 _ T7.heap _
    rw [e7]
    exact ⟨rfl, N0, rfl⟩
set_option maxRecDepth 65536 in
set_option maxHeartbeats 40000000 in
theorem rm_get_2_1_NRR_hi (l : Launch) (Z : State) (a0 : Array Value) (hw : ∀ d ∈ tables_1, d.before a0 Z = true) (ws : List Jvm.Cond) (a5 b5 : Addr) (k5 : ClassId) (u1 : Addr) (u2 : Addr) (q1 : Int64) (h0 : Heap) (n0 : Nat) (O0 : Old Z n0 h0) (hR : Ring Z n0 h0 a5 b5 k5 (2 : Int32) (1 : Int32) q1 [.null, (.ref u1), (.ref u2), .null, .null, .null, .null, .null, .null, .null, .null, .null, .null, .null, .null, .null]) (nn : Int64) (hge : ¬ nn < q1) (hd : nn - q1 = (2 : Int64)) :
    Met l my_7 prog_5_method_5_code 4 (some (.object nObject_2)) ws ({ frames := 0, cells := 0, slots := 0, locals := 0 } : Room) #[(.ref a5), (.long nn)] Z h0 (QX .null h0 n0) := by
  refine MetFree.of_bodySF (plainFor_of_name pn_2) hisR ?_
  intro p e s m args below meth c s₁ Bd hml0 hP hK
  obtain ⟨rfl, hZ, hh⟩ := hP
  have hx := Bd.exec
  have hby := Bd.bytes
  have hml : c.maxLocals = 4 := hml0
  have hown : s.vm.findClass nConsec_1 = some m.cls := findClass_of_methodNamed Bd.named
  have hnm := (name_of_methodNamed Bd.named Bd.method).1
  have X0 : Stand p l e ({ frames := 0, cells := 0, slots := 0, locals := 0 } : Room) s m #[(.ref a5), (.long nn)] below meth c s₁ [] 0 0 := Stand.of_body Bd
  have e0 : s₁.heap = h0 := by rw [← hh, Bd.state]; rfl
  have N0 := Fr.nil n0
  obtain ⟨f₀, hf₀⟩ : ∃ f, f = entryFrame m #[(.ref a5), (.long nn)] 4 := ⟨_, rfl⟩
  rw [← hf₀]
  have pre0 : Go p e below s₁ f₀ s₁ (mkF m 0 #[.val (.ref a5), .val (.long nn), .second, .unset] []) := fun t kk => castTop (hf₀.trans (ef_rm_get_2_1_NRR_hi m (a5) (nn))) kk
  obtain ⟨E5, F_values, F_size, F_head, F_first, V5, Ov5, g5, gb5⟩ := (id hR)
  have ne5 := Exa.neArv E5 V5 (wq hw 9 rfl)
  obtain ⟨T1, X1, e1, st1⟩ := getF X0 hx hZ hown (host := "") (Or.inl (wq hw 21 rfl)) Via.refl e0 F_first (g := (mkF m 4 #[.val (.ref a5), .val (.long nn), .second, .val .null] [(.ref a5), (.long nn)])) rfl rfl (hb hby d_prog_5_method_5_4)
  obtain ⟨T2, X2, e2, st2⟩ := getF X1 hx hZ hown (host := "") (Or.inl (wq hw 21 rfl)) Via.refl e1 F_first (g := (mkF m 13 #[.val (.ref a5), .val (.long nn), .second, .val .null] [(.ref a5), (.long nn)])) rfl rfl (hb hby d_prog_5_method_5_13)
  obtain ⟨T3, X3, e3, st3⟩ := getF X2 hx hZ hown (host := "") (Or.inl (wq hw 28 rfl)) Via.refl e2 F_size (g := (mkF m 18 #[.val (.ref a5), .val (.long nn), .second, .val .null] [(.ref a5), (.long (nn - q1))])) rfl rfl (hb hby d_prog_5_method_5_18)
  obtain ⟨fs, hr, hrun, hended, hW, hsame⟩ := X3.leave (v := (some .null)) (fun h => by rw [Bd.returns] at h; cases h)
  refine ⟨_, _, pre0 _ ?_, hrun, hended, _, _, rfl, ?_, ⟨_, rfl⟩, hW, hsame.mono (by decide) (by decide)⟩
  · refine XS.aconstNull X0.here hx rfl (hb hby d_prog_5_method_5_0) ?_
    show Steps p.tables e below (s₁.setTop (mkF m 1 #[.val (.ref a5), .val (.long nn), .second, .unset] [.null])) _
    refine XS.astoreN X0.here hx rfl (hb hby d_prog_5_method_5_1) rfl rfl (l' := #[.val (.ref a5), .val (.long nn), .second, .val .null]) rfl ?_
    refine XS.lloadN X0.here hx rfl (hb hby d_prog_5_method_5_2) rfl ?_
    refine XS.aloadN X0.here hx rfl (hb hby d_prog_5_method_5_3) rfl rfl ?_
    refine st1 _ ?_
    refine XS.lcmp X1.here hx rfl (hb hby d_prog_5_method_5_7) rfl ?_
    refine XS.ifNo X1.here hx rfl (hb hby d_prog_5_method_5_8) rfl ((if0 _ _).trans (flt (fun q => hge ((lw_lt _ _).mp q))).1) ?_
    show Steps p.tables e below (T1.setTop (mkF m 11 #[.val (.ref a5), .val (.long nn), .second, .val .null] [])) _
    refine XS.lloadN X1.here hx rfl (hb hby d_prog_5_method_5_11) rfl ?_
    refine XS.aloadN X1.here hx rfl (hb hby d_prog_5_method_5_12) rfl rfl ?_
    refine st2 _ ?_
    refine XS.lsub X2.here hx rfl (hb hby d_prog_5_method_5_16) rfl ?_
    refine XS.aloadN X2.here hx rfl (hb hby d_prog_5_method_5_17) rfl rfl ?_
    refine st3 _ ?_
    show Steps p.tables e below (T3.setTop (mkF m 21 #[.val (.ref a5), .val (.long nn), .second, .val .null] [(.int (2 : Int32)), (.long (nn - q1))])) _
    refine XS.i2l X3.here hx rfl (hb hby d_prog_5_method_5_21) rfl ?_
    refine XS.lcmp X3.here hx rfl (hb hby d_prog_5_method_5_22) rfl ?_
    refine XS.ifYes X3.here hx rfl (pc0 := 23) (pc' := 52) rfl (hb hby d_prog_5_method_5_23) rfl ((if0 _ _).trans (flt (by rw [hd]; decide)).2.1) (by decide) (by decide) ?_
    refine XS.aloadN X3.here hx rfl (hb hby d_prog_5_method_5_52) rfl rfl ?_
    exact retOut X3 hx Bd.returns rfl (Or.inr (Or.inr (Or.inr (Or.inr ⟨rfl, rfl, rfl⟩)))) (hb hby d_prog_5_method_5_53) hr
  · show QX .null h0 n0 _ T3.heap _
    rw [e3]
    exact ⟨rfl, N0, rfl⟩
set_option maxRecDepth 65536 in
set_option maxHeartbeats 40000000 in
theorem rm0 (l : Launch) (Z : State) (a0 : Array Value) (hw : ∀ d ∈ tables_1, d.before a0 Z = true) (ws : List Jvm.Cond) (ca : Addr) (cc : Cell) (hL : ICB Z ca cc) (z0 : Int64) (p1 p2 p3 p4 : Int32) (h0 : Heap) (n0 : Nat) (O0 : Old Z n0 h0) :
    Met l x code maxLocals ret ws room_1 #[(.long z0), (.int p1), (.int p2), (.int p3), (.int p4)] Z h0 (Q0 n0) := by
  refine MetFree.of_bodySF (plainFor_of_name pn_3) hisR ?_
  intro p e s m args below meth c s₁ Bd hml0 hP hK
  obtain ⟨rfl, hZ, hh⟩ := hP
  have hx := Bd.exec
  have hby := Bd.bytes
  have hml : c.maxLocals = 23 := hml0
  have hown : s.vm.findClass "com/example/hold_until_acked/holduntilacked/engine/ConsecutiveRingAddPinLaw" = some m.cls := findClass_of_methodNamed Bd.named
  have hnm := (name_of_methodNamed Bd.named Bd.method).1
  have X0 : Stand p l e room_1 s m #[(.long z0), (.int p1), (.int p2), (.int p3), (.int p4)] below meth c s₁ [] 0 0 := Stand.of_body Bd
  have e0 : s₁.heap = h0 := by rw [← hh, Bd.state]; rfl
  have N0 := Fr.nil n0
  obtain ⟨f₀, hf₀⟩ : ∃ f, f = entryFrame m #[(.long z0), (.int p1), (.int p2), (.int p3), (.int p4)] maxLocals := ⟨_, rfl⟩
  rw [← hf₀]
  have pre0 : Go p e below s₁ f₀ s₁ (mkF m 0 #[.val (.long z0), .second, .val (.int p1), .val (.int p2), .val (.int p3), .val (.int p4), .unset, .unset, .unset, .unset, .unset, .unset, .unset, .unset, .unset, .unset, .unset, .unset, .unset, .unset, .unset, .unset, .unset] []) := fun t kk => castTop (hf₀.trans (ef_rm0 m (z0) (p1) (p2) (p3) (p4))) kk
  have gp1 : Go p e below s₁ f₀ s₁ (mkF m 5 #[.val (.long z0), .second, .val (.int p1), .val (.int p2), .val (.int p3), .val (.int p4), .unset, .unset, .unset, .unset, .unset, .unset, .unset, .unset, .unset, .unset, .unset, .unset, .unset, .unset, .unset, .unset, .unset] [(.int (lcmpW z0 (9223372036854775799 : Int64)))]) := fun t kt => pre0 t (by
    refine XS.lloadN X0.here hx rfl (hb hby at_0) rfl ?_
    refine X0.ldc2Long hx hown (mvT hZ (wq hw 0 rfl)) (g := (mkF m 1 #[.val (.long z0), .second, .val (.int p1), .val (.int p2), .val (.int p3), .val (.int p4), .unset, .unset, .unset, .unset, .unset, .unset, .unset, .unset, .unset, .unset, .unset, .unset, .unset, .unset, .unset, .unset, .unset] [(.long z0)])) rfl (hb hby at_1) _ ?_
    refine XS.lcmp X0.here hx rfl (hb hby at_4) rfl ?_
    exact kt)
  by_cases hbig : (9223372036854775799 : Int64) < z0
  · have hf := own_b2 hbig
    have gp2 : Go p e below s₁ f₀ s₁ (mkF m 23 #[.val (.long z0), .second, .val (.int p1), .val (.int p2), .val (.int p3), .val (.int p4), .val (.long (z0 - (8 : Int64))), .second, .unset, .unset, .unset, .unset, .unset, .unset, .unset, .unset, .unset, .unset, .unset, .unset, .unset, .unset, .unset] [(.int (p4 &&& (1 : Int32)))]) := fun t kt => gp1 t (by
      refine XS.ifNo X0.here hx rfl (hb hby at_5) rfl ((if0 _ _).trans (tlt ((lw_gt _ _).mpr hbig)).2.2.2) ?_
      show Steps p.tables e below (s₁.setTop (mkF m 8 #[.val (.long z0), .second, .val (.int p1), .val (.int p2), .val (.int p3), .val (.int p4), .unset, .unset, .unset, .unset, .unset, .unset, .unset, .unset, .unset, .unset, .unset, .unset, .unset, .unset, .unset, .unset, .unset] [])) _
      refine XS.lloadN X0.here hx rfl (hb hby at_8) rfl ?_
      refine X0.ldc2Long hx hown (mvT hZ (wq hw 75 rfl)) (g := (mkF m 9 #[.val (.long z0), .second, .val (.int p1), .val (.int p2), .val (.int p3), .val (.int p4), .unset, .unset, .unset, .unset, .unset, .unset, .unset, .unset, .unset, .unset, .unset, .unset, .unset, .unset, .unset, .unset, .unset] [(.long z0)])) rfl (hb hby at_9) _ ?_
      refine XS.lsub X0.here hx rfl (hb hby at_12) rfl ?_
      refine XS.goto X0.here hx rfl (pc0 := 13) (pc' := 17) rfl (hb hby at_13) (by decide) (by decide) ?_
      refine XS.lstore X0.here hx rfl (hb hby at_17) rfl (l' := #[.val (.long z0), .second, .val (.int p1), .val (.int p2), .val (.int p3), .val (.int p4), .val (.long (z0 - (8 : Int64))), .second, .unset, .unset, .unset, .unset, .unset, .unset, .unset, .unset, .unset, .unset, .unset, .unset, .unset, .unset, .unset]) rfl ?_
      refine XS.iload X0.here hx rfl (hb hby at_19) rfl ?_
      show Steps p.tables e below (s₁.setTop (mkF m 21 #[.val (.long z0), .second, .val (.int p1), .val (.int p2), .val (.int p3), .val (.int p4), .val (.long (z0 - (8 : Int64))), .second, .unset, .unset, .unset, .unset, .unset, .unset, .unset, .unset, .unset, .unset, .unset, .unset, .unset, .unset, .unset] [(.int p4)])) _
      refine XS.iconst X0.here hx rfl (hb hby at_21) ?_
      refine XS.iand X0.here hx rfl (hb hby at_22) rfl ?_
      exact kt)
    by_cases hc23 : (p4 &&& (1 : Int32)) = (0 : Int32)
    · have gp3 : Go p e below s₁ f₀ s₁ (mkF m 37 #[.val (.long z0), .second, .val (.int p1), .val (.int p2), .val (.int p3), .val (.int p4), .val (.long (z0 - (8 : Int64))), .second, .val (.int (0 : Int32)), .unset, .unset, .unset, .unset, .unset, .unset, .unset, .unset, .unset, .unset, .unset, .unset, .unset, .unset] [(.int (p4 &&& (2 : Int32)))]) := fun t kt => gp2 t (by
        refine XS.ifYes X0.here hx rfl (pc0 := 23) (pc' := 30) rfl (hb hby at_23) rfl ((if0 _ _).trans (teq hc23).1) (by decide) (by decide) ?_
        refine XS.iconst X0.here hx rfl (hb hby at_30) ?_
        refine XS.istore X0.here hx rfl (hb hby at_31) rfl (l' := #[.val (.long z0), .second, .val (.int p1), .val (.int p2), .val (.int p3), .val (.int p4), .val (.long (z0 - (8 : Int64))), .second, .val (.int (0 : Int32)), .unset, .unset, .unset, .unset, .unset, .unset, .unset, .unset, .unset, .unset, .unset, .unset, .unset, .unset]) rfl ?_
        refine XS.iload X0.here hx rfl (hb hby at_33) rfl ?_
        show Steps p.tables e below (s₁.setTop (mkF m 35 #[.val (.long z0), .second, .val (.int p1), .val (.int p2), .val (.int p3), .val (.int p4), .val (.long (z0 - (8 : Int64))), .second, .val (.int (0 : Int32)), .unset, .unset, .unset, .unset, .unset, .unset, .unset, .unset, .unset, .unset, .unset, .unset, .unset, .unset] [(.int p4)])) _
        refine XS.iconst X0.here hx rfl (hb hby at_35) ?_
        refine XS.iand X0.here hx rfl (hb hby at_36) rfl ?_
        exact kt)
      by_cases hc37 : (p4 &&& (2 : Int32)) = (0 : Int32)
      · obtain ⟨_, _, ⟨T4, L4, k4, n4⟩, -, X4, ⟨Lc4, hQ4, l4, y4, z4⟩, st4⟩ := Jvm.LawKit.callS X0 hx (y := my_2) hown (mvT hZ (wq hw 1 rfl)) (mvT hZ (wq hw 2 rfl)) (mvT hZ (wq hw 3 rfl)) (mvT hZ (wq hw 4 rfl)) (by decide) (backOf (W := 0) (rm_val l Z a0 hw [] ca cc hL p1 h0 n0 O0) hZ (wq hw 4 rfl) (wq hw 3 rfl) (by decide) (by decide)) (g := (mkF m 48 #[.val (.long z0), .second, .val (.int p1), .val (.int p2), .val (.int p3), .val (.int p4), .val (.long (z0 - (8 : Int64))), .second, .val (.int (0 : Int32)), .val (.int (0 : Int32)), .unset, .unset, .unset, .unset, .unset, .unset, .unset, .unset, .unset, .unset, .unset, .unset, .unset] [(.int p1)])) rfl (by rw [hml]; rfl) (argsL := [(.int p1)]) (rest := []) (lenOf pd_2 rfl) rfl (by show 2 * 0 + _ ≤ _; exact Nat.le_of_eq rfl) (hb hby at_48) (fun _ _ => ⟨rfl, e0, (by decide : 0 + 1 ≤ _), (by decide : 0 + 1 ≤ _)⟩)
        dsimp only [Pt.U, Pt.locs, Pt.cells, Pt.slots] at X4 l4 y4 z4 st4 hQ4
        have X4 := own_to X4 l4 y4 z4
        obtain ⟨r4, rfl, N4q, K4, E4q⟩ := hQ4
        have N4 := Fr.app N0 N4q
        have O5 : Old Z n0 T4.heap := Old.keep O0 K4 all0
        obtain ⟨_, _, ⟨T6, L6, k6, n6⟩, -, X6, ⟨Lc6, hQ6, l6, y6, z6⟩, st6⟩ := Jvm.LawKit.callS X4 hx (y := my_2) hown (mvT hZ (wq hw 1 rfl)) (mvT hZ (wq hw 2 rfl)) (mvT hZ (wq hw 3 rfl)) (mvT hZ (wq hw 4 rfl)) (by decide) (backOf (W := 0) (rm_val l Z a0 hw [] ca cc hL p2 T4.heap n0 O5) hZ (wq hw 4 rfl) (wq hw 3 rfl) (by decide) (by decide)) (g := (mkF m 54 #[.val (.long z0), .second, .val (.int p1), .val (.int p2), .val (.int p3), .val (.int p4), .val (.long (z0 - (8 : Int64))), .second, .val (.int (0 : Int32)), .val (.int (0 : Int32)), .val (.ref r4), .unset, .unset, .unset, .unset, .unset, .unset, .unset, .unset, .unset, .unset, .unset, .unset] [(.int p2)])) rfl (by rw [hml]; rfl) (argsL := [(.int p2)]) (rest := []) (lenOf pd_2 rfl) rfl (by show 2 * 0 + _ ≤ _; exact Nat.le_of_eq rfl) (hb hby at_54) (fun _ _ => ⟨rfl, rfl, (by decide : 1 + 1 ≤ _), (by decide : 1 + 1 ≤ _)⟩)
        dsimp only [Pt.U, Pt.locs, Pt.cells, Pt.slots] at X6 l6 y6 z6 st6 hQ6
        have X6 := own_to X6 l6 y6 z6
        obtain ⟨r6, rfl, N6q, K6, E6q⟩ := hQ6
        have N6 := Fr.app N4 N6q
        have O7 : Old Z n0 T6.heap := Old.keep O5 K6 all0
        obtain ⟨_, _, ⟨T8, L8, k8, n8⟩, -, X8, ⟨Lc8, hQ8, l8, y8, z8⟩, st8⟩ := Jvm.LawKit.callS X6 hx (y := my_2) hown (mvT hZ (wq hw 1 rfl)) (mvT hZ (wq hw 2 rfl)) (mvT hZ (wq hw 3 rfl)) (mvT hZ (wq hw 4 rfl)) (by decide) (backOf (W := 0) (rm_val l Z a0 hw [] ca cc hL p3 T6.heap n0 O7) hZ (wq hw 4 rfl) (wq hw 3 rfl) (by decide) (by decide)) (g := (mkF m 61 #[.val (.long z0), .second, .val (.int p1), .val (.int p2), .val (.int p3), .val (.int p4), .val (.long (z0 - (8 : Int64))), .second, .val (.int (0 : Int32)), .val (.int (0 : Int32)), .val (.ref r4), .val (.ref r6), .unset, .unset, .unset, .unset, .unset, .unset, .unset, .unset, .unset, .unset, .unset] [(.int p3)])) rfl (by rw [hml]; rfl) (argsL := [(.int p3)]) (rest := []) (lenOf pd_2 rfl) rfl (by show 2 * 0 + _ ≤ _; exact Nat.le_of_eq rfl) (hb hby at_61) (fun _ _ => ⟨rfl, rfl, (by decide : 2 + 1 ≤ _), (by decide : 2 + 1 ≤ _)⟩)
        dsimp only [Pt.U, Pt.locs, Pt.cells, Pt.slots] at X8 l8 y8 z8 st8 hQ8
        have X8 := own_to X8 l8 y8 z8
        obtain ⟨r8, rfl, N8q, K8, E8q⟩ := hQ8
        have N8 := Fr.app N6 N8q
        have O9 : Old Z n0 T8.heap := Old.keep O7 K8 all0
        obtain ⟨T10, h10, X10, e10, E10, A10, D10, -, st10⟩ := newO X8 hx hZ hown (wq hw 8 rfl) (wq hw 9 rfl) (wq hw 10 rfl) rfl (g := (mkF m 66 #[.val (.long z0), .second, .val (.int p1), .val (.int p2), .val (.int p3), .val (.int p4), .val (.long (z0 - (8 : Int64))), .second, .val (.int (0 : Int32)), .val (.int (0 : Int32)), .val (.ref r4), .val (.ref r6), .val (.ref r8), .unset, .unset, .unset, .unset, .unset, .unset, .unset, .unset, .unset, .unset] [])) rfl (hb hby at_66) (by decide) (by decide)
        obtain ⟨b10, gb10⟩ : ∃ z, z = T8.heap.size := ⟨_, rfl⟩
        rw [← gb10] at A10 D10 st10
        have t11 : Exa Z T8.heap r4 nIntege_0 := ((E4q.keep K6).keep K8)
        have ne12 : r4 ≠ b10 := Nat.ne_of_lt (Nat.lt_of_lt_of_le t11.lt (Nat.le_of_eq gb10.symm))
        have t13 : Exa Z T8.heap r6 nIntege_0 := (E6q.keep K8)
        have ne14 : r6 ≠ b10 := Nat.ne_of_lt (Nat.lt_of_lt_of_le t13.lt (Nat.le_of_eq gb10.symm))
        have ne15 : r8 ≠ b10 := Nat.ne_of_lt (Nat.lt_of_lt_of_le E8q.lt (Nat.le_of_eq gb10.symm))
        have g16 : n0 ≤ b10 := Nat.le_trans (Nat.le_of_eq O9.1.symm) (Nat.le_trans O9.2.1 (Nat.le_of_eq gb10.symm))
        have O17 : Old Z n0 h10 := Old.ext O9 E10
        have f18 : Fld Z h10 b10 nConsec_1 "values" "[Ljava/lang/Object;" .null := D10 (Or.inl (wq hw 20 rfl)) (ty := (.array (.object nObject_2))) (by decide)
        have f19 : Fld Z h10 b10 nConsec_1 "first" "J" (.long (0 : Int64)) := D10 (Or.inl (wq hw 22 rfl)) (ty := .long) (by decide)
        have f20 : Fld Z h10 b10 nConsec_1 "size" "I" (.int (0 : Int32)) := D10 (Or.inl (wq hw 29 rfl)) (ty := .int) (by decide)
        have f21 : Fld Z h10 b10 nConsec_1 "head" "I" (.int (0 : Int32)) := D10 (Or.inl (wq hw 31 rfl)) (ty := .int) (by decide)
        obtain ⟨_, _, ⟨T22, L22, k22, n22⟩, -, X22, ⟨Lc22, hQ22, l22, y22, z22⟩, st22⟩ := X10.specialBack hx (y := my_3) rfl hown (mvT hZ (wq hw 11 rfl)) (mvT hZ (wq hw 12 rfl)) (mvT hZ (wq hw 13 rfl)) (by decide) (backOf (W := 1) (rm_rin l Z a0 hw [] b10 (z0 - (8 : Int64)) h10 n0 O17 g16 A10 f18 f20 f21 f19) hZ (wq hw 13 rfl) (wq hw 10 rfl) (by decide) (by decide)) (g := (mkF m 72 #[.val (.long z0), .second, .val (.int p1), .val (.int p2), .val (.int p3), .val (.int p4), .val (.long (z0 - (8 : Int64))), .second, .val (.int (0 : Int32)), .val (.int (0 : Int32)), .val (.ref r4), .val (.ref r6), .val (.ref r8), .unset, .unset, .unset, .unset, .unset, .unset, .unset, .unset, .unset, .unset] [(.long (z0 - (8 : Int64))), (.ref b10), (.ref b10)])) rfl (by rw [hml]; rfl) (Steps.refl _) (a := b10) (argsL := [(.long (z0 - (8 : Int64)))]) (rest := [(.ref b10)]) (lenOf pd_3 rfl) rfl (by show 2 * 0 + _ ≤ _; exact Nat.le_of_eq rfl) (hb hby at_72) (fun _ _ => ⟨rfl, e10, (by decide : 4 + 1 ≤ _), (by decide : 7 + 16 ≤ _)⟩)
        dsimp only [Pt.U, Pt.locs, Pt.cells, Pt.slots] at X22 l22 y22 z22 st22 hQ22
        have X22 := own_to X22 l22 y22 z22
        obtain ⟨bb22, kk22, rfl, N22q, K22, R22⟩ := hQ22
        have N22 := Fr.app N8 N22q
        have O23 : Old Z n0 T22.heap := Old.keep O17 K22 (allS g16 all0)
        obtain ⟨ER22, FV22, FS22, FH22, FF22, VV22, OV22, ga22, gbb22⟩ := (id R22)
        have t24 : Exa Z T22.heap r6 nIntege_0 := ((t13.ext E10).keep K22)
        obtain ⟨cq25, kq25, q25a, q25b, q25c⟩ := isOf hZ rfl (ER22)
        obtain ⟨_, _, ⟨T25, L25, k25, n25⟩, -, X25, ⟨Lc25, hQ25, l25, y25, z25⟩, st25⟩ := X22.virtualBack hx (y := my_6) (z := my_6) hown (mvT hZ (wq hw 23 rfl)) (mvT hZ (wq hw 24 rfl)) (notFace_of_selects (args := #[]) (mvT hZ (wq hw 26 rfl))) (mvT hZ (wq hw 26 rfl)) (mvT hZ (wq hw 25 rfl)) (by decide) (backOf (W := 0) (rm_add_0_0_NNN l Z a0 hw [] b10 bb22 kk22  (z0 - (8 : Int64)) T22.heap n0 O23 R22 r6 t24) hZ (wq hw 27 rfl) (wq hw 10 rfl) (by decide) (by decide)) q25a q25c (g := (mkF m 93 #[.val (.long z0), .second, .val (.int p1), .val (.int p2), .val (.int p3), .val (.int p4), .val (.long (z0 - (8 : Int64))), .second, .val (.int (0 : Int32)), .val (.int (0 : Int32)), .val (.ref r4), .val (.ref r6), .val (.ref r8), .val (.ref b10), .unset, .unset, .unset, .unset, .unset, .unset, .unset, .unset, .unset] [(.ref r6), (.ref b10)])) rfl (by rw [hml]; rfl) (Steps.refl _) (argsL := [(.ref r6)]) (rest := []) (lenOf pd_4 rfl) rfl (by show 2 * 0 + _ ≤ _; exact Nat.le_of_eq rfl) (hb hby at_93) (fun _ _ => ⟨rfl, rfl, (by decide : 5 + 0 ≤ _), (by decide : 23 + 0 ≤ _)⟩)
        dsimp only [Pt.U, Pt.locs, Pt.cells, Pt.slots] at X25 l25 y25 z25 st25 hQ25
        have X25 := own_to X25 l25 y25 z25
        obtain ⟨rfl, N25q, K25, R25⟩ := hQ25
        have N25 := Fr.app N22 N25q
        have O26 : Old Z n0 T25.heap := Old.keep O23 K25 (allS g16 (allS gbb22 all0))
        have ER25 := R25.1
        have t27 : Exa Z T25.heap r8 nIntege_0 := (((E8q.ext E10).keep K22).keep K25)
        obtain ⟨cq28, kq28, q28a, q28b, q28c⟩ := isOf hZ rfl (ER25)
        obtain ⟨_, _, ⟨T28, L28, k28, n28⟩, -, X28, ⟨Lc28, hQ28, l28, y28, z28⟩, st28⟩ := X25.virtualBack hx (y := my_6) (z := my_6) hown (mvT hZ (wq hw 23 rfl)) (mvT hZ (wq hw 24 rfl)) (notFace_of_selects (args := #[]) (mvT hZ (wq hw 26 rfl))) (mvT hZ (wq hw 26 rfl)) (mvT hZ (wq hw 25 rfl)) (by decide) (backOf (W := 0) (rm_add_1_0_RNN l Z a0 hw [] b10 bb22 kk22 r6 (z0 - (8 : Int64)) T25.heap n0 O26 R25 r8 t27) hZ (wq hw 27 rfl) (wq hw 10 rfl) (by decide) (by decide)) q28a q28c (g := (mkF m 111 #[.val (.long z0), .second, .val (.int p1), .val (.int p2), .val (.int p3), .val (.int p4), .val (.long (z0 - (8 : Int64))), .second, .val (.int (0 : Int32)), .val (.int (0 : Int32)), .val (.ref r4), .val (.ref r6), .val (.ref r8), .val (.ref b10), .unset, .unset, .unset, .unset, .unset, .unset, .unset, .unset, .unset] [(.ref r8), (.ref b10)])) rfl (by rw [hml]; rfl) (Steps.refl _) (argsL := [(.ref r8)]) (rest := []) (lenOf pd_4 rfl) rfl (by show 2 * 0 + _ ≤ _; exact Nat.le_of_eq rfl) (hb hby at_111) (fun _ _ => ⟨rfl, rfl, (by decide : 5 + 0 ≤ _), (by decide : 23 + 0 ≤ _)⟩)
        dsimp only [Pt.U, Pt.locs, Pt.cells, Pt.slots] at X28 l28 y28 z28 st28 hQ28
        have X28 := own_to X28 l28 y28 z28
        obtain ⟨rfl, N28q, K28, R28⟩ := hQ28
        have N28 := Fr.app N25 N28q
        have O29 : Old Z n0 T28.heap := Old.keep O26 K28 (allS g16 (allS gbb22 all0))
        have ER28 := R28.1
        obtain ⟨cq30, kq30, q30a, q30b, q30c⟩ := isOf hZ rfl (ER28)
        obtain ⟨_, _, ⟨T30, L30, k30, n30⟩, -, X30, ⟨Lc30, hQ30, l30, y30, z30⟩, st30⟩ := X28.virtualBack hx (y := my_4) (z := my_4) hown (mvT hZ (wq hw 49 rfl)) (mvT hZ (wq hw 50 rfl)) (notFace_of_selects (args := #[]) (mvT hZ (wq hw 52 rfl))) (mvT hZ (wq hw 52 rfl)) (mvT hZ (wq hw 51 rfl)) (by decide) (backOf (W := 0) (rm_siz l Z a0 hw [] b10 (2 : Int32) T28.heap n0 R28.2.2.1) hZ (wq hw 53 rfl) (wq hw 10 rfl) (by decide) (by decide)) q30a q30c (g := (mkF m 199 #[.val (.long z0), .second, .val (.int p1), .val (.int p2), .val (.int p3), .val (.int p4), .val (.long (z0 - (8 : Int64))), .second, .val (.int (0 : Int32)), .val (.int (0 : Int32)), .val (.ref r4), .val (.ref r6), .val (.ref r8), .val (.ref b10), .val (.int (2 : Int32)), .val (.long ((z0 - (8 : Int64)) + (0 : Int64))), .second, .val (.long ((z0 - (8 : Int64)) + (1 : Int64))), .second, .val (.long (((z0 - (8 : Int64)) + (1 : Int64)) - (1 : Int64))), .second, .val (.ref r6), .unset] [(.ref b10)])) rfl (by rw [hml]; rfl) (Steps.refl _) (argsL := []) (rest := []) (lenOf pd_5 rfl) rfl (by show 2 * 0 + _ ≤ _; exact Nat.le_of_eq rfl) (hb hby at_199) (fun _ _ => ⟨rfl, rfl, (by decide : 5 + 0 ≤ _), (by decide : 23 + 0 ≤ _)⟩)
        dsimp only [Pt.U, Pt.locs, Pt.cells, Pt.slots] at X30 l30 y30 z30 st30 hQ30
        have X30 := own_to X30 l30 y30 z30
        obtain ⟨rfl, N30q, e30⟩ := hQ30
        have N30 := Fr.app N28 N30q
        obtain ⟨cq31, kq31, q31a, q31b, q31c⟩ := isOf hZ e30 (ER28)
        obtain ⟨_, _, ⟨T31, L31, k31, n31⟩, -, X31, ⟨Lc31, hQ31, l31, y31, z31⟩, st31⟩ := X30.virtualBack hx (y := my_5) (z := my_5) hown (mvT hZ (wq hw 54 rfl)) (mvT hZ (wq hw 55 rfl)) (notFace_of_selects (args := #[]) (mvT hZ (wq hw 57 rfl))) (mvT hZ (wq hw 57 rfl)) (mvT hZ (wq hw 56 rfl)) (by decide) (backOf (W := 0) (rm_fnu l Z a0 hw [] b10 (z0 - (8 : Int64)) T28.heap n0 R28.2.2.2.2.1) hZ (wq hw 58 rfl) (wq hw 10 rfl) (by decide) (by decide)) q31a q31c (g := (mkF m 221 #[.val (.long z0), .second, .val (.int p1), .val (.int p2), .val (.int p3), .val (.int p4), .val (.long (z0 - (8 : Int64))), .second, .val (.int (0 : Int32)), .val (.int (0 : Int32)), .val (.ref r4), .val (.ref r6), .val (.ref r8), .val (.ref b10), .val (.int (2 : Int32)), .val (.long ((z0 - (8 : Int64)) + (0 : Int64))), .second, .val (.long ((z0 - (8 : Int64)) + (1 : Int64))), .second, .val (.long (((z0 - (8 : Int64)) + (1 : Int64)) - (1 : Int64))), .second, .val (.ref r6), .val (.int (1 : Int32))] [(.ref b10)])) rfl (by rw [hml]; rfl) (Steps.refl _) (argsL := []) (rest := []) (lenOf pd_6 rfl) rfl (by show 2 * 0 + _ ≤ _; exact Nat.le_of_eq rfl) (hb hby at_221) (fun _ _ => ⟨rfl, e30, (by decide : 5 + 0 ≤ _), (by decide : 23 + 0 ≤ _)⟩)
        dsimp only [Pt.U, Pt.locs, Pt.cells, Pt.slots] at X31 l31 y31 z31 st31 hQ31
        have X31 := own_to X31 l31 y31 z31
        obtain ⟨rfl, N31q, e31⟩ := hQ31
        have N31 := Fr.app N30 N31q
        have he246 : ((z0 - (8 : Int64)) + (1 : Int64)) = ((z0 - (8 : Int64)) + (1 : Int64)) := rfl
        have hg246 : ((z0 - (8 : Int64)) + (0 : Int64)) = (z0 - (8 : Int64)) := (own_f0 _)
        obtain ⟨cq32, kq32, q32a, q32b, q32c⟩ := isOf hZ e31 (ER28)
        obtain ⟨_, _, ⟨T32, L32, k32, n32⟩, -, X32, ⟨Lc32, hQ32, l32, y32, z32⟩, st32⟩ := X31.virtualBack hx (y := my_7) (z := my_7) hown (mvT hZ (wq hw 59 rfl)) (mvT hZ (wq hw 44 rfl)) (notFace_of_selects (args := #[]) (mvT hZ (wq hw 46 rfl))) (mvT hZ (wq hw 46 rfl)) (mvT hZ (wq hw 45 rfl)) (by decide) (backOf (W := 0) (rm_get_2_0_RRN_1 l Z a0 hw [] b10 bb22 kk22 r6 r8 (z0 - (8 : Int64)) T28.heap n0 O29 R28 ((z0 - (8 : Int64)) + (1 : Int64)) (own_ge2 he246 hg246 hf (by decide) (by decide)) (own_sub2 he246 hg246 (by decide))) hZ (wq hw 47 rfl) (wq hw 10 rfl) (by decide) (by decide)) q32a q32c (g := (mkF m 246 #[.val (.long z0), .second, .val (.int p1), .val (.int p2), .val (.int p3), .val (.int p4), .val (.long (z0 - (8 : Int64))), .second, .val (.int (0 : Int32)), .val (.int (0 : Int32)), .val (.ref r4), .val (.ref r6), .val (.ref r8), .val (.ref b10), .val (.int (2 : Int32)), .val (.long ((z0 - (8 : Int64)) + (0 : Int64))), .second, .val (.long ((z0 - (8 : Int64)) + (1 : Int64))), .second, .val (.long (((z0 - (8 : Int64)) + (1 : Int64)) - (1 : Int64))), .second, .val (.ref r6), .val (.int (1 : Int32))] [(.long ((z0 - (8 : Int64)) + (1 : Int64))), (.ref b10)])) rfl (by rw [hml]; rfl) (Steps.refl _) (argsL := [(.long ((z0 - (8 : Int64)) + (1 : Int64)))]) (rest := []) (lenOf pd_7 rfl) rfl (by show 2 * 0 + _ ≤ _; exact Nat.le_of_eq rfl) (hb hby at_246) (fun _ _ => ⟨rfl, e31, (by decide : 5 + 0 ≤ _), (by decide : 23 + 0 ≤ _)⟩)
        dsimp only [Pt.U, Pt.locs, Pt.cells, Pt.slots] at X32 l32 y32 z32 st32 hQ32
        have X32 := own_to X32 l32 y32 z32
        obtain ⟨rfl, N32q, e32⟩ := hQ32
        have N32 := Fr.app N31 N32q
        have he270 : (((z0 - (8 : Int64)) + (1 : Int64)) - (1 : Int64)) = ((z0 - (8 : Int64)) + (0 : Int64)) := (own_f1 _ _ _ _ (by decide))
        have hg270 : ((z0 - (8 : Int64)) + (0 : Int64)) = (z0 - (8 : Int64)) := (own_f0 _)
        obtain ⟨cq33, kq33, q33a, q33b, q33c⟩ := isOf hZ e32 (ER28)
        obtain ⟨_, _, ⟨T33, L33, k33, n33⟩, -, X33, ⟨Lc33, hQ33, l33, y33, z33⟩, st33⟩ := X32.virtualBack hx (y := my_7) (z := my_7) hown (mvT hZ (wq hw 59 rfl)) (mvT hZ (wq hw 44 rfl)) (notFace_of_selects (args := #[]) (mvT hZ (wq hw 46 rfl))) (mvT hZ (wq hw 46 rfl)) (mvT hZ (wq hw 45 rfl)) (by decide) (backOf (W := 0) (rm_get_2_0_RRN_0 l Z a0 hw [] b10 bb22 kk22 r6 r8 (z0 - (8 : Int64)) T28.heap n0 O29 R28 (((z0 - (8 : Int64)) + (1 : Int64)) - (1 : Int64)) (own_ge2 he270 hg270 hf (by decide) (by decide)) (own_sub2 he270 hg270 (by decide))) hZ (wq hw 47 rfl) (wq hw 10 rfl) (by decide) (by decide)) q33a q33c (g := (mkF m 270 #[.val (.long z0), .second, .val (.int p1), .val (.int p2), .val (.int p3), .val (.int p4), .val (.long (z0 - (8 : Int64))), .second, .val (.int (0 : Int32)), .val (.int (0 : Int32)), .val (.ref r4), .val (.ref r6), .val (.ref r8), .val (.ref b10), .val (.int (2 : Int32)), .val (.long ((z0 - (8 : Int64)) + (0 : Int64))), .second, .val (.long ((z0 - (8 : Int64)) + (1 : Int64))), .second, .val (.long (((z0 - (8 : Int64)) + (1 : Int64)) - (1 : Int64))), .second, .val (.ref r6), .val (.int (1 : Int32))] [(.long (((z0 - (8 : Int64)) + (1 : Int64)) - (1 : Int64))), (.ref b10)])) rfl (by rw [hml]; rfl) (Steps.refl _) (argsL := [(.long (((z0 - (8 : Int64)) + (1 : Int64)) - (1 : Int64)))]) (rest := []) (lenOf pd_7 rfl) rfl (by show 2 * 0 + _ ≤ _; exact Nat.le_of_eq rfl) (hb hby at_270) (fun _ _ => ⟨rfl, e32, (by decide : 5 + 0 ≤ _), (by decide : 23 + 0 ≤ _)⟩)
        dsimp only [Pt.U, Pt.locs, Pt.cells, Pt.slots] at X33 l33 y33 z33 st33 hQ33
        have X33 := own_to X33 l33 y33 z33
        obtain ⟨rfl, N33q, e33⟩ := hQ33
        have N33 := Fr.app N32 N33q
        have he296 : (((z0 - (8 : Int64)) + (1 : Int64)) + (1 : Int64)) = ((z0 - (8 : Int64)) + (2 : Int64)) := (own_f2 _ _ _ _ (by decide))
        have hg296 : ((z0 - (8 : Int64)) + (0 : Int64)) = (z0 - (8 : Int64)) := (own_f0 _)
        obtain ⟨cq34, kq34, q34a, q34b, q34c⟩ := isOf hZ e33 (ER28)
        obtain ⟨_, _, ⟨T34, L34, k34, n34⟩, -, X34, ⟨Lc34, hQ34, l34, y34, z34⟩, st34⟩ := X33.virtualBack hx (y := my_7) (z := my_7) hown (mvT hZ (wq hw 59 rfl)) (mvT hZ (wq hw 44 rfl)) (notFace_of_selects (args := #[]) (mvT hZ (wq hw 46 rfl))) (mvT hZ (wq hw 46 rfl)) (mvT hZ (wq hw 45 rfl)) (by decide) (backOf (W := 0) (rm_get_2_0_RRN_hi l Z a0 hw [] b10 bb22 kk22 r6 r8 (z0 - (8 : Int64)) T28.heap n0 O29 R28 (((z0 - (8 : Int64)) + (1 : Int64)) + (1 : Int64)) (own_ge2 he296 hg296 hf (by decide) (by decide)) (own_sub2 he296 hg296 (by decide))) hZ (wq hw 47 rfl) (wq hw 10 rfl) (by decide) (by decide)) q34a q34c (g := (mkF m 296 #[.val (.long z0), .second, .val (.int p1), .val (.int p2), .val (.int p3), .val (.int p4), .val (.long (z0 - (8 : Int64))), .second, .val (.int (0 : Int32)), .val (.int (0 : Int32)), .val (.ref r4), .val (.ref r6), .val (.ref r8), .val (.ref b10), .val (.int (2 : Int32)), .val (.long ((z0 - (8 : Int64)) + (0 : Int64))), .second, .val (.long ((z0 - (8 : Int64)) + (1 : Int64))), .second, .val (.long (((z0 - (8 : Int64)) + (1 : Int64)) - (1 : Int64))), .second, .val (.ref r6), .val (.int (1 : Int32))] [(.long (((z0 - (8 : Int64)) + (1 : Int64)) + (1 : Int64))), (.ref b10)])) rfl (by rw [hml]; rfl) (Steps.refl _) (argsL := [(.long (((z0 - (8 : Int64)) + (1 : Int64)) + (1 : Int64)))]) (rest := []) (lenOf pd_7 rfl) rfl (by show 2 * 0 + _ ≤ _; exact Nat.le_of_eq rfl) (hb hby at_296) (fun _ _ => ⟨rfl, e33, (by decide : 5 + 0 ≤ _), (by decide : 23 + 0 ≤ _)⟩)
        dsimp only [Pt.U, Pt.locs, Pt.cells, Pt.slots] at X34 l34 y34 z34 st34 hQ34
        have X34 := own_to X34 l34 y34 z34
        obtain ⟨rfl, N34q, e34⟩ := hQ34
        have N34 := Fr.app N33 N34q
        obtain ⟨fs, hr, hrun, hended, hW, hsame⟩ := X34.leave (v := (some (.int (1 : Int32)))) (fun h => by rw [Bd.returns] at h; cases h)
        refine ⟨_, _, gp3 _ ?_, hrun, hended, _, _, rfl, ?_, ⟨_, rfl⟩, hW, hsame.mono (by decide) (by decide)⟩
        · refine XS.ifYes X0.here hx rfl (pc0 := 37) (pc' := 44) rfl (hb hby at_37) rfl ((if0 _ _).trans (teq hc37).1) (by decide) (by decide) ?_
          refine XS.iconst X0.here hx rfl (hb hby at_44) ?_
          refine XS.istore X0.here hx rfl (hb hby at_45) rfl (l' := #[.val (.long z0), .second, .val (.int p1), .val (.int p2), .val (.int p3), .val (.int p4), .val (.long (z0 - (8 : Int64))), .second, .val (.int (0 : Int32)), .val (.int (0 : Int32)), .unset, .unset, .unset, .unset, .unset, .unset, .unset, .unset, .unset, .unset, .unset, .unset, .unset]) rfl ?_
          refine XS.iloadN X0.here hx rfl (hb hby at_47) rfl ?_
          show Steps p.tables e below (s₁.setTop (mkF m 48 #[.val (.long z0), .second, .val (.int p1), .val (.int p2), .val (.int p3), .val (.int p4), .val (.long (z0 - (8 : Int64))), .second, .val (.int (0 : Int32)), .val (.int (0 : Int32)), .unset, .unset, .unset, .unset, .unset, .unset, .unset, .unset, .unset, .unset, .unset, .unset, .unset] [(.int p1)])) _
          refine st4 _ ?_
          refine XS.astore X4.here hx rfl (hb hby at_51) rfl rfl (l' := #[.val (.long z0), .second, .val (.int p1), .val (.int p2), .val (.int p3), .val (.int p4), .val (.long (z0 - (8 : Int64))), .second, .val (.int (0 : Int32)), .val (.int (0 : Int32)), .val (.ref r4), .unset, .unset, .unset, .unset, .unset, .unset, .unset, .unset, .unset, .unset, .unset, .unset]) rfl ?_
          refine XS.iloadN X4.here hx rfl (hb hby at_53) rfl ?_
          refine st6 _ ?_
          refine XS.astore X6.here hx rfl (hb hby at_57) rfl rfl (l' := #[.val (.long z0), .second, .val (.int p1), .val (.int p2), .val (.int p3), .val (.int p4), .val (.long (z0 - (8 : Int64))), .second, .val (.int (0 : Int32)), .val (.int (0 : Int32)), .val (.ref r4), .val (.ref r6), .unset, .unset, .unset, .unset, .unset, .unset, .unset, .unset, .unset, .unset, .unset]) rfl ?_
          refine XS.iload X6.here hx rfl (hb hby at_59) rfl ?_
          show Steps p.tables e below (T6.setTop (mkF m 61 #[.val (.long z0), .second, .val (.int p1), .val (.int p2), .val (.int p3), .val (.int p4), .val (.long (z0 - (8 : Int64))), .second, .val (.int (0 : Int32)), .val (.int (0 : Int32)), .val (.ref r4), .val (.ref r6), .unset, .unset, .unset, .unset, .unset, .unset, .unset, .unset, .unset, .unset, .unset] [(.int p3)])) _
          refine st8 _ ?_
          refine XS.astore X8.here hx rfl (hb hby at_64) rfl rfl (l' := #[.val (.long z0), .second, .val (.int p1), .val (.int p2), .val (.int p3), .val (.int p4), .val (.long (z0 - (8 : Int64))), .second, .val (.int (0 : Int32)), .val (.int (0 : Int32)), .val (.ref r4), .val (.ref r6), .val (.ref r8), .unset, .unset, .unset, .unset, .unset, .unset, .unset, .unset, .unset, .unset]) rfl ?_
          refine st10 _ ?_
          refine XS.dup X10.here hx rfl (hb hby at_69) rfl rfl ?_
          refine XS.lload X10.here hx rfl (hb hby at_70) rfl ?_
          refine st22.trans ?_
          show Steps p.tables e below (T22.setTop (mkF m 75 #[.val (.long z0), .second, .val (.int p1), .val (.int p2), .val (.int p3), .val (.int p4), .val (.long (z0 - (8 : Int64))), .second, .val (.int (0 : Int32)), .val (.int (0 : Int32)), .val (.ref r4), .val (.ref r6), .val (.ref r8), .unset, .unset, .unset, .unset, .unset, .unset, .unset, .unset, .unset, .unset] [(.ref b10)])) _
          refine XS.astore X22.here hx rfl (hb hby at_75) rfl rfl (l' := #[.val (.long z0), .second, .val (.int p1), .val (.int p2), .val (.int p3), .val (.int p4), .val (.long (z0 - (8 : Int64))), .second, .val (.int (0 : Int32)), .val (.int (0 : Int32)), .val (.ref r4), .val (.ref r6), .val (.ref r8), .val (.ref b10), .unset, .unset, .unset, .unset, .unset, .unset, .unset, .unset, .unset]) rfl ?_
          refine XS.iload X22.here hx rfl (hb hby at_77) rfl ?_
          refine XS.ifYes X22.here hx rfl (pc0 := 79) (pc' := 89) rfl (hb hby at_79) rfl ((if0 _ _).trans (teq (by decide : (0 : Int32) = (0 : Int32))).1) (by decide) (by decide) ?_
          refine XS.aload X22.here hx rfl (hb hby at_89) rfl rfl ?_
          refine XS.aload X22.here hx rfl (hb hby at_91) rfl rfl ?_
          refine st25.trans ?_
          show Steps p.tables e below (T25.setTop (mkF m 96 #[.val (.long z0), .second, .val (.int p1), .val (.int p2), .val (.int p3), .val (.int p4), .val (.long (z0 - (8 : Int64))), .second, .val (.int (0 : Int32)), .val (.int (0 : Int32)), .val (.ref r4), .val (.ref r6), .val (.ref r8), .val (.ref b10), .unset, .unset, .unset, .unset, .unset, .unset, .unset, .unset, .unset] [])) _
          refine XS.iload X25.here hx rfl (hb hby at_96) rfl ?_
          refine XS.ifYes X25.here hx rfl (pc0 := 98) (pc' := 107) rfl (hb hby at_98) rfl ((if0 _ _).trans (teq (by decide : (0 : Int32) = (0 : Int32))).1) (by decide) (by decide) ?_
          refine XS.aload X25.here hx rfl (hb hby at_107) rfl rfl ?_
          refine XS.aload X25.here hx rfl (hb hby at_109) rfl rfl ?_
          refine st28.trans ?_
          refine XS.iload X28.here hx rfl (hb hby at_114) rfl ?_
          show Steps p.tables e below (T28.setTop (mkF m 116 #[.val (.long z0), .second, .val (.int p1), .val (.int p2), .val (.int p3), .val (.int p4), .val (.long (z0 - (8 : Int64))), .second, .val (.int (0 : Int32)), .val (.int (0 : Int32)), .val (.ref r4), .val (.ref r6), .val (.ref r8), .val (.ref b10), .unset, .unset, .unset, .unset, .unset, .unset, .unset, .unset, .unset] [(.int (0 : Int32))])) _
          refine XS.ifYes X28.here hx rfl (pc0 := 116) (pc' := 123) rfl (hb hby at_116) rfl ((if0 _ _).trans (teq (by decide : (0 : Int32) = (0 : Int32))).1) (by decide) (by decide) ?_
          refine XS.iconst X28.here hx rfl (hb hby at_123) ?_
          refine XS.iconst X28.here hx rfl (hb hby at_124) ?_
          refine XS.iadd X28.here hx rfl (hb hby at_125) rfl ?_
          show Steps p.tables e below (T28.setTop (mkF m 126 #[.val (.long z0), .second, .val (.int p1), .val (.int p2), .val (.int p3), .val (.int p4), .val (.long (z0 - (8 : Int64))), .second, .val (.int (0 : Int32)), .val (.int (0 : Int32)), .val (.ref r4), .val (.ref r6), .val (.ref r8), .val (.ref b10), .unset, .unset, .unset, .unset, .unset, .unset, .unset, .unset, .unset] [(.int (1 : Int32))])) _
          refine XS.iload X28.here hx rfl (hb hby at_126) rfl ?_
          refine XS.ifYes X28.here hx rfl (pc0 := 128) (pc' := 135) rfl (hb hby at_128) rfl ((if0 _ _).trans (teq (by decide : (0 : Int32) = (0 : Int32))).1) (by decide) (by decide) ?_
          show Steps p.tables e below (T28.setTop (mkF m 135 #[.val (.long z0), .second, .val (.int p1), .val (.int p2), .val (.int p3), .val (.int p4), .val (.long (z0 - (8 : Int64))), .second, .val (.int (0 : Int32)), .val (.int (0 : Int32)), .val (.ref r4), .val (.ref r6), .val (.ref r8), .val (.ref b10), .unset, .unset, .unset, .unset, .unset, .unset, .unset, .unset, .unset] [(.int (1 : Int32))])) _
          refine XS.iconst X28.here hx rfl (hb hby at_135) ?_
          refine XS.isub X28.here hx rfl (hb hby at_136) rfl ?_
          show Steps p.tables e below (T28.setTop (mkF m 137 #[.val (.long z0), .second, .val (.int p1), .val (.int p2), .val (.int p3), .val (.int p4), .val (.long (z0 - (8 : Int64))), .second, .val (.int (0 : Int32)), .val (.int (0 : Int32)), .val (.ref r4), .val (.ref r6), .val (.ref r8), .val (.ref b10), .unset, .unset, .unset, .unset, .unset, .unset, .unset, .unset, .unset] [(.int (1 : Int32))])) _
          refine XS.iconst X28.here hx rfl (hb hby at_137) ?_
          refine XS.iadd X28.here hx rfl (hb hby at_138) rfl ?_
          show Steps p.tables e below (T28.setTop (mkF m 139 #[.val (.long z0), .second, .val (.int p1), .val (.int p2), .val (.int p3), .val (.int p4), .val (.long (z0 - (8 : Int64))), .second, .val (.int (0 : Int32)), .val (.int (0 : Int32)), .val (.ref r4), .val (.ref r6), .val (.ref r8), .val (.ref b10), .unset, .unset, .unset, .unset, .unset, .unset, .unset, .unset, .unset] [(.int (2 : Int32))])) _
          refine XS.istore X28.here hx rfl (hb hby at_139) rfl (l' := #[.val (.long z0), .second, .val (.int p1), .val (.int p2), .val (.int p3), .val (.int p4), .val (.long (z0 - (8 : Int64))), .second, .val (.int (0 : Int32)), .val (.int (0 : Int32)), .val (.ref r4), .val (.ref r6), .val (.ref r8), .val (.ref b10), .val (.int (2 : Int32)), .unset, .unset, .unset, .unset, .unset, .unset, .unset, .unset]) rfl ?_
          refine XS.lload X28.here hx rfl (hb hby at_141) rfl ?_
          show Steps p.tables e below (T28.setTop (mkF m 143 #[.val (.long z0), .second, .val (.int p1), .val (.int p2), .val (.int p3), .val (.int p4), .val (.long (z0 - (8 : Int64))), .second, .val (.int (0 : Int32)), .val (.int (0 : Int32)), .val (.ref r4), .val (.ref r6), .val (.ref r8), .val (.ref b10), .val (.int (2 : Int32)), .unset, .unset, .unset, .unset, .unset, .unset, .unset, .unset] [(.long (z0 - (8 : Int64)))])) _
          refine XS.iload X28.here hx rfl (hb hby at_143) rfl ?_
          refine XS.ifYes X28.here hx rfl (pc0 := 145) (pc' := 152) rfl (hb hby at_145) rfl ((if0 _ _).trans (teq (by decide : (0 : Int32) = (0 : Int32))).1) (by decide) (by decide) ?_
          refine XS.lconst X28.here hx rfl (hb hby at_152) ?_
          refine XS.ladd X28.here hx rfl (hb hby at_153) rfl ?_
          refine XS.lstore X28.here hx rfl (hb hby at_154) rfl (l' := #[.val (.long z0), .second, .val (.int p1), .val (.int p2), .val (.int p3), .val (.int p4), .val (.long (z0 - (8 : Int64))), .second, .val (.int (0 : Int32)), .val (.int (0 : Int32)), .val (.ref r4), .val (.ref r6), .val (.ref r8), .val (.ref b10), .val (.int (2 : Int32)), .val (.long ((z0 - (8 : Int64)) + (0 : Int64))), .second, .unset, .unset, .unset, .unset, .unset, .unset]) rfl ?_
          refine XS.lload X28.here hx rfl (hb hby at_156) rfl ?_
          show Steps p.tables e below (T28.setTop (mkF m 158 #[.val (.long z0), .second, .val (.int p1), .val (.int p2), .val (.int p3), .val (.int p4), .val (.long (z0 - (8 : Int64))), .second, .val (.int (0 : Int32)), .val (.int (0 : Int32)), .val (.ref r4), .val (.ref r6), .val (.ref r8), .val (.ref b10), .val (.int (2 : Int32)), .val (.long ((z0 - (8 : Int64)) + (0 : Int64))), .second, .unset, .unset, .unset, .unset, .unset, .unset] [(.long (z0 - (8 : Int64)))])) _
          refine XS.iload X28.here hx rfl (hb hby at_158) rfl ?_
          refine XS.ifYes X28.here hx rfl (pc0 := 160) (pc' := 169) rfl (hb hby at_160) rfl ((if0 _ _).trans (teq (by decide : (0 : Int32) = (0 : Int32))).1) (by decide) (by decide) ?_
          refine XS.lconst X28.here hx rfl (hb hby at_169) ?_
          refine XS.ladd X28.here hx rfl (hb hby at_170) rfl ?_
          refine XS.lstore X28.here hx rfl (hb hby at_171) rfl (l' := #[.val (.long z0), .second, .val (.int p1), .val (.int p2), .val (.int p3), .val (.int p4), .val (.long (z0 - (8 : Int64))), .second, .val (.int (0 : Int32)), .val (.int (0 : Int32)), .val (.ref r4), .val (.ref r6), .val (.ref r8), .val (.ref b10), .val (.int (2 : Int32)), .val (.long ((z0 - (8 : Int64)) + (0 : Int64))), .second, .val (.long ((z0 - (8 : Int64)) + (1 : Int64))), .second, .unset, .unset, .unset, .unset]) rfl ?_
          refine XS.lload X28.here hx rfl (hb hby at_173) rfl ?_
          show Steps p.tables e below (T28.setTop (mkF m 175 #[.val (.long z0), .second, .val (.int p1), .val (.int p2), .val (.int p3), .val (.int p4), .val (.long (z0 - (8 : Int64))), .second, .val (.int (0 : Int32)), .val (.int (0 : Int32)), .val (.ref r4), .val (.ref r6), .val (.ref r8), .val (.ref b10), .val (.int (2 : Int32)), .val (.long ((z0 - (8 : Int64)) + (0 : Int64))), .second, .val (.long ((z0 - (8 : Int64)) + (1 : Int64))), .second, .unset, .unset, .unset, .unset] [(.long ((z0 - (8 : Int64)) + (1 : Int64)))])) _
          refine XS.lconst X28.here hx rfl (hb hby at_175) ?_
          refine XS.lsub X28.here hx rfl (hb hby at_176) rfl ?_
          refine XS.lstore X28.here hx rfl (hb hby at_177) rfl (l' := #[.val (.long z0), .second, .val (.int p1), .val (.int p2), .val (.int p3), .val (.int p4), .val (.long (z0 - (8 : Int64))), .second, .val (.int (0 : Int32)), .val (.int (0 : Int32)), .val (.ref r4), .val (.ref r6), .val (.ref r8), .val (.ref b10), .val (.int (2 : Int32)), .val (.long ((z0 - (8 : Int64)) + (0 : Int64))), .second, .val (.long ((z0 - (8 : Int64)) + (1 : Int64))), .second, .val (.long (((z0 - (8 : Int64)) + (1 : Int64)) - (1 : Int64))), .second, .unset, .unset]) rfl ?_
          refine XS.iload X28.here hx rfl (hb hby at_179) rfl ?_
          refine XS.ifYes X28.here hx rfl (pc0 := 181) (pc' := 193) rfl (hb hby at_181) rfl ((if0 _ _).trans (teq (by decide : (0 : Int32) = (0 : Int32))).1) (by decide) (by decide) ?_
          refine XS.aload X28.here hx rfl (hb hby at_193) rfl rfl ?_
          show Steps p.tables e below (T28.setTop (mkF m 195 #[.val (.long z0), .second, .val (.int p1), .val (.int p2), .val (.int p3), .val (.int p4), .val (.long (z0 - (8 : Int64))), .second, .val (.int (0 : Int32)), .val (.int (0 : Int32)), .val (.ref r4), .val (.ref r6), .val (.ref r8), .val (.ref b10), .val (.int (2 : Int32)), .val (.long ((z0 - (8 : Int64)) + (0 : Int64))), .second, .val (.long ((z0 - (8 : Int64)) + (1 : Int64))), .second, .val (.long (((z0 - (8 : Int64)) + (1 : Int64)) - (1 : Int64))), .second, .unset, .unset] [(.ref r6)])) _
          refine XS.astore X28.here hx rfl (hb hby at_195) rfl rfl (l' := #[.val (.long z0), .second, .val (.int p1), .val (.int p2), .val (.int p3), .val (.int p4), .val (.long (z0 - (8 : Int64))), .second, .val (.int (0 : Int32)), .val (.int (0 : Int32)), .val (.ref r4), .val (.ref r6), .val (.ref r8), .val (.ref b10), .val (.int (2 : Int32)), .val (.long ((z0 - (8 : Int64)) + (0 : Int64))), .second, .val (.long ((z0 - (8 : Int64)) + (1 : Int64))), .second, .val (.long (((z0 - (8 : Int64)) + (1 : Int64)) - (1 : Int64))), .second, .val (.ref r6), .unset]) rfl ?_
          refine XS.aload X28.here hx rfl (hb hby at_197) rfl rfl ?_
          refine st30.trans ?_
          refine XS.iload X30.here hx rfl (hb hby at_202) rfl ?_
          refine XS.icmpNo X30.here hx rfl (hb hby at_204) rfl (teq (by decide : (2 : Int32) = (2 : Int32))).2 ?_
          refine XS.iconst X30.here hx rfl (hb hby at_207) ?_
          show Steps p.tables e below (T30.setTop (mkF m 208 #[.val (.long z0), .second, .val (.int p1), .val (.int p2), .val (.int p3), .val (.int p4), .val (.long (z0 - (8 : Int64))), .second, .val (.int (0 : Int32)), .val (.int (0 : Int32)), .val (.ref r4), .val (.ref r6), .val (.ref r8), .val (.ref b10), .val (.int (2 : Int32)), .val (.long ((z0 - (8 : Int64)) + (0 : Int64))), .second, .val (.long ((z0 - (8 : Int64)) + (1 : Int64))), .second, .val (.long (((z0 - (8 : Int64)) + (1 : Int64)) - (1 : Int64))), .second, .val (.ref r6), .unset] [(.int (1 : Int32))])) _
          refine XS.goto X30.here hx rfl (pc0 := 208) (pc' := 212) rfl (hb hby at_208) (by decide) (by decide) ?_
          refine XS.istore X30.here hx rfl (hb hby at_212) rfl (l' := #[.val (.long z0), .second, .val (.int p1), .val (.int p2), .val (.int p3), .val (.int p4), .val (.long (z0 - (8 : Int64))), .second, .val (.int (0 : Int32)), .val (.int (0 : Int32)), .val (.ref r4), .val (.ref r6), .val (.ref r8), .val (.ref b10), .val (.int (2 : Int32)), .val (.long ((z0 - (8 : Int64)) + (0 : Int64))), .second, .val (.long ((z0 - (8 : Int64)) + (1 : Int64))), .second, .val (.long (((z0 - (8 : Int64)) + (1 : Int64)) - (1 : Int64))), .second, .val (.ref r6), .val (.int (1 : Int32))]) rfl ?_
          refine XS.iload X30.here hx rfl (hb hby at_214) rfl ?_
          refine XS.ifNo X30.here hx rfl (hb hby at_216) rfl ((if0 _ _).trans (feq (by decide : ¬ ((1 : Int32) = (0 : Int32)))).1) ?_
          refine XS.aload X30.here hx rfl (hb hby at_219) rfl rfl ?_
          refine st31.trans ?_
          show Steps p.tables e below (T31.setTop (mkF m 224 #[.val (.long z0), .second, .val (.int p1), .val (.int p2), .val (.int p3), .val (.int p4), .val (.long (z0 - (8 : Int64))), .second, .val (.int (0 : Int32)), .val (.int (0 : Int32)), .val (.ref r4), .val (.ref r6), .val (.ref r8), .val (.ref b10), .val (.int (2 : Int32)), .val (.long ((z0 - (8 : Int64)) + (0 : Int64))), .second, .val (.long ((z0 - (8 : Int64)) + (1 : Int64))), .second, .val (.long (((z0 - (8 : Int64)) + (1 : Int64)) - (1 : Int64))), .second, .val (.ref r6), .val (.int (1 : Int32))] [(.long (z0 - (8 : Int64)))])) _
          refine XS.lload X31.here hx rfl (hb hby at_224) rfl ?_
          refine XS.lcmp X31.here hx rfl (hb hby at_226) rfl ?_
          refine XS.ifNo X31.here hx rfl (hb hby at_227) rfl ((if0 _ _).trans (teq ((lw_eq _ _).mpr (own_f0 _).symm)).2) ?_
          refine XS.iconst X31.here hx rfl (hb hby at_230) ?_
          refine XS.goto X31.here hx rfl (pc0 := 231) (pc' := 235) rfl (hb hby at_231) (by decide) (by decide) ?_
          refine XS.istore X31.here hx rfl (hb hby at_235) rfl (l' := #[.val (.long z0), .second, .val (.int p1), .val (.int p2), .val (.int p3), .val (.int p4), .val (.long (z0 - (8 : Int64))), .second, .val (.int (0 : Int32)), .val (.int (0 : Int32)), .val (.ref r4), .val (.ref r6), .val (.ref r8), .val (.ref b10), .val (.int (2 : Int32)), .val (.long ((z0 - (8 : Int64)) + (0 : Int64))), .second, .val (.long ((z0 - (8 : Int64)) + (1 : Int64))), .second, .val (.long (((z0 - (8 : Int64)) + (1 : Int64)) - (1 : Int64))), .second, .val (.ref r6), .val (.int (1 : Int32))]) rfl ?_
          show Steps p.tables e below (T31.setTop (mkF m 237 #[.val (.long z0), .second, .val (.int p1), .val (.int p2), .val (.int p3), .val (.int p4), .val (.long (z0 - (8 : Int64))), .second, .val (.int (0 : Int32)), .val (.int (0 : Int32)), .val (.ref r4), .val (.ref r6), .val (.ref r8), .val (.ref b10), .val (.int (2 : Int32)), .val (.long ((z0 - (8 : Int64)) + (0 : Int64))), .second, .val (.long ((z0 - (8 : Int64)) + (1 : Int64))), .second, .val (.long (((z0 - (8 : Int64)) + (1 : Int64)) - (1 : Int64))), .second, .val (.ref r6), .val (.int (1 : Int32))] [])) _
          refine XS.iload X31.here hx rfl (hb hby at_237) rfl ?_
          refine XS.ifNo X31.here hx rfl (hb hby at_239) rfl ((if0 _ _).trans (feq (by decide : ¬ ((1 : Int32) = (0 : Int32)))).1) ?_
          refine XS.aload X31.here hx rfl (hb hby at_242) rfl rfl ?_
          refine XS.lload X31.here hx rfl (hb hby at_244) rfl ?_
          refine st32.trans ?_
          refine XS.aload X32.here hx rfl (hb hby at_249) rfl rfl ?_
          show Steps p.tables e below (T32.setTop (mkF m 251 #[.val (.long z0), .second, .val (.int p1), .val (.int p2), .val (.int p3), .val (.int p4), .val (.long (z0 - (8 : Int64))), .second, .val (.int (0 : Int32)), .val (.int (0 : Int32)), .val (.ref r4), .val (.ref r6), .val (.ref r8), .val (.ref b10), .val (.int (2 : Int32)), .val (.long ((z0 - (8 : Int64)) + (0 : Int64))), .second, .val (.long ((z0 - (8 : Int64)) + (1 : Int64))), .second, .val (.long (((z0 - (8 : Int64)) + (1 : Int64)) - (1 : Int64))), .second, .val (.ref r6), .val (.int (1 : Int32))] [(.ref r8), (.ref r8)])) _
          refine Jvm.RoadKit.acmp (g := (mkF m 251 #[.val (.long z0), .second, .val (.int p1), .val (.int p2), .val (.int p3), .val (.int p4), .val (.long (z0 - (8 : Int64))), .second, .val (.int (0 : Int32)), .val (.int (0 : Int32)), .val (.ref r4), .val (.ref r6), .val (.ref r8), .val (.ref b10), .val (.int (2 : Int32)), .val (.long ((z0 - (8 : Int64)) + (0 : Int64))), .second, .val (.long ((z0 - (8 : Int64)) + (1 : Int64))), .second, .val (.long (((z0 - (8 : Int64)) + (1 : Int64)) - (1 : Int64))), .second, .val (.ref r6), .val (.int (1 : Int32))] [(.ref r8), (.ref r8)])) X32 hx rfl rfl rfl (pc0 := 251) (pc' := 254) (same := true) rfl (hb hby at_251) rfl (decide_eq_true rfl) (by decide) (by decide) ?_
          refine XS.iconst X32.here hx rfl (hb hby at_254) ?_
          refine XS.goto X32.here hx rfl (pc0 := 255) (pc' := 259) rfl (hb hby at_255) (by decide) (by decide) ?_
          refine XS.istore X32.here hx rfl (hb hby at_259) rfl (l' := #[.val (.long z0), .second, .val (.int p1), .val (.int p2), .val (.int p3), .val (.int p4), .val (.long (z0 - (8 : Int64))), .second, .val (.int (0 : Int32)), .val (.int (0 : Int32)), .val (.ref r4), .val (.ref r6), .val (.ref r8), .val (.ref b10), .val (.int (2 : Int32)), .val (.long ((z0 - (8 : Int64)) + (0 : Int64))), .second, .val (.long ((z0 - (8 : Int64)) + (1 : Int64))), .second, .val (.long (((z0 - (8 : Int64)) + (1 : Int64)) - (1 : Int64))), .second, .val (.ref r6), .val (.int (1 : Int32))]) rfl ?_
          refine XS.iload X32.here hx rfl (hb hby at_261) rfl ?_
          refine XS.ifNo X32.here hx rfl (hb hby at_263) rfl ((if0 _ _).trans (feq (by decide : ¬ ((1 : Int32) = (0 : Int32)))).1) ?_
          show Steps p.tables e below (T32.setTop (mkF m 266 #[.val (.long z0), .second, .val (.int p1), .val (.int p2), .val (.int p3), .val (.int p4), .val (.long (z0 - (8 : Int64))), .second, .val (.int (0 : Int32)), .val (.int (0 : Int32)), .val (.ref r4), .val (.ref r6), .val (.ref r8), .val (.ref b10), .val (.int (2 : Int32)), .val (.long ((z0 - (8 : Int64)) + (0 : Int64))), .second, .val (.long ((z0 - (8 : Int64)) + (1 : Int64))), .second, .val (.long (((z0 - (8 : Int64)) + (1 : Int64)) - (1 : Int64))), .second, .val (.ref r6), .val (.int (1 : Int32))] [])) _
          refine XS.aload X32.here hx rfl (hb hby at_266) rfl rfl ?_
          refine XS.lload X32.here hx rfl (hb hby at_268) rfl ?_
          refine st33.trans ?_
          refine XS.aload X33.here hx rfl (hb hby at_273) rfl rfl ?_
          refine Jvm.RoadKit.acmp (g := (mkF m 275 #[.val (.long z0), .second, .val (.int p1), .val (.int p2), .val (.int p3), .val (.int p4), .val (.long (z0 - (8 : Int64))), .second, .val (.int (0 : Int32)), .val (.int (0 : Int32)), .val (.ref r4), .val (.ref r6), .val (.ref r8), .val (.ref b10), .val (.int (2 : Int32)), .val (.long ((z0 - (8 : Int64)) + (0 : Int64))), .second, .val (.long ((z0 - (8 : Int64)) + (1 : Int64))), .second, .val (.long (((z0 - (8 : Int64)) + (1 : Int64)) - (1 : Int64))), .second, .val (.ref r6), .val (.int (1 : Int32))] [(.ref r6), (.ref r6)])) X33 hx rfl rfl rfl (pc0 := 275) (pc' := 278) (same := true) rfl (hb hby at_275) rfl (decide_eq_true rfl) (by decide) (by decide) ?_
          refine XS.iconst X33.here hx rfl (hb hby at_278) ?_
          show Steps p.tables e below (T33.setTop (mkF m 279 #[.val (.long z0), .second, .val (.int p1), .val (.int p2), .val (.int p3), .val (.int p4), .val (.long (z0 - (8 : Int64))), .second, .val (.int (0 : Int32)), .val (.int (0 : Int32)), .val (.ref r4), .val (.ref r6), .val (.ref r8), .val (.ref b10), .val (.int (2 : Int32)), .val (.long ((z0 - (8 : Int64)) + (0 : Int64))), .second, .val (.long ((z0 - (8 : Int64)) + (1 : Int64))), .second, .val (.long (((z0 - (8 : Int64)) + (1 : Int64)) - (1 : Int64))), .second, .val (.ref r6), .val (.int (1 : Int32))] [(.int (1 : Int32))])) _
          refine XS.goto X33.here hx rfl (pc0 := 279) (pc' := 283) rfl (hb hby at_279) (by decide) (by decide) ?_
          refine XS.istore X33.here hx rfl (hb hby at_283) rfl (l' := #[.val (.long z0), .second, .val (.int p1), .val (.int p2), .val (.int p3), .val (.int p4), .val (.long (z0 - (8 : Int64))), .second, .val (.int (0 : Int32)), .val (.int (0 : Int32)), .val (.ref r4), .val (.ref r6), .val (.ref r8), .val (.ref b10), .val (.int (2 : Int32)), .val (.long ((z0 - (8 : Int64)) + (0 : Int64))), .second, .val (.long ((z0 - (8 : Int64)) + (1 : Int64))), .second, .val (.long (((z0 - (8 : Int64)) + (1 : Int64)) - (1 : Int64))), .second, .val (.ref r6), .val (.int (1 : Int32))]) rfl ?_
          refine XS.iload X33.here hx rfl (hb hby at_285) rfl ?_
          refine XS.ifNo X33.here hx rfl (hb hby at_287) rfl ((if0 _ _).trans (feq (by decide : ¬ ((1 : Int32) = (0 : Int32)))).1) ?_
          refine XS.aload X33.here hx rfl (hb hby at_290) rfl rfl ?_
          refine XS.lload X33.here hx rfl (hb hby at_292) rfl ?_
          show Steps p.tables e below (T33.setTop (mkF m 294 #[.val (.long z0), .second, .val (.int p1), .val (.int p2), .val (.int p3), .val (.int p4), .val (.long (z0 - (8 : Int64))), .second, .val (.int (0 : Int32)), .val (.int (0 : Int32)), .val (.ref r4), .val (.ref r6), .val (.ref r8), .val (.ref b10), .val (.int (2 : Int32)), .val (.long ((z0 - (8 : Int64)) + (0 : Int64))), .second, .val (.long ((z0 - (8 : Int64)) + (1 : Int64))), .second, .val (.long (((z0 - (8 : Int64)) + (1 : Int64)) - (1 : Int64))), .second, .val (.ref r6), .val (.int (1 : Int32))] [(.long ((z0 - (8 : Int64)) + (1 : Int64))), (.ref b10)])) _
          refine XS.lconst X33.here hx rfl (hb hby at_294) ?_
          refine XS.ladd X33.here hx rfl (hb hby at_295) rfl ?_
          refine st34.trans ?_
          refine XS.ifnonnullNo X34.here hx rfl (hb hby at_299) rfl ?_
          refine XS.iconst X34.here hx rfl (hb hby at_302) ?_
          refine XS.goto X34.here hx rfl (pc0 := 303) (pc' := 307) rfl (hb hby at_303) (by decide) (by decide) ?_
          show Steps p.tables e below (T34.setTop (mkF m 307 #[.val (.long z0), .second, .val (.int p1), .val (.int p2), .val (.int p3), .val (.int p4), .val (.long (z0 - (8 : Int64))), .second, .val (.int (0 : Int32)), .val (.int (0 : Int32)), .val (.ref r4), .val (.ref r6), .val (.ref r8), .val (.ref b10), .val (.int (2 : Int32)), .val (.long ((z0 - (8 : Int64)) + (0 : Int64))), .second, .val (.long ((z0 - (8 : Int64)) + (1 : Int64))), .second, .val (.long (((z0 - (8 : Int64)) + (1 : Int64)) - (1 : Int64))), .second, .val (.ref r6), .val (.int (1 : Int32))] [(.int (1 : Int32))])) _
          refine XS.istore X34.here hx rfl (hb hby at_307) rfl (l' := #[.val (.long z0), .second, .val (.int p1), .val (.int p2), .val (.int p3), .val (.int p4), .val (.long (z0 - (8 : Int64))), .second, .val (.int (0 : Int32)), .val (.int (0 : Int32)), .val (.ref r4), .val (.ref r6), .val (.ref r8), .val (.ref b10), .val (.int (2 : Int32)), .val (.long ((z0 - (8 : Int64)) + (0 : Int64))), .second, .val (.long ((z0 - (8 : Int64)) + (1 : Int64))), .second, .val (.long (((z0 - (8 : Int64)) + (1 : Int64)) - (1 : Int64))), .second, .val (.ref r6), .val (.int (1 : Int32))]) rfl ?_
          refine XS.iload X34.here hx rfl (hb hby at_309) rfl ?_
          exact retN X34 hx (t := .boolean) Bd.returns (by simp) (hb hby at_311) hr
        · show Q0 n0 _ T34.heap _
          rw [e34]
          exact ⟨rfl, N34⟩
      · obtain ⟨_, _, ⟨T35, L35, k35, n35⟩, -, X35, ⟨Lc35, hQ35, l35, y35, z35⟩, st35⟩ := Jvm.LawKit.callS X0 hx (y := my_2) hown (mvT hZ (wq hw 1 rfl)) (mvT hZ (wq hw 2 rfl)) (mvT hZ (wq hw 3 rfl)) (mvT hZ (wq hw 4 rfl)) (by decide) (backOf (W := 0) (rm_val l Z a0 hw [] ca cc hL p1 h0 n0 O0) hZ (wq hw 4 rfl) (wq hw 3 rfl) (by decide) (by decide)) (g := (mkF m 48 #[.val (.long z0), .second, .val (.int p1), .val (.int p2), .val (.int p3), .val (.int p4), .val (.long (z0 - (8 : Int64))), .second, .val (.int (0 : Int32)), .val (.int (1 : Int32)), .unset, .unset, .unset, .unset, .unset, .unset, .unset, .unset, .unset, .unset, .unset, .unset, .unset] [(.int p1)])) rfl (by rw [hml]; rfl) (argsL := [(.int p1)]) (rest := []) (lenOf pd_2 rfl) rfl (by show 2 * 0 + _ ≤ _; exact Nat.le_of_eq rfl) (hb hby at_48) (fun _ _ => ⟨rfl, e0, (by decide : 0 + 1 ≤ _), (by decide : 0 + 1 ≤ _)⟩)
        dsimp only [Pt.U, Pt.locs, Pt.cells, Pt.slots] at X35 l35 y35 z35 st35 hQ35
        have X35 := own_to X35 l35 y35 z35
        obtain ⟨r35, rfl, N35q, K35, E35q⟩ := hQ35
        have N35 := Fr.app N0 N35q
        have O36 : Old Z n0 T35.heap := Old.keep O0 K35 all0
        obtain ⟨_, _, ⟨T37, L37, k37, n37⟩, -, X37, ⟨Lc37, hQ37, l37, y37, z37⟩, st37⟩ := Jvm.LawKit.callS X35 hx (y := my_2) hown (mvT hZ (wq hw 1 rfl)) (mvT hZ (wq hw 2 rfl)) (mvT hZ (wq hw 3 rfl)) (mvT hZ (wq hw 4 rfl)) (by decide) (backOf (W := 0) (rm_val l Z a0 hw [] ca cc hL p2 T35.heap n0 O36) hZ (wq hw 4 rfl) (wq hw 3 rfl) (by decide) (by decide)) (g := (mkF m 54 #[.val (.long z0), .second, .val (.int p1), .val (.int p2), .val (.int p3), .val (.int p4), .val (.long (z0 - (8 : Int64))), .second, .val (.int (0 : Int32)), .val (.int (1 : Int32)), .val (.ref r35), .unset, .unset, .unset, .unset, .unset, .unset, .unset, .unset, .unset, .unset, .unset, .unset] [(.int p2)])) rfl (by rw [hml]; rfl) (argsL := [(.int p2)]) (rest := []) (lenOf pd_2 rfl) rfl (by show 2 * 0 + _ ≤ _; exact Nat.le_of_eq rfl) (hb hby at_54) (fun _ _ => ⟨rfl, rfl, (by decide : 1 + 1 ≤ _), (by decide : 1 + 1 ≤ _)⟩)
        dsimp only [Pt.U, Pt.locs, Pt.cells, Pt.slots] at X37 l37 y37 z37 st37 hQ37
        have X37 := own_to X37 l37 y37 z37
        obtain ⟨r37, rfl, N37q, K37, E37q⟩ := hQ37
        have N37 := Fr.app N35 N37q
        have O38 : Old Z n0 T37.heap := Old.keep O36 K37 all0
        obtain ⟨_, _, ⟨T39, L39, k39, n39⟩, -, X39, ⟨Lc39, hQ39, l39, y39, z39⟩, st39⟩ := Jvm.LawKit.callS X37 hx (y := my_2) hown (mvT hZ (wq hw 1 rfl)) (mvT hZ (wq hw 2 rfl)) (mvT hZ (wq hw 3 rfl)) (mvT hZ (wq hw 4 rfl)) (by decide) (backOf (W := 0) (rm_val l Z a0 hw [] ca cc hL p3 T37.heap n0 O38) hZ (wq hw 4 rfl) (wq hw 3 rfl) (by decide) (by decide)) (g := (mkF m 61 #[.val (.long z0), .second, .val (.int p1), .val (.int p2), .val (.int p3), .val (.int p4), .val (.long (z0 - (8 : Int64))), .second, .val (.int (0 : Int32)), .val (.int (1 : Int32)), .val (.ref r35), .val (.ref r37), .unset, .unset, .unset, .unset, .unset, .unset, .unset, .unset, .unset, .unset, .unset] [(.int p3)])) rfl (by rw [hml]; rfl) (argsL := [(.int p3)]) (rest := []) (lenOf pd_2 rfl) rfl (by show 2 * 0 + _ ≤ _; exact Nat.le_of_eq rfl) (hb hby at_61) (fun _ _ => ⟨rfl, rfl, (by decide : 2 + 1 ≤ _), (by decide : 2 + 1 ≤ _)⟩)
        dsimp only [Pt.U, Pt.locs, Pt.cells, Pt.slots] at X39 l39 y39 z39 st39 hQ39
        have X39 := own_to X39 l39 y39 z39
        obtain ⟨r39, rfl, N39q, K39, E39q⟩ := hQ39
        have N39 := Fr.app N37 N39q
        have O40 : Old Z n0 T39.heap := Old.keep O38 K39 all0
        obtain ⟨T41, h41, X41, e41, E41, A41, D41, -, st41⟩ := newO X39 hx hZ hown (wq hw 8 rfl) (wq hw 9 rfl) (wq hw 10 rfl) rfl (g := (mkF m 66 #[.val (.long z0), .second, .val (.int p1), .val (.int p2), .val (.int p3), .val (.int p4), .val (.long (z0 - (8 : Int64))), .second, .val (.int (0 : Int32)), .val (.int (1 : Int32)), .val (.ref r35), .val (.ref r37), .val (.ref r39), .unset, .unset, .unset, .unset, .unset, .unset, .unset, .unset, .unset, .unset] [])) rfl (hb hby at_66) (by decide) (by decide)
        obtain ⟨b41, gb41⟩ : ∃ z, z = T39.heap.size := ⟨_, rfl⟩
        rw [← gb41] at A41 D41 st41
        have t42 : Exa Z T39.heap r35 nIntege_0 := ((E35q.keep K37).keep K39)
        have ne43 : r35 ≠ b41 := Nat.ne_of_lt (Nat.lt_of_lt_of_le t42.lt (Nat.le_of_eq gb41.symm))
        have t44 : Exa Z T39.heap r37 nIntege_0 := (E37q.keep K39)
        have ne45 : r37 ≠ b41 := Nat.ne_of_lt (Nat.lt_of_lt_of_le t44.lt (Nat.le_of_eq gb41.symm))
        have ne46 : r39 ≠ b41 := Nat.ne_of_lt (Nat.lt_of_lt_of_le E39q.lt (Nat.le_of_eq gb41.symm))
        have g47 : n0 ≤ b41 := Nat.le_trans (Nat.le_of_eq O40.1.symm) (Nat.le_trans O40.2.1 (Nat.le_of_eq gb41.symm))
        have O48 : Old Z n0 h41 := Old.ext O40 E41
        have f49 : Fld Z h41 b41 nConsec_1 "values" "[Ljava/lang/Object;" .null := D41 (Or.inl (wq hw 20 rfl)) (ty := (.array (.object nObject_2))) (by decide)
        have f50 : Fld Z h41 b41 nConsec_1 "first" "J" (.long (0 : Int64)) := D41 (Or.inl (wq hw 22 rfl)) (ty := .long) (by decide)
        have f51 : Fld Z h41 b41 nConsec_1 "size" "I" (.int (0 : Int32)) := D41 (Or.inl (wq hw 29 rfl)) (ty := .int) (by decide)
        have f52 : Fld Z h41 b41 nConsec_1 "head" "I" (.int (0 : Int32)) := D41 (Or.inl (wq hw 31 rfl)) (ty := .int) (by decide)
        obtain ⟨_, _, ⟨T53, L53, k53, n53⟩, -, X53, ⟨Lc53, hQ53, l53, y53, z53⟩, st53⟩ := X41.specialBack hx (y := my_3) rfl hown (mvT hZ (wq hw 11 rfl)) (mvT hZ (wq hw 12 rfl)) (mvT hZ (wq hw 13 rfl)) (by decide) (backOf (W := 1) (rm_rin l Z a0 hw [] b41 (z0 - (8 : Int64)) h41 n0 O48 g47 A41 f49 f51 f52 f50) hZ (wq hw 13 rfl) (wq hw 10 rfl) (by decide) (by decide)) (g := (mkF m 72 #[.val (.long z0), .second, .val (.int p1), .val (.int p2), .val (.int p3), .val (.int p4), .val (.long (z0 - (8 : Int64))), .second, .val (.int (0 : Int32)), .val (.int (1 : Int32)), .val (.ref r35), .val (.ref r37), .val (.ref r39), .unset, .unset, .unset, .unset, .unset, .unset, .unset, .unset, .unset, .unset] [(.long (z0 - (8 : Int64))), (.ref b41), (.ref b41)])) rfl (by rw [hml]; rfl) (Steps.refl _) (a := b41) (argsL := [(.long (z0 - (8 : Int64)))]) (rest := [(.ref b41)]) (lenOf pd_3 rfl) rfl (by show 2 * 0 + _ ≤ _; exact Nat.le_of_eq rfl) (hb hby at_72) (fun _ _ => ⟨rfl, e41, (by decide : 4 + 1 ≤ _), (by decide : 7 + 16 ≤ _)⟩)
        dsimp only [Pt.U, Pt.locs, Pt.cells, Pt.slots] at X53 l53 y53 z53 st53 hQ53
        have X53 := own_to X53 l53 y53 z53
        obtain ⟨bb53, kk53, rfl, N53q, K53, R53⟩ := hQ53
        have N53 := Fr.app N39 N53q
        have O54 : Old Z n0 T53.heap := Old.keep O48 K53 (allS g47 all0)
        obtain ⟨ER53, FV53, FS53, FH53, FF53, VV53, OV53, ga53, gbb53⟩ := (id R53)
        have t55 : Exa Z T53.heap r37 nIntege_0 := ((t44.ext E41).keep K53)
        obtain ⟨cq56, kq56, q56a, q56b, q56c⟩ := isOf hZ rfl (ER53)
        obtain ⟨_, _, ⟨T56, L56, k56, n56⟩, -, X56, ⟨Lc56, hQ56, l56, y56, z56⟩, st56⟩ := X53.virtualBack hx (y := my_6) (z := my_6) hown (mvT hZ (wq hw 23 rfl)) (mvT hZ (wq hw 24 rfl)) (notFace_of_selects (args := #[]) (mvT hZ (wq hw 26 rfl))) (mvT hZ (wq hw 26 rfl)) (mvT hZ (wq hw 25 rfl)) (by decide) (backOf (W := 0) (rm_add_0_0_NNN l Z a0 hw [] b41 bb53 kk53  (z0 - (8 : Int64)) T53.heap n0 O54 R53 r37 t55) hZ (wq hw 27 rfl) (wq hw 10 rfl) (by decide) (by decide)) q56a q56c (g := (mkF m 93 #[.val (.long z0), .second, .val (.int p1), .val (.int p2), .val (.int p3), .val (.int p4), .val (.long (z0 - (8 : Int64))), .second, .val (.int (0 : Int32)), .val (.int (1 : Int32)), .val (.ref r35), .val (.ref r37), .val (.ref r39), .val (.ref b41), .unset, .unset, .unset, .unset, .unset, .unset, .unset, .unset, .unset] [(.ref r37), (.ref b41)])) rfl (by rw [hml]; rfl) (Steps.refl _) (argsL := [(.ref r37)]) (rest := []) (lenOf pd_4 rfl) rfl (by show 2 * 0 + _ ≤ _; exact Nat.le_of_eq rfl) (hb hby at_93) (fun _ _ => ⟨rfl, rfl, (by decide : 5 + 0 ≤ _), (by decide : 23 + 0 ≤ _)⟩)
        dsimp only [Pt.U, Pt.locs, Pt.cells, Pt.slots] at X56 l56 y56 z56 st56 hQ56
        have X56 := own_to X56 l56 y56 z56
        obtain ⟨rfl, N56q, K56, R56⟩ := hQ56
        have N56 := Fr.app N53 N56q
        have O57 : Old Z n0 T56.heap := Old.keep O54 K56 (allS g47 (allS gbb53 all0))
        have ER56 := R56.1
        obtain ⟨cq58, kq58, q58a, q58b, q58c⟩ := isOf hZ rfl (ER56)
        obtain ⟨_, _, ⟨T58, L58, k58, n58⟩, -, X58, ⟨Lc58, hQ58, l58, y58, z58⟩, st58⟩ := X56.virtualBack hx (y := my_9) (z := my_9) hown (mvT hZ (wq hw 33 rfl)) (mvT hZ (wq hw 34 rfl)) (notFace_of_selects (args := #[]) (mvT hZ (wq hw 36 rfl))) (mvT hZ (wq hw 36 rfl)) (mvT hZ (wq hw 35 rfl)) (by decide) (backOf (W := 0) (rm_rem_1_0_RNN l Z a0 hw [] b41 bb53 kk53 r37 (z0 - (8 : Int64)) T56.heap n0 O57 R56) hZ (wq hw 37 rfl) (wq hw 10 rfl) (by decide) (by decide)) q58a q58c (g := (mkF m 103 #[.val (.long z0), .second, .val (.int p1), .val (.int p2), .val (.int p3), .val (.int p4), .val (.long (z0 - (8 : Int64))), .second, .val (.int (0 : Int32)), .val (.int (1 : Int32)), .val (.ref r35), .val (.ref r37), .val (.ref r39), .val (.ref b41), .unset, .unset, .unset, .unset, .unset, .unset, .unset, .unset, .unset] [(.ref b41)])) rfl (by rw [hml]; rfl) (Steps.refl _) (argsL := []) (rest := []) (lenOf pd_8 rfl) rfl (by show 2 * 0 + _ ≤ _; exact Nat.le_of_eq rfl) (hb hby at_103) (fun _ _ => ⟨rfl, rfl, (by decide : 5 + 0 ≤ _), (by decide : 23 + 0 ≤ _)⟩)
        dsimp only [Pt.U, Pt.locs, Pt.cells, Pt.slots] at X58 l58 y58 z58 st58 hQ58
        have X58 := own_to X58 l58 y58 z58
        obtain ⟨rfl, N58q, K58, R58⟩ := hQ58
        have N58 := Fr.app N56 N58q
        have O59 : Old Z n0 T58.heap := Old.keep O57 K58 (allS g47 (allS gbb53 all0))
        have ER58 := R58.1
        have t60 : Exa Z T58.heap r39 nIntege_0 := ((((E39q.ext E41).keep K53).keep K56).keep K58)
        obtain ⟨cq61, kq61, q61a, q61b, q61c⟩ := isOf hZ rfl (ER58)
        obtain ⟨_, _, ⟨T61, L61, k61, n61⟩, -, X61, ⟨Lc61, hQ61, l61, y61, z61⟩, st61⟩ := X58.virtualBack hx (y := my_6) (z := my_6) hown (mvT hZ (wq hw 23 rfl)) (mvT hZ (wq hw 24 rfl)) (notFace_of_selects (args := #[]) (mvT hZ (wq hw 26 rfl))) (mvT hZ (wq hw 26 rfl)) (mvT hZ (wq hw 25 rfl)) (by decide) (backOf (W := 0) (rm_add_0_1_NNN l Z a0 hw [] b41 bb53 kk53  ((z0 - (8 : Int64)) + (1 : Int64)) T58.heap n0 O59 R58 r39 t60) hZ (wq hw 27 rfl) (wq hw 10 rfl) (by decide) (by decide)) q61a q61c (g := (mkF m 111 #[.val (.long z0), .second, .val (.int p1), .val (.int p2), .val (.int p3), .val (.int p4), .val (.long (z0 - (8 : Int64))), .second, .val (.int (0 : Int32)), .val (.int (1 : Int32)), .val (.ref r35), .val (.ref r37), .val (.ref r39), .val (.ref b41), .unset, .unset, .unset, .unset, .unset, .unset, .unset, .unset, .unset] [(.ref r39), (.ref b41)])) rfl (by rw [hml]; rfl) (Steps.refl _) (argsL := [(.ref r39)]) (rest := []) (lenOf pd_4 rfl) rfl (by show 2 * 0 + _ ≤ _; exact Nat.le_of_eq rfl) (hb hby at_111) (fun _ _ => ⟨rfl, rfl, (by decide : 5 + 0 ≤ _), (by decide : 23 + 0 ≤ _)⟩)
        dsimp only [Pt.U, Pt.locs, Pt.cells, Pt.slots] at X61 l61 y61 z61 st61 hQ61
        have X61 := own_to X61 l61 y61 z61
        obtain ⟨rfl, N61q, K61, R61⟩ := hQ61
        have N61 := Fr.app N58 N61q
        have O62 : Old Z n0 T61.heap := Old.keep O59 K61 (allS g47 (allS gbb53 all0))
        have ER61 := R61.1
        obtain ⟨cq63, kq63, q63a, q63b, q63c⟩ := isOf hZ rfl (ER61)
        obtain ⟨_, _, ⟨T63, L63, k63, n63⟩, -, X63, ⟨Lc63, hQ63, l63, y63, z63⟩, st63⟩ := X61.virtualBack hx (y := my_4) (z := my_4) hown (mvT hZ (wq hw 49 rfl)) (mvT hZ (wq hw 50 rfl)) (notFace_of_selects (args := #[]) (mvT hZ (wq hw 52 rfl))) (mvT hZ (wq hw 52 rfl)) (mvT hZ (wq hw 51 rfl)) (by decide) (backOf (W := 0) (rm_siz l Z a0 hw [] b41 (1 : Int32) T61.heap n0 R61.2.2.1) hZ (wq hw 53 rfl) (wq hw 10 rfl) (by decide) (by decide)) q63a q63c (g := (mkF m 199 #[.val (.long z0), .second, .val (.int p1), .val (.int p2), .val (.int p3), .val (.int p4), .val (.long (z0 - (8 : Int64))), .second, .val (.int (0 : Int32)), .val (.int (1 : Int32)), .val (.ref r35), .val (.ref r37), .val (.ref r39), .val (.ref b41), .val (.int (1 : Int32)), .val (.long ((z0 - (8 : Int64)) + (1 : Int64))), .second, .val (.long ((z0 - (8 : Int64)) + (1 : Int64))), .second, .val (.long (((z0 - (8 : Int64)) + (1 : Int64)) - (1 : Int64))), .second, .val .null, .unset] [(.ref b41)])) rfl (by rw [hml]; rfl) (Steps.refl _) (argsL := []) (rest := []) (lenOf pd_5 rfl) rfl (by show 2 * 0 + _ ≤ _; exact Nat.le_of_eq rfl) (hb hby at_199) (fun _ _ => ⟨rfl, rfl, (by decide : 5 + 0 ≤ _), (by decide : 23 + 0 ≤ _)⟩)
        dsimp only [Pt.U, Pt.locs, Pt.cells, Pt.slots] at X63 l63 y63 z63 st63 hQ63
        have X63 := own_to X63 l63 y63 z63
        obtain ⟨rfl, N63q, e63⟩ := hQ63
        have N63 := Fr.app N61 N63q
        obtain ⟨cq64, kq64, q64a, q64b, q64c⟩ := isOf hZ e63 (ER61)
        obtain ⟨_, _, ⟨T64, L64, k64, n64⟩, -, X64, ⟨Lc64, hQ64, l64, y64, z64⟩, st64⟩ := X63.virtualBack hx (y := my_5) (z := my_5) hown (mvT hZ (wq hw 54 rfl)) (mvT hZ (wq hw 55 rfl)) (notFace_of_selects (args := #[]) (mvT hZ (wq hw 57 rfl))) (mvT hZ (wq hw 57 rfl)) (mvT hZ (wq hw 56 rfl)) (by decide) (backOf (W := 0) (rm_fnu l Z a0 hw [] b41 ((z0 - (8 : Int64)) + (1 : Int64)) T61.heap n0 R61.2.2.2.2.1) hZ (wq hw 58 rfl) (wq hw 10 rfl) (by decide) (by decide)) q64a q64c (g := (mkF m 221 #[.val (.long z0), .second, .val (.int p1), .val (.int p2), .val (.int p3), .val (.int p4), .val (.long (z0 - (8 : Int64))), .second, .val (.int (0 : Int32)), .val (.int (1 : Int32)), .val (.ref r35), .val (.ref r37), .val (.ref r39), .val (.ref b41), .val (.int (1 : Int32)), .val (.long ((z0 - (8 : Int64)) + (1 : Int64))), .second, .val (.long ((z0 - (8 : Int64)) + (1 : Int64))), .second, .val (.long (((z0 - (8 : Int64)) + (1 : Int64)) - (1 : Int64))), .second, .val .null, .val (.int (1 : Int32))] [(.ref b41)])) rfl (by rw [hml]; rfl) (Steps.refl _) (argsL := []) (rest := []) (lenOf pd_6 rfl) rfl (by show 2 * 0 + _ ≤ _; exact Nat.le_of_eq rfl) (hb hby at_221) (fun _ _ => ⟨rfl, e63, (by decide : 5 + 0 ≤ _), (by decide : 23 + 0 ≤ _)⟩)
        dsimp only [Pt.U, Pt.locs, Pt.cells, Pt.slots] at X64 l64 y64 z64 st64 hQ64
        have X64 := own_to X64 l64 y64 z64
        obtain ⟨rfl, N64q, e64⟩ := hQ64
        have N64 := Fr.app N63 N64q
        have he246 : ((z0 - (8 : Int64)) + (1 : Int64)) = ((z0 - (8 : Int64)) + (1 : Int64)) := rfl
        have hg246 : ((z0 - (8 : Int64)) + (1 : Int64)) = ((z0 - (8 : Int64)) + (1 : Int64)) := rfl
        obtain ⟨cq65, kq65, q65a, q65b, q65c⟩ := isOf hZ e64 (ER61)
        obtain ⟨_, _, ⟨T65, L65, k65, n65⟩, -, X65, ⟨Lc65, hQ65, l65, y65, z65⟩, st65⟩ := X64.virtualBack hx (y := my_7) (z := my_7) hown (mvT hZ (wq hw 59 rfl)) (mvT hZ (wq hw 44 rfl)) (notFace_of_selects (args := #[]) (mvT hZ (wq hw 46 rfl))) (mvT hZ (wq hw 46 rfl)) (mvT hZ (wq hw 45 rfl)) (by decide) (backOf (W := 0) (rm_get_1_1_NRN_0 l Z a0 hw [] b41 bb53 kk53 r39 ((z0 - (8 : Int64)) + (1 : Int64)) T61.heap n0 O62 R61 ((z0 - (8 : Int64)) + (1 : Int64)) (own_ge2 he246 hg246 hf (by decide) (by decide)) (own_sub2 he246 hg246 (by decide))) hZ (wq hw 47 rfl) (wq hw 10 rfl) (by decide) (by decide)) q65a q65c (g := (mkF m 246 #[.val (.long z0), .second, .val (.int p1), .val (.int p2), .val (.int p3), .val (.int p4), .val (.long (z0 - (8 : Int64))), .second, .val (.int (0 : Int32)), .val (.int (1 : Int32)), .val (.ref r35), .val (.ref r37), .val (.ref r39), .val (.ref b41), .val (.int (1 : Int32)), .val (.long ((z0 - (8 : Int64)) + (1 : Int64))), .second, .val (.long ((z0 - (8 : Int64)) + (1 : Int64))), .second, .val (.long (((z0 - (8 : Int64)) + (1 : Int64)) - (1 : Int64))), .second, .val .null, .val (.int (1 : Int32))] [(.long ((z0 - (8 : Int64)) + (1 : Int64))), (.ref b41)])) rfl (by rw [hml]; rfl) (Steps.refl _) (argsL := [(.long ((z0 - (8 : Int64)) + (1 : Int64)))]) (rest := []) (lenOf pd_7 rfl) rfl (by show 2 * 0 + _ ≤ _; exact Nat.le_of_eq rfl) (hb hby at_246) (fun _ _ => ⟨rfl, e64, (by decide : 5 + 0 ≤ _), (by decide : 23 + 0 ≤ _)⟩)
        dsimp only [Pt.U, Pt.locs, Pt.cells, Pt.slots] at X65 l65 y65 z65 st65 hQ65
        have X65 := own_to X65 l65 y65 z65
        obtain ⟨rfl, N65q, e65⟩ := hQ65
        have N65 := Fr.app N64 N65q
        have he270 : (((z0 - (8 : Int64)) + (1 : Int64)) - (1 : Int64)) = ((z0 - (8 : Int64)) + (0 : Int64)) := (own_f1 _ _ _ _ (by decide))
        have hg270 : ((z0 - (8 : Int64)) + (1 : Int64)) = ((z0 - (8 : Int64)) + (1 : Int64)) := rfl
        obtain ⟨cq66, kq66, q66a, q66b, q66c⟩ := isOf hZ e65 (ER61)
        obtain ⟨_, _, ⟨T66, L66, k66, n66⟩, -, X66, ⟨Lc66, hQ66, l66, y66, z66⟩, st66⟩ := X65.virtualBack hx (y := my_7) (z := my_7) hown (mvT hZ (wq hw 59 rfl)) (mvT hZ (wq hw 44 rfl)) (notFace_of_selects (args := #[]) (mvT hZ (wq hw 46 rfl))) (mvT hZ (wq hw 46 rfl)) (mvT hZ (wq hw 45 rfl)) (by decide) (backOf (W := 0) (rm_get_1_1_NRN_lo l Z a0 hw [] b41 bb53 kk53 r39 ((z0 - (8 : Int64)) + (1 : Int64)) T61.heap n0 O62 R61 (((z0 - (8 : Int64)) + (1 : Int64)) - (1 : Int64)) (own_lt2 he270 hg270 hf (by decide) (by decide))) hZ (wq hw 47 rfl) (wq hw 10 rfl) (by decide) (by decide)) q66a q66c (g := (mkF m 270 #[.val (.long z0), .second, .val (.int p1), .val (.int p2), .val (.int p3), .val (.int p4), .val (.long (z0 - (8 : Int64))), .second, .val (.int (0 : Int32)), .val (.int (1 : Int32)), .val (.ref r35), .val (.ref r37), .val (.ref r39), .val (.ref b41), .val (.int (1 : Int32)), .val (.long ((z0 - (8 : Int64)) + (1 : Int64))), .second, .val (.long ((z0 - (8 : Int64)) + (1 : Int64))), .second, .val (.long (((z0 - (8 : Int64)) + (1 : Int64)) - (1 : Int64))), .second, .val .null, .val (.int (1 : Int32))] [(.long (((z0 - (8 : Int64)) + (1 : Int64)) - (1 : Int64))), (.ref b41)])) rfl (by rw [hml]; rfl) (Steps.refl _) (argsL := [(.long (((z0 - (8 : Int64)) + (1 : Int64)) - (1 : Int64)))]) (rest := []) (lenOf pd_7 rfl) rfl (by show 2 * 0 + _ ≤ _; exact Nat.le_of_eq rfl) (hb hby at_270) (fun _ _ => ⟨rfl, e65, (by decide : 5 + 0 ≤ _), (by decide : 23 + 0 ≤ _)⟩)
        dsimp only [Pt.U, Pt.locs, Pt.cells, Pt.slots] at X66 l66 y66 z66 st66 hQ66
        have X66 := own_to X66 l66 y66 z66
        obtain ⟨rfl, N66q, e66⟩ := hQ66
        have N66 := Fr.app N65 N66q
        have he296 : (((z0 - (8 : Int64)) + (1 : Int64)) + (1 : Int64)) = ((z0 - (8 : Int64)) + (2 : Int64)) := (own_f2 _ _ _ _ (by decide))
        have hg296 : ((z0 - (8 : Int64)) + (1 : Int64)) = ((z0 - (8 : Int64)) + (1 : Int64)) := rfl
        obtain ⟨cq67, kq67, q67a, q67b, q67c⟩ := isOf hZ e66 (ER61)
        obtain ⟨_, _, ⟨T67, L67, k67, n67⟩, -, X67, ⟨Lc67, hQ67, l67, y67, z67⟩, st67⟩ := X66.virtualBack hx (y := my_7) (z := my_7) hown (mvT hZ (wq hw 59 rfl)) (mvT hZ (wq hw 44 rfl)) (notFace_of_selects (args := #[]) (mvT hZ (wq hw 46 rfl))) (mvT hZ (wq hw 46 rfl)) (mvT hZ (wq hw 45 rfl)) (by decide) (backOf (W := 0) (rm_get_1_1_NRN_hi l Z a0 hw [] b41 bb53 kk53 r39 ((z0 - (8 : Int64)) + (1 : Int64)) T61.heap n0 O62 R61 (((z0 - (8 : Int64)) + (1 : Int64)) + (1 : Int64)) (own_ge2 he296 hg296 hf (by decide) (by decide)) (own_sub2 he296 hg296 (by decide))) hZ (wq hw 47 rfl) (wq hw 10 rfl) (by decide) (by decide)) q67a q67c (g := (mkF m 296 #[.val (.long z0), .second, .val (.int p1), .val (.int p2), .val (.int p3), .val (.int p4), .val (.long (z0 - (8 : Int64))), .second, .val (.int (0 : Int32)), .val (.int (1 : Int32)), .val (.ref r35), .val (.ref r37), .val (.ref r39), .val (.ref b41), .val (.int (1 : Int32)), .val (.long ((z0 - (8 : Int64)) + (1 : Int64))), .second, .val (.long ((z0 - (8 : Int64)) + (1 : Int64))), .second, .val (.long (((z0 - (8 : Int64)) + (1 : Int64)) - (1 : Int64))), .second, .val .null, .val (.int (1 : Int32))] [(.long (((z0 - (8 : Int64)) + (1 : Int64)) + (1 : Int64))), (.ref b41)])) rfl (by rw [hml]; rfl) (Steps.refl _) (argsL := [(.long (((z0 - (8 : Int64)) + (1 : Int64)) + (1 : Int64)))]) (rest := []) (lenOf pd_7 rfl) rfl (by show 2 * 0 + _ ≤ _; exact Nat.le_of_eq rfl) (hb hby at_296) (fun _ _ => ⟨rfl, e66, (by decide : 5 + 0 ≤ _), (by decide : 23 + 0 ≤ _)⟩)
        dsimp only [Pt.U, Pt.locs, Pt.cells, Pt.slots] at X67 l67 y67 z67 st67 hQ67
        have X67 := own_to X67 l67 y67 z67
        obtain ⟨rfl, N67q, e67⟩ := hQ67
        have N67 := Fr.app N66 N67q
        obtain ⟨fs, hr, hrun, hended, hW, hsame⟩ := X67.leave (v := (some (.int (1 : Int32)))) (fun h => by rw [Bd.returns] at h; cases h)
        refine ⟨_, _, gp3 _ ?_, hrun, hended, _, _, rfl, ?_, ⟨_, rfl⟩, hW, hsame.mono (by decide) (by decide)⟩
        · refine XS.ifNo X0.here hx rfl (hb hby at_37) rfl ((if0 _ _).trans (feq hc37).1) ?_
          refine XS.iconst X0.here hx rfl (hb hby at_40) ?_
          refine XS.goto X0.here hx rfl (pc0 := 41) (pc' := 45) rfl (hb hby at_41) (by decide) (by decide) ?_
          refine XS.istore X0.here hx rfl (hb hby at_45) rfl (l' := #[.val (.long z0), .second, .val (.int p1), .val (.int p2), .val (.int p3), .val (.int p4), .val (.long (z0 - (8 : Int64))), .second, .val (.int (0 : Int32)), .val (.int (1 : Int32)), .unset, .unset, .unset, .unset, .unset, .unset, .unset, .unset, .unset, .unset, .unset, .unset, .unset]) rfl ?_
          show Steps p.tables e below (s₁.setTop (mkF m 47 #[.val (.long z0), .second, .val (.int p1), .val (.int p2), .val (.int p3), .val (.int p4), .val (.long (z0 - (8 : Int64))), .second, .val (.int (0 : Int32)), .val (.int (1 : Int32)), .unset, .unset, .unset, .unset, .unset, .unset, .unset, .unset, .unset, .unset, .unset, .unset, .unset] [])) _
          refine XS.iloadN X0.here hx rfl (hb hby at_47) rfl ?_
          refine st35 _ ?_
          refine XS.astore X35.here hx rfl (hb hby at_51) rfl rfl (l' := #[.val (.long z0), .second, .val (.int p1), .val (.int p2), .val (.int p3), .val (.int p4), .val (.long (z0 - (8 : Int64))), .second, .val (.int (0 : Int32)), .val (.int (1 : Int32)), .val (.ref r35), .unset, .unset, .unset, .unset, .unset, .unset, .unset, .unset, .unset, .unset, .unset, .unset]) rfl ?_
          refine XS.iloadN X35.here hx rfl (hb hby at_53) rfl ?_
          refine st37 _ ?_
          refine XS.astore X37.here hx rfl (hb hby at_57) rfl rfl (l' := #[.val (.long z0), .second, .val (.int p1), .val (.int p2), .val (.int p3), .val (.int p4), .val (.long (z0 - (8 : Int64))), .second, .val (.int (0 : Int32)), .val (.int (1 : Int32)), .val (.ref r35), .val (.ref r37), .unset, .unset, .unset, .unset, .unset, .unset, .unset, .unset, .unset, .unset, .unset]) rfl ?_
          show Steps p.tables e below (T37.setTop (mkF m 59 #[.val (.long z0), .second, .val (.int p1), .val (.int p2), .val (.int p3), .val (.int p4), .val (.long (z0 - (8 : Int64))), .second, .val (.int (0 : Int32)), .val (.int (1 : Int32)), .val (.ref r35), .val (.ref r37), .unset, .unset, .unset, .unset, .unset, .unset, .unset, .unset, .unset, .unset, .unset] [])) _
          refine XS.iload X37.here hx rfl (hb hby at_59) rfl ?_
          refine st39 _ ?_
          refine XS.astore X39.here hx rfl (hb hby at_64) rfl rfl (l' := #[.val (.long z0), .second, .val (.int p1), .val (.int p2), .val (.int p3), .val (.int p4), .val (.long (z0 - (8 : Int64))), .second, .val (.int (0 : Int32)), .val (.int (1 : Int32)), .val (.ref r35), .val (.ref r37), .val (.ref r39), .unset, .unset, .unset, .unset, .unset, .unset, .unset, .unset, .unset, .unset]) rfl ?_
          refine st41 _ ?_
          refine XS.dup X41.here hx rfl (hb hby at_69) rfl rfl ?_
          refine XS.lload X41.here hx rfl (hb hby at_70) rfl ?_
          show Steps p.tables e below (T41.setTop (mkF m 72 #[.val (.long z0), .second, .val (.int p1), .val (.int p2), .val (.int p3), .val (.int p4), .val (.long (z0 - (8 : Int64))), .second, .val (.int (0 : Int32)), .val (.int (1 : Int32)), .val (.ref r35), .val (.ref r37), .val (.ref r39), .unset, .unset, .unset, .unset, .unset, .unset, .unset, .unset, .unset, .unset] [(.long (z0 - (8 : Int64))), (.ref b41), (.ref b41)])) _
          refine st53.trans ?_
          refine XS.astore X53.here hx rfl (hb hby at_75) rfl rfl (l' := #[.val (.long z0), .second, .val (.int p1), .val (.int p2), .val (.int p3), .val (.int p4), .val (.long (z0 - (8 : Int64))), .second, .val (.int (0 : Int32)), .val (.int (1 : Int32)), .val (.ref r35), .val (.ref r37), .val (.ref r39), .val (.ref b41), .unset, .unset, .unset, .unset, .unset, .unset, .unset, .unset, .unset]) rfl ?_
          refine XS.iload X53.here hx rfl (hb hby at_77) rfl ?_
          refine XS.ifYes X53.here hx rfl (pc0 := 79) (pc' := 89) rfl (hb hby at_79) rfl ((if0 _ _).trans (teq (by decide : (0 : Int32) = (0 : Int32))).1) (by decide) (by decide) ?_
          refine XS.aload X53.here hx rfl (hb hby at_89) rfl rfl ?_
          refine XS.aload X53.here hx rfl (hb hby at_91) rfl rfl ?_
          show Steps p.tables e below (T53.setTop (mkF m 93 #[.val (.long z0), .second, .val (.int p1), .val (.int p2), .val (.int p3), .val (.int p4), .val (.long (z0 - (8 : Int64))), .second, .val (.int (0 : Int32)), .val (.int (1 : Int32)), .val (.ref r35), .val (.ref r37), .val (.ref r39), .val (.ref b41), .unset, .unset, .unset, .unset, .unset, .unset, .unset, .unset, .unset] [(.ref r37), (.ref b41)])) _
          refine st56.trans ?_
          refine XS.iload X56.here hx rfl (hb hby at_96) rfl ?_
          refine XS.ifNo X56.here hx rfl (hb hby at_98) rfl ((if0 _ _).trans (feq (by decide : ¬ ((1 : Int32) = (0 : Int32)))).1) ?_
          refine XS.aload X56.here hx rfl (hb hby at_101) rfl rfl ?_
          refine st58.trans ?_
          refine XS.pop X58.here hx rfl (hb hby at_106) rfl rfl ?_
          show Steps p.tables e below (T58.setTop (mkF m 107 #[.val (.long z0), .second, .val (.int p1), .val (.int p2), .val (.int p3), .val (.int p4), .val (.long (z0 - (8 : Int64))), .second, .val (.int (0 : Int32)), .val (.int (1 : Int32)), .val (.ref r35), .val (.ref r37), .val (.ref r39), .val (.ref b41), .unset, .unset, .unset, .unset, .unset, .unset, .unset, .unset, .unset] [])) _
          refine XS.aload X58.here hx rfl (hb hby at_107) rfl rfl ?_
          refine XS.aload X58.here hx rfl (hb hby at_109) rfl rfl ?_
          refine st61.trans ?_
          refine XS.iload X61.here hx rfl (hb hby at_114) rfl ?_
          refine XS.ifYes X61.here hx rfl (pc0 := 116) (pc' := 123) rfl (hb hby at_116) rfl ((if0 _ _).trans (teq (by decide : (0 : Int32) = (0 : Int32))).1) (by decide) (by decide) ?_
          refine XS.iconst X61.here hx rfl (hb hby at_123) ?_
          show Steps p.tables e below (T61.setTop (mkF m 124 #[.val (.long z0), .second, .val (.int p1), .val (.int p2), .val (.int p3), .val (.int p4), .val (.long (z0 - (8 : Int64))), .second, .val (.int (0 : Int32)), .val (.int (1 : Int32)), .val (.ref r35), .val (.ref r37), .val (.ref r39), .val (.ref b41), .unset, .unset, .unset, .unset, .unset, .unset, .unset, .unset, .unset] [(.int (0 : Int32))])) _
          refine XS.iconst X61.here hx rfl (hb hby at_124) ?_
          refine XS.iadd X61.here hx rfl (hb hby at_125) rfl ?_
          show Steps p.tables e below (T61.setTop (mkF m 126 #[.val (.long z0), .second, .val (.int p1), .val (.int p2), .val (.int p3), .val (.int p4), .val (.long (z0 - (8 : Int64))), .second, .val (.int (0 : Int32)), .val (.int (1 : Int32)), .val (.ref r35), .val (.ref r37), .val (.ref r39), .val (.ref b41), .unset, .unset, .unset, .unset, .unset, .unset, .unset, .unset, .unset] [(.int (1 : Int32))])) _
          refine XS.iload X61.here hx rfl (hb hby at_126) rfl ?_
          refine XS.ifNo X61.here hx rfl (hb hby at_128) rfl ((if0 _ _).trans (feq (by decide : ¬ ((1 : Int32) = (0 : Int32)))).1) ?_
          refine XS.iconst X61.here hx rfl (hb hby at_131) ?_
          refine XS.goto X61.here hx rfl (pc0 := 132) (pc' := 136) rfl (hb hby at_132) (by decide) (by decide) ?_
          show Steps p.tables e below (T61.setTop (mkF m 136 #[.val (.long z0), .second, .val (.int p1), .val (.int p2), .val (.int p3), .val (.int p4), .val (.long (z0 - (8 : Int64))), .second, .val (.int (0 : Int32)), .val (.int (1 : Int32)), .val (.ref r35), .val (.ref r37), .val (.ref r39), .val (.ref b41), .unset, .unset, .unset, .unset, .unset, .unset, .unset, .unset, .unset] [(.int (1 : Int32)), (.int (1 : Int32))])) _
          refine XS.isub X61.here hx rfl (hb hby at_136) rfl ?_
          show Steps p.tables e below (T61.setTop (mkF m 137 #[.val (.long z0), .second, .val (.int p1), .val (.int p2), .val (.int p3), .val (.int p4), .val (.long (z0 - (8 : Int64))), .second, .val (.int (0 : Int32)), .val (.int (1 : Int32)), .val (.ref r35), .val (.ref r37), .val (.ref r39), .val (.ref b41), .unset, .unset, .unset, .unset, .unset, .unset, .unset, .unset, .unset] [(.int (0 : Int32))])) _
          refine XS.iconst X61.here hx rfl (hb hby at_137) ?_
          refine XS.iadd X61.here hx rfl (hb hby at_138) rfl ?_
          show Steps p.tables e below (T61.setTop (mkF m 139 #[.val (.long z0), .second, .val (.int p1), .val (.int p2), .val (.int p3), .val (.int p4), .val (.long (z0 - (8 : Int64))), .second, .val (.int (0 : Int32)), .val (.int (1 : Int32)), .val (.ref r35), .val (.ref r37), .val (.ref r39), .val (.ref b41), .unset, .unset, .unset, .unset, .unset, .unset, .unset, .unset, .unset] [(.int (1 : Int32))])) _
          refine XS.istore X61.here hx rfl (hb hby at_139) rfl (l' := #[.val (.long z0), .second, .val (.int p1), .val (.int p2), .val (.int p3), .val (.int p4), .val (.long (z0 - (8 : Int64))), .second, .val (.int (0 : Int32)), .val (.int (1 : Int32)), .val (.ref r35), .val (.ref r37), .val (.ref r39), .val (.ref b41), .val (.int (1 : Int32)), .unset, .unset, .unset, .unset, .unset, .unset, .unset, .unset]) rfl ?_
          refine XS.lload X61.here hx rfl (hb hby at_141) rfl ?_
          refine XS.iload X61.here hx rfl (hb hby at_143) rfl ?_
          show Steps p.tables e below (T61.setTop (mkF m 145 #[.val (.long z0), .second, .val (.int p1), .val (.int p2), .val (.int p3), .val (.int p4), .val (.long (z0 - (8 : Int64))), .second, .val (.int (0 : Int32)), .val (.int (1 : Int32)), .val (.ref r35), .val (.ref r37), .val (.ref r39), .val (.ref b41), .val (.int (1 : Int32)), .unset, .unset, .unset, .unset, .unset, .unset, .unset, .unset] [(.int (1 : Int32)), (.long (z0 - (8 : Int64)))])) _
          refine XS.ifNo X61.here hx rfl (hb hby at_145) rfl ((if0 _ _).trans (feq (by decide : ¬ ((1 : Int32) = (0 : Int32)))).1) ?_
          refine XS.lconst X61.here hx rfl (hb hby at_148) ?_
          refine XS.goto X61.here hx rfl (pc0 := 149) (pc' := 153) rfl (hb hby at_149) (by decide) (by decide) ?_
          refine XS.ladd X61.here hx rfl (hb hby at_153) rfl ?_
          refine XS.lstore X61.here hx rfl (hb hby at_154) rfl (l' := #[.val (.long z0), .second, .val (.int p1), .val (.int p2), .val (.int p3), .val (.int p4), .val (.long (z0 - (8 : Int64))), .second, .val (.int (0 : Int32)), .val (.int (1 : Int32)), .val (.ref r35), .val (.ref r37), .val (.ref r39), .val (.ref b41), .val (.int (1 : Int32)), .val (.long ((z0 - (8 : Int64)) + (1 : Int64))), .second, .unset, .unset, .unset, .unset, .unset, .unset]) rfl ?_
          refine XS.lload X61.here hx rfl (hb hby at_156) rfl ?_
          show Steps p.tables e below (T61.setTop (mkF m 158 #[.val (.long z0), .second, .val (.int p1), .val (.int p2), .val (.int p3), .val (.int p4), .val (.long (z0 - (8 : Int64))), .second, .val (.int (0 : Int32)), .val (.int (1 : Int32)), .val (.ref r35), .val (.ref r37), .val (.ref r39), .val (.ref b41), .val (.int (1 : Int32)), .val (.long ((z0 - (8 : Int64)) + (1 : Int64))), .second, .unset, .unset, .unset, .unset, .unset, .unset] [(.long (z0 - (8 : Int64)))])) _
          refine XS.iload X61.here hx rfl (hb hby at_158) rfl ?_
          refine XS.ifYes X61.here hx rfl (pc0 := 160) (pc' := 169) rfl (hb hby at_160) rfl ((if0 _ _).trans (teq (by decide : (0 : Int32) = (0 : Int32))).1) (by decide) (by decide) ?_
          refine XS.lconst X61.here hx rfl (hb hby at_169) ?_
          refine XS.ladd X61.here hx rfl (hb hby at_170) rfl ?_
          refine XS.lstore X61.here hx rfl (hb hby at_171) rfl (l' := #[.val (.long z0), .second, .val (.int p1), .val (.int p2), .val (.int p3), .val (.int p4), .val (.long (z0 - (8 : Int64))), .second, .val (.int (0 : Int32)), .val (.int (1 : Int32)), .val (.ref r35), .val (.ref r37), .val (.ref r39), .val (.ref b41), .val (.int (1 : Int32)), .val (.long ((z0 - (8 : Int64)) + (1 : Int64))), .second, .val (.long ((z0 - (8 : Int64)) + (1 : Int64))), .second, .unset, .unset, .unset, .unset]) rfl ?_
          refine XS.lload X61.here hx rfl (hb hby at_173) rfl ?_
          show Steps p.tables e below (T61.setTop (mkF m 175 #[.val (.long z0), .second, .val (.int p1), .val (.int p2), .val (.int p3), .val (.int p4), .val (.long (z0 - (8 : Int64))), .second, .val (.int (0 : Int32)), .val (.int (1 : Int32)), .val (.ref r35), .val (.ref r37), .val (.ref r39), .val (.ref b41), .val (.int (1 : Int32)), .val (.long ((z0 - (8 : Int64)) + (1 : Int64))), .second, .val (.long ((z0 - (8 : Int64)) + (1 : Int64))), .second, .unset, .unset, .unset, .unset] [(.long ((z0 - (8 : Int64)) + (1 : Int64)))])) _
          refine XS.lconst X61.here hx rfl (hb hby at_175) ?_
          refine XS.lsub X61.here hx rfl (hb hby at_176) rfl ?_
          refine XS.lstore X61.here hx rfl (hb hby at_177) rfl (l' := #[.val (.long z0), .second, .val (.int p1), .val (.int p2), .val (.int p3), .val (.int p4), .val (.long (z0 - (8 : Int64))), .second, .val (.int (0 : Int32)), .val (.int (1 : Int32)), .val (.ref r35), .val (.ref r37), .val (.ref r39), .val (.ref b41), .val (.int (1 : Int32)), .val (.long ((z0 - (8 : Int64)) + (1 : Int64))), .second, .val (.long ((z0 - (8 : Int64)) + (1 : Int64))), .second, .val (.long (((z0 - (8 : Int64)) + (1 : Int64)) - (1 : Int64))), .second, .unset, .unset]) rfl ?_
          refine XS.iload X61.here hx rfl (hb hby at_179) rfl ?_
          refine XS.ifNo X61.here hx rfl (hb hby at_181) rfl ((if0 _ _).trans (feq (by decide : ¬ ((1 : Int32) = (0 : Int32)))).1) ?_
          refine XS.iload X61.here hx rfl (hb hby at_184) rfl ?_
          show Steps p.tables e below (T61.setTop (mkF m 186 #[.val (.long z0), .second, .val (.int p1), .val (.int p2), .val (.int p3), .val (.int p4), .val (.long (z0 - (8 : Int64))), .second, .val (.int (0 : Int32)), .val (.int (1 : Int32)), .val (.ref r35), .val (.ref r37), .val (.ref r39), .val (.ref b41), .val (.int (1 : Int32)), .val (.long ((z0 - (8 : Int64)) + (1 : Int64))), .second, .val (.long ((z0 - (8 : Int64)) + (1 : Int64))), .second, .val (.long (((z0 - (8 : Int64)) + (1 : Int64)) - (1 : Int64))), .second, .unset, .unset] [(.int (0 : Int32))])) _
          refine XS.ifNo X61.here hx rfl (hb hby at_186) rfl ((if0 _ _).trans (teq (by decide : (0 : Int32) = (0 : Int32))).2) ?_
          refine XS.aconstNull X61.here hx rfl (hb hby at_189) ?_
          refine XS.goto X61.here hx rfl (pc0 := 190) (pc' := 195) rfl (hb hby at_190) (by decide) (by decide) ?_
          refine XS.astore X61.here hx rfl (hb hby at_195) rfl rfl (l' := #[.val (.long z0), .second, .val (.int p1), .val (.int p2), .val (.int p3), .val (.int p4), .val (.long (z0 - (8 : Int64))), .second, .val (.int (0 : Int32)), .val (.int (1 : Int32)), .val (.ref r35), .val (.ref r37), .val (.ref r39), .val (.ref b41), .val (.int (1 : Int32)), .val (.long ((z0 - (8 : Int64)) + (1 : Int64))), .second, .val (.long ((z0 - (8 : Int64)) + (1 : Int64))), .second, .val (.long (((z0 - (8 : Int64)) + (1 : Int64)) - (1 : Int64))), .second, .val .null, .unset]) rfl ?_
          refine XS.aload X61.here hx rfl (hb hby at_197) rfl rfl ?_
          refine st63.trans ?_
          show Steps p.tables e below (T63.setTop (mkF m 202 #[.val (.long z0), .second, .val (.int p1), .val (.int p2), .val (.int p3), .val (.int p4), .val (.long (z0 - (8 : Int64))), .second, .val (.int (0 : Int32)), .val (.int (1 : Int32)), .val (.ref r35), .val (.ref r37), .val (.ref r39), .val (.ref b41), .val (.int (1 : Int32)), .val (.long ((z0 - (8 : Int64)) + (1 : Int64))), .second, .val (.long ((z0 - (8 : Int64)) + (1 : Int64))), .second, .val (.long (((z0 - (8 : Int64)) + (1 : Int64)) - (1 : Int64))), .second, .val .null, .unset] [(.int (1 : Int32))])) _
          refine XS.iload X63.here hx rfl (hb hby at_202) rfl ?_
          refine XS.icmpNo X63.here hx rfl (hb hby at_204) rfl (teq (by decide : (1 : Int32) = (1 : Int32))).2 ?_
          refine XS.iconst X63.here hx rfl (hb hby at_207) ?_
          refine XS.goto X63.here hx rfl (pc0 := 208) (pc' := 212) rfl (hb hby at_208) (by decide) (by decide) ?_
          refine XS.istore X63.here hx rfl (hb hby at_212) rfl (l' := #[.val (.long z0), .second, .val (.int p1), .val (.int p2), .val (.int p3), .val (.int p4), .val (.long (z0 - (8 : Int64))), .second, .val (.int (0 : Int32)), .val (.int (1 : Int32)), .val (.ref r35), .val (.ref r37), .val (.ref r39), .val (.ref b41), .val (.int (1 : Int32)), .val (.long ((z0 - (8 : Int64)) + (1 : Int64))), .second, .val (.long ((z0 - (8 : Int64)) + (1 : Int64))), .second, .val (.long (((z0 - (8 : Int64)) + (1 : Int64)) - (1 : Int64))), .second, .val .null, .val (.int (1 : Int32))]) rfl ?_
          refine XS.iload X63.here hx rfl (hb hby at_214) rfl ?_
          show Steps p.tables e below (T63.setTop (mkF m 216 #[.val (.long z0), .second, .val (.int p1), .val (.int p2), .val (.int p3), .val (.int p4), .val (.long (z0 - (8 : Int64))), .second, .val (.int (0 : Int32)), .val (.int (1 : Int32)), .val (.ref r35), .val (.ref r37), .val (.ref r39), .val (.ref b41), .val (.int (1 : Int32)), .val (.long ((z0 - (8 : Int64)) + (1 : Int64))), .second, .val (.long ((z0 - (8 : Int64)) + (1 : Int64))), .second, .val (.long (((z0 - (8 : Int64)) + (1 : Int64)) - (1 : Int64))), .second, .val .null, .val (.int (1 : Int32))] [(.int (1 : Int32))])) _
          refine XS.ifNo X63.here hx rfl (hb hby at_216) rfl ((if0 _ _).trans (feq (by decide : ¬ ((1 : Int32) = (0 : Int32)))).1) ?_
          refine XS.aload X63.here hx rfl (hb hby at_219) rfl rfl ?_
          refine st64.trans ?_
          refine XS.lload X64.here hx rfl (hb hby at_224) rfl ?_
          refine XS.lcmp X64.here hx rfl (hb hby at_226) rfl ?_
          refine XS.ifNo X64.here hx rfl (hb hby at_227) rfl ((if0 _ _).trans (teq ((lw_eq _ _).mpr rfl)).2) ?_
          show Steps p.tables e below (T64.setTop (mkF m 230 #[.val (.long z0), .second, .val (.int p1), .val (.int p2), .val (.int p3), .val (.int p4), .val (.long (z0 - (8 : Int64))), .second, .val (.int (0 : Int32)), .val (.int (1 : Int32)), .val (.ref r35), .val (.ref r37), .val (.ref r39), .val (.ref b41), .val (.int (1 : Int32)), .val (.long ((z0 - (8 : Int64)) + (1 : Int64))), .second, .val (.long ((z0 - (8 : Int64)) + (1 : Int64))), .second, .val (.long (((z0 - (8 : Int64)) + (1 : Int64)) - (1 : Int64))), .second, .val .null, .val (.int (1 : Int32))] [])) _
          refine XS.iconst X64.here hx rfl (hb hby at_230) ?_
          refine XS.goto X64.here hx rfl (pc0 := 231) (pc' := 235) rfl (hb hby at_231) (by decide) (by decide) ?_
          refine XS.istore X64.here hx rfl (hb hby at_235) rfl (l' := #[.val (.long z0), .second, .val (.int p1), .val (.int p2), .val (.int p3), .val (.int p4), .val (.long (z0 - (8 : Int64))), .second, .val (.int (0 : Int32)), .val (.int (1 : Int32)), .val (.ref r35), .val (.ref r37), .val (.ref r39), .val (.ref b41), .val (.int (1 : Int32)), .val (.long ((z0 - (8 : Int64)) + (1 : Int64))), .second, .val (.long ((z0 - (8 : Int64)) + (1 : Int64))), .second, .val (.long (((z0 - (8 : Int64)) + (1 : Int64)) - (1 : Int64))), .second, .val .null, .val (.int (1 : Int32))]) rfl ?_
          refine XS.iload X64.here hx rfl (hb hby at_237) rfl ?_
          refine XS.ifNo X64.here hx rfl (hb hby at_239) rfl ((if0 _ _).trans (feq (by decide : ¬ ((1 : Int32) = (0 : Int32)))).1) ?_
          refine XS.aload X64.here hx rfl (hb hby at_242) rfl rfl ?_
          show Steps p.tables e below (T64.setTop (mkF m 244 #[.val (.long z0), .second, .val (.int p1), .val (.int p2), .val (.int p3), .val (.int p4), .val (.long (z0 - (8 : Int64))), .second, .val (.int (0 : Int32)), .val (.int (1 : Int32)), .val (.ref r35), .val (.ref r37), .val (.ref r39), .val (.ref b41), .val (.int (1 : Int32)), .val (.long ((z0 - (8 : Int64)) + (1 : Int64))), .second, .val (.long ((z0 - (8 : Int64)) + (1 : Int64))), .second, .val (.long (((z0 - (8 : Int64)) + (1 : Int64)) - (1 : Int64))), .second, .val .null, .val (.int (1 : Int32))] [(.ref b41)])) _
          refine XS.lload X64.here hx rfl (hb hby at_244) rfl ?_
          refine st65.trans ?_
          refine XS.aload X65.here hx rfl (hb hby at_249) rfl rfl ?_
          refine Jvm.RoadKit.acmp (g := (mkF m 251 #[.val (.long z0), .second, .val (.int p1), .val (.int p2), .val (.int p3), .val (.int p4), .val (.long (z0 - (8 : Int64))), .second, .val (.int (0 : Int32)), .val (.int (1 : Int32)), .val (.ref r35), .val (.ref r37), .val (.ref r39), .val (.ref b41), .val (.int (1 : Int32)), .val (.long ((z0 - (8 : Int64)) + (1 : Int64))), .second, .val (.long ((z0 - (8 : Int64)) + (1 : Int64))), .second, .val (.long (((z0 - (8 : Int64)) + (1 : Int64)) - (1 : Int64))), .second, .val .null, .val (.int (1 : Int32))] [(.ref r39), (.ref r39)])) X65 hx rfl rfl rfl (pc0 := 251) (pc' := 254) (same := true) rfl (hb hby at_251) rfl (decide_eq_true rfl) (by decide) (by decide) ?_
          refine XS.iconst X65.here hx rfl (hb hby at_254) ?_
          refine XS.goto X65.here hx rfl (pc0 := 255) (pc' := 259) rfl (hb hby at_255) (by decide) (by decide) ?_
          show Steps p.tables e below (T65.setTop (mkF m 259 #[.val (.long z0), .second, .val (.int p1), .val (.int p2), .val (.int p3), .val (.int p4), .val (.long (z0 - (8 : Int64))), .second, .val (.int (0 : Int32)), .val (.int (1 : Int32)), .val (.ref r35), .val (.ref r37), .val (.ref r39), .val (.ref b41), .val (.int (1 : Int32)), .val (.long ((z0 - (8 : Int64)) + (1 : Int64))), .second, .val (.long ((z0 - (8 : Int64)) + (1 : Int64))), .second, .val (.long (((z0 - (8 : Int64)) + (1 : Int64)) - (1 : Int64))), .second, .val .null, .val (.int (1 : Int32))] [(.int (1 : Int32))])) _
          refine XS.istore X65.here hx rfl (hb hby at_259) rfl (l' := #[.val (.long z0), .second, .val (.int p1), .val (.int p2), .val (.int p3), .val (.int p4), .val (.long (z0 - (8 : Int64))), .second, .val (.int (0 : Int32)), .val (.int (1 : Int32)), .val (.ref r35), .val (.ref r37), .val (.ref r39), .val (.ref b41), .val (.int (1 : Int32)), .val (.long ((z0 - (8 : Int64)) + (1 : Int64))), .second, .val (.long ((z0 - (8 : Int64)) + (1 : Int64))), .second, .val (.long (((z0 - (8 : Int64)) + (1 : Int64)) - (1 : Int64))), .second, .val .null, .val (.int (1 : Int32))]) rfl ?_
          refine XS.iload X65.here hx rfl (hb hby at_261) rfl ?_
          refine XS.ifNo X65.here hx rfl (hb hby at_263) rfl ((if0 _ _).trans (feq (by decide : ¬ ((1 : Int32) = (0 : Int32)))).1) ?_
          refine XS.aload X65.here hx rfl (hb hby at_266) rfl rfl ?_
          refine XS.lload X65.here hx rfl (hb hby at_268) rfl ?_
          refine st66.trans ?_
          show Steps p.tables e below (T66.setTop (mkF m 273 #[.val (.long z0), .second, .val (.int p1), .val (.int p2), .val (.int p3), .val (.int p4), .val (.long (z0 - (8 : Int64))), .second, .val (.int (0 : Int32)), .val (.int (1 : Int32)), .val (.ref r35), .val (.ref r37), .val (.ref r39), .val (.ref b41), .val (.int (1 : Int32)), .val (.long ((z0 - (8 : Int64)) + (1 : Int64))), .second, .val (.long ((z0 - (8 : Int64)) + (1 : Int64))), .second, .val (.long (((z0 - (8 : Int64)) + (1 : Int64)) - (1 : Int64))), .second, .val .null, .val (.int (1 : Int32))] [.null])) _
          refine XS.aload X66.here hx rfl (hb hby at_273) rfl rfl ?_
          refine Jvm.RoadKit.acmp (g := (mkF m 275 #[.val (.long z0), .second, .val (.int p1), .val (.int p2), .val (.int p3), .val (.int p4), .val (.long (z0 - (8 : Int64))), .second, .val (.int (0 : Int32)), .val (.int (1 : Int32)), .val (.ref r35), .val (.ref r37), .val (.ref r39), .val (.ref b41), .val (.int (1 : Int32)), .val (.long ((z0 - (8 : Int64)) + (1 : Int64))), .second, .val (.long ((z0 - (8 : Int64)) + (1 : Int64))), .second, .val (.long (((z0 - (8 : Int64)) + (1 : Int64)) - (1 : Int64))), .second, .val .null, .val (.int (1 : Int32))] [.null, .null])) X66 hx rfl rfl rfl (pc0 := 275) (pc' := 278) (same := true) rfl (hb hby at_275) rfl (decide_eq_true rfl) (by decide) (by decide) ?_
          refine XS.iconst X66.here hx rfl (hb hby at_278) ?_
          refine XS.goto X66.here hx rfl (pc0 := 279) (pc' := 283) rfl (hb hby at_279) (by decide) (by decide) ?_
          refine XS.istore X66.here hx rfl (hb hby at_283) rfl (l' := #[.val (.long z0), .second, .val (.int p1), .val (.int p2), .val (.int p3), .val (.int p4), .val (.long (z0 - (8 : Int64))), .second, .val (.int (0 : Int32)), .val (.int (1 : Int32)), .val (.ref r35), .val (.ref r37), .val (.ref r39), .val (.ref b41), .val (.int (1 : Int32)), .val (.long ((z0 - (8 : Int64)) + (1 : Int64))), .second, .val (.long ((z0 - (8 : Int64)) + (1 : Int64))), .second, .val (.long (((z0 - (8 : Int64)) + (1 : Int64)) - (1 : Int64))), .second, .val .null, .val (.int (1 : Int32))]) rfl ?_
          refine XS.iload X66.here hx rfl (hb hby at_285) rfl ?_
          show Steps p.tables e below (T66.setTop (mkF m 287 #[.val (.long z0), .second, .val (.int p1), .val (.int p2), .val (.int p3), .val (.int p4), .val (.long (z0 - (8 : Int64))), .second, .val (.int (0 : Int32)), .val (.int (1 : Int32)), .val (.ref r35), .val (.ref r37), .val (.ref r39), .val (.ref b41), .val (.int (1 : Int32)), .val (.long ((z0 - (8 : Int64)) + (1 : Int64))), .second, .val (.long ((z0 - (8 : Int64)) + (1 : Int64))), .second, .val (.long (((z0 - (8 : Int64)) + (1 : Int64)) - (1 : Int64))), .second, .val .null, .val (.int (1 : Int32))] [(.int (1 : Int32))])) _
          refine XS.ifNo X66.here hx rfl (hb hby at_287) rfl ((if0 _ _).trans (feq (by decide : ¬ ((1 : Int32) = (0 : Int32)))).1) ?_
          refine XS.aload X66.here hx rfl (hb hby at_290) rfl rfl ?_
          refine XS.lload X66.here hx rfl (hb hby at_292) rfl ?_
          refine XS.lconst X66.here hx rfl (hb hby at_294) ?_
          refine XS.ladd X66.here hx rfl (hb hby at_295) rfl ?_
          refine st67.trans ?_
          show Steps p.tables e below (T67.setTop (mkF m 299 #[.val (.long z0), .second, .val (.int p1), .val (.int p2), .val (.int p3), .val (.int p4), .val (.long (z0 - (8 : Int64))), .second, .val (.int (0 : Int32)), .val (.int (1 : Int32)), .val (.ref r35), .val (.ref r37), .val (.ref r39), .val (.ref b41), .val (.int (1 : Int32)), .val (.long ((z0 - (8 : Int64)) + (1 : Int64))), .second, .val (.long ((z0 - (8 : Int64)) + (1 : Int64))), .second, .val (.long (((z0 - (8 : Int64)) + (1 : Int64)) - (1 : Int64))), .second, .val .null, .val (.int (1 : Int32))] [.null])) _
          refine XS.ifnonnullNo X67.here hx rfl (hb hby at_299) rfl ?_
          refine XS.iconst X67.here hx rfl (hb hby at_302) ?_
          refine XS.goto X67.here hx rfl (pc0 := 303) (pc' := 307) rfl (hb hby at_303) (by decide) (by decide) ?_
          refine XS.istore X67.here hx rfl (hb hby at_307) rfl (l' := #[.val (.long z0), .second, .val (.int p1), .val (.int p2), .val (.int p3), .val (.int p4), .val (.long (z0 - (8 : Int64))), .second, .val (.int (0 : Int32)), .val (.int (1 : Int32)), .val (.ref r35), .val (.ref r37), .val (.ref r39), .val (.ref b41), .val (.int (1 : Int32)), .val (.long ((z0 - (8 : Int64)) + (1 : Int64))), .second, .val (.long ((z0 - (8 : Int64)) + (1 : Int64))), .second, .val (.long (((z0 - (8 : Int64)) + (1 : Int64)) - (1 : Int64))), .second, .val .null, .val (.int (1 : Int32))]) rfl ?_
          refine XS.iload X67.here hx rfl (hb hby at_309) rfl ?_
          exact retN X67 hx (t := .boolean) Bd.returns (by simp) (hb hby at_311) hr
        · show Q0 n0 _ T67.heap _
          rw [e67]
          exact ⟨rfl, N67⟩
    · have gp68 : Go p e below s₁ f₀ s₁ (mkF m 37 #[.val (.long z0), .second, .val (.int p1), .val (.int p2), .val (.int p3), .val (.int p4), .val (.long (z0 - (8 : Int64))), .second, .val (.int (1 : Int32)), .unset, .unset, .unset, .unset, .unset, .unset, .unset, .unset, .unset, .unset, .unset, .unset, .unset, .unset] [(.int (p4 &&& (2 : Int32)))]) := fun t kt => gp2 t (by
        refine XS.ifNo X0.here hx rfl (hb hby at_23) rfl ((if0 _ _).trans (feq hc23).1) ?_
        show Steps p.tables e below (s₁.setTop (mkF m 26 #[.val (.long z0), .second, .val (.int p1), .val (.int p2), .val (.int p3), .val (.int p4), .val (.long (z0 - (8 : Int64))), .second, .unset, .unset, .unset, .unset, .unset, .unset, .unset, .unset, .unset, .unset, .unset, .unset, .unset, .unset, .unset] [])) _
        refine XS.iconst X0.here hx rfl (hb hby at_26) ?_
        refine XS.goto X0.here hx rfl (pc0 := 27) (pc' := 31) rfl (hb hby at_27) (by decide) (by decide) ?_
        refine XS.istore X0.here hx rfl (hb hby at_31) rfl (l' := #[.val (.long z0), .second, .val (.int p1), .val (.int p2), .val (.int p3), .val (.int p4), .val (.long (z0 - (8 : Int64))), .second, .val (.int (1 : Int32)), .unset, .unset, .unset, .unset, .unset, .unset, .unset, .unset, .unset, .unset, .unset, .unset, .unset, .unset]) rfl ?_
        refine XS.iload X0.here hx rfl (hb hby at_33) rfl ?_
        refine XS.iconst X0.here hx rfl (hb hby at_35) ?_
        refine XS.iand X0.here hx rfl (hb hby at_36) rfl ?_
        show Steps p.tables e below (s₁.setTop (mkF m 37 #[.val (.long z0), .second, .val (.int p1), .val (.int p2), .val (.int p3), .val (.int p4), .val (.long (z0 - (8 : Int64))), .second, .val (.int (1 : Int32)), .unset, .unset, .unset, .unset, .unset, .unset, .unset, .unset, .unset, .unset, .unset, .unset, .unset, .unset] [(.int (p4 &&& (2 : Int32)))])) _
        exact kt)
      by_cases hc37 : (p4 &&& (2 : Int32)) = (0 : Int32)
      · obtain ⟨_, _, ⟨T69, L69, k69, n69⟩, -, X69, ⟨Lc69, hQ69, l69, y69, z69⟩, st69⟩ := Jvm.LawKit.callS X0 hx (y := my_2) hown (mvT hZ (wq hw 1 rfl)) (mvT hZ (wq hw 2 rfl)) (mvT hZ (wq hw 3 rfl)) (mvT hZ (wq hw 4 rfl)) (by decide) (backOf (W := 0) (rm_val l Z a0 hw [] ca cc hL p1 h0 n0 O0) hZ (wq hw 4 rfl) (wq hw 3 rfl) (by decide) (by decide)) (g := (mkF m 48 #[.val (.long z0), .second, .val (.int p1), .val (.int p2), .val (.int p3), .val (.int p4), .val (.long (z0 - (8 : Int64))), .second, .val (.int (1 : Int32)), .val (.int (0 : Int32)), .unset, .unset, .unset, .unset, .unset, .unset, .unset, .unset, .unset, .unset, .unset, .unset, .unset] [(.int p1)])) rfl (by rw [hml]; rfl) (argsL := [(.int p1)]) (rest := []) (lenOf pd_2 rfl) rfl (by show 2 * 0 + _ ≤ _; exact Nat.le_of_eq rfl) (hb hby at_48) (fun _ _ => ⟨rfl, e0, (by decide : 0 + 1 ≤ _), (by decide : 0 + 1 ≤ _)⟩)
        dsimp only [Pt.U, Pt.locs, Pt.cells, Pt.slots] at X69 l69 y69 z69 st69 hQ69
        have X69 := own_to X69 l69 y69 z69
        obtain ⟨r69, rfl, N69q, K69, E69q⟩ := hQ69
        have N69 := Fr.app N0 N69q
        have O70 : Old Z n0 T69.heap := Old.keep O0 K69 all0
        obtain ⟨_, _, ⟨T71, L71, k71, n71⟩, -, X71, ⟨Lc71, hQ71, l71, y71, z71⟩, st71⟩ := Jvm.LawKit.callS X69 hx (y := my_2) hown (mvT hZ (wq hw 1 rfl)) (mvT hZ (wq hw 2 rfl)) (mvT hZ (wq hw 3 rfl)) (mvT hZ (wq hw 4 rfl)) (by decide) (backOf (W := 0) (rm_val l Z a0 hw [] ca cc hL p2 T69.heap n0 O70) hZ (wq hw 4 rfl) (wq hw 3 rfl) (by decide) (by decide)) (g := (mkF m 54 #[.val (.long z0), .second, .val (.int p1), .val (.int p2), .val (.int p3), .val (.int p4), .val (.long (z0 - (8 : Int64))), .second, .val (.int (1 : Int32)), .val (.int (0 : Int32)), .val (.ref r69), .unset, .unset, .unset, .unset, .unset, .unset, .unset, .unset, .unset, .unset, .unset, .unset] [(.int p2)])) rfl (by rw [hml]; rfl) (argsL := [(.int p2)]) (rest := []) (lenOf pd_2 rfl) rfl (by show 2 * 0 + _ ≤ _; exact Nat.le_of_eq rfl) (hb hby at_54) (fun _ _ => ⟨rfl, rfl, (by decide : 1 + 1 ≤ _), (by decide : 1 + 1 ≤ _)⟩)
        dsimp only [Pt.U, Pt.locs, Pt.cells, Pt.slots] at X71 l71 y71 z71 st71 hQ71
        have X71 := own_to X71 l71 y71 z71
        obtain ⟨r71, rfl, N71q, K71, E71q⟩ := hQ71
        have N71 := Fr.app N69 N71q
        have O72 : Old Z n0 T71.heap := Old.keep O70 K71 all0
        obtain ⟨_, _, ⟨T73, L73, k73, n73⟩, -, X73, ⟨Lc73, hQ73, l73, y73, z73⟩, st73⟩ := Jvm.LawKit.callS X71 hx (y := my_2) hown (mvT hZ (wq hw 1 rfl)) (mvT hZ (wq hw 2 rfl)) (mvT hZ (wq hw 3 rfl)) (mvT hZ (wq hw 4 rfl)) (by decide) (backOf (W := 0) (rm_val l Z a0 hw [] ca cc hL p3 T71.heap n0 O72) hZ (wq hw 4 rfl) (wq hw 3 rfl) (by decide) (by decide)) (g := (mkF m 61 #[.val (.long z0), .second, .val (.int p1), .val (.int p2), .val (.int p3), .val (.int p4), .val (.long (z0 - (8 : Int64))), .second, .val (.int (1 : Int32)), .val (.int (0 : Int32)), .val (.ref r69), .val (.ref r71), .unset, .unset, .unset, .unset, .unset, .unset, .unset, .unset, .unset, .unset, .unset] [(.int p3)])) rfl (by rw [hml]; rfl) (argsL := [(.int p3)]) (rest := []) (lenOf pd_2 rfl) rfl (by show 2 * 0 + _ ≤ _; exact Nat.le_of_eq rfl) (hb hby at_61) (fun _ _ => ⟨rfl, rfl, (by decide : 2 + 1 ≤ _), (by decide : 2 + 1 ≤ _)⟩)
        dsimp only [Pt.U, Pt.locs, Pt.cells, Pt.slots] at X73 l73 y73 z73 st73 hQ73
        have X73 := own_to X73 l73 y73 z73
        obtain ⟨r73, rfl, N73q, K73, E73q⟩ := hQ73
        have N73 := Fr.app N71 N73q
        have O74 : Old Z n0 T73.heap := Old.keep O72 K73 all0
        obtain ⟨T75, h75, X75, e75, E75, A75, D75, -, st75⟩ := newO X73 hx hZ hown (wq hw 8 rfl) (wq hw 9 rfl) (wq hw 10 rfl) rfl (g := (mkF m 66 #[.val (.long z0), .second, .val (.int p1), .val (.int p2), .val (.int p3), .val (.int p4), .val (.long (z0 - (8 : Int64))), .second, .val (.int (1 : Int32)), .val (.int (0 : Int32)), .val (.ref r69), .val (.ref r71), .val (.ref r73), .unset, .unset, .unset, .unset, .unset, .unset, .unset, .unset, .unset, .unset] [])) rfl (hb hby at_66) (by decide) (by decide)
        obtain ⟨b75, gb75⟩ : ∃ z, z = T73.heap.size := ⟨_, rfl⟩
        rw [← gb75] at A75 D75 st75
        have t76 : Exa Z T73.heap r69 nIntege_0 := ((E69q.keep K71).keep K73)
        have ne77 : r69 ≠ b75 := Nat.ne_of_lt (Nat.lt_of_lt_of_le t76.lt (Nat.le_of_eq gb75.symm))
        have t78 : Exa Z T73.heap r71 nIntege_0 := (E71q.keep K73)
        have ne79 : r71 ≠ b75 := Nat.ne_of_lt (Nat.lt_of_lt_of_le t78.lt (Nat.le_of_eq gb75.symm))
        have ne80 : r73 ≠ b75 := Nat.ne_of_lt (Nat.lt_of_lt_of_le E73q.lt (Nat.le_of_eq gb75.symm))
        have g81 : n0 ≤ b75 := Nat.le_trans (Nat.le_of_eq O74.1.symm) (Nat.le_trans O74.2.1 (Nat.le_of_eq gb75.symm))
        have O82 : Old Z n0 h75 := Old.ext O74 E75
        have f83 : Fld Z h75 b75 nConsec_1 "values" "[Ljava/lang/Object;" .null := D75 (Or.inl (wq hw 20 rfl)) (ty := (.array (.object nObject_2))) (by decide)
        have f84 : Fld Z h75 b75 nConsec_1 "first" "J" (.long (0 : Int64)) := D75 (Or.inl (wq hw 22 rfl)) (ty := .long) (by decide)
        have f85 : Fld Z h75 b75 nConsec_1 "size" "I" (.int (0 : Int32)) := D75 (Or.inl (wq hw 29 rfl)) (ty := .int) (by decide)
        have f86 : Fld Z h75 b75 nConsec_1 "head" "I" (.int (0 : Int32)) := D75 (Or.inl (wq hw 31 rfl)) (ty := .int) (by decide)
        obtain ⟨_, _, ⟨T87, L87, k87, n87⟩, -, X87, ⟨Lc87, hQ87, l87, y87, z87⟩, st87⟩ := X75.specialBack hx (y := my_3) rfl hown (mvT hZ (wq hw 11 rfl)) (mvT hZ (wq hw 12 rfl)) (mvT hZ (wq hw 13 rfl)) (by decide) (backOf (W := 1) (rm_rin l Z a0 hw [] b75 (z0 - (8 : Int64)) h75 n0 O82 g81 A75 f83 f85 f86 f84) hZ (wq hw 13 rfl) (wq hw 10 rfl) (by decide) (by decide)) (g := (mkF m 72 #[.val (.long z0), .second, .val (.int p1), .val (.int p2), .val (.int p3), .val (.int p4), .val (.long (z0 - (8 : Int64))), .second, .val (.int (1 : Int32)), .val (.int (0 : Int32)), .val (.ref r69), .val (.ref r71), .val (.ref r73), .unset, .unset, .unset, .unset, .unset, .unset, .unset, .unset, .unset, .unset] [(.long (z0 - (8 : Int64))), (.ref b75), (.ref b75)])) rfl (by rw [hml]; rfl) (Steps.refl _) (a := b75) (argsL := [(.long (z0 - (8 : Int64)))]) (rest := [(.ref b75)]) (lenOf pd_3 rfl) rfl (by show 2 * 0 + _ ≤ _; exact Nat.le_of_eq rfl) (hb hby at_72) (fun _ _ => ⟨rfl, e75, (by decide : 4 + 1 ≤ _), (by decide : 7 + 16 ≤ _)⟩)
        dsimp only [Pt.U, Pt.locs, Pt.cells, Pt.slots] at X87 l87 y87 z87 st87 hQ87
        have X87 := own_to X87 l87 y87 z87
        obtain ⟨bb87, kk87, rfl, N87q, K87, R87⟩ := hQ87
        have N87 := Fr.app N73 N87q
        have O88 : Old Z n0 T87.heap := Old.keep O82 K87 (allS g81 all0)
        obtain ⟨ER87, FV87, FS87, FH87, FF87, VV87, OV87, ga87, gbb87⟩ := (id R87)
        have t89 : Exa Z T87.heap r69 nIntege_0 := ((t76.ext E75).keep K87)
        obtain ⟨cq90, kq90, q90a, q90b, q90c⟩ := isOf hZ rfl (ER87)
        obtain ⟨_, _, ⟨T90, L90, k90, n90⟩, -, X90, ⟨Lc90, hQ90, l90, y90, z90⟩, st90⟩ := X87.virtualBack hx (y := my_6) (z := my_6) hown (mvT hZ (wq hw 23 rfl)) (mvT hZ (wq hw 24 rfl)) (notFace_of_selects (args := #[]) (mvT hZ (wq hw 26 rfl))) (mvT hZ (wq hw 26 rfl)) (mvT hZ (wq hw 25 rfl)) (by decide) (backOf (W := 0) (rm_add_0_0_NNN l Z a0 hw [] b75 bb87 kk87  (z0 - (8 : Int64)) T87.heap n0 O88 R87 r69 t89) hZ (wq hw 27 rfl) (wq hw 10 rfl) (by decide) (by decide)) q90a q90c (g := (mkF m 86 #[.val (.long z0), .second, .val (.int p1), .val (.int p2), .val (.int p3), .val (.int p4), .val (.long (z0 - (8 : Int64))), .second, .val (.int (1 : Int32)), .val (.int (0 : Int32)), .val (.ref r69), .val (.ref r71), .val (.ref r73), .val (.ref b75), .unset, .unset, .unset, .unset, .unset, .unset, .unset, .unset, .unset] [(.ref r69), (.ref b75)])) rfl (by rw [hml]; rfl) (Steps.refl _) (argsL := [(.ref r69)]) (rest := []) (lenOf pd_4 rfl) rfl (by show 2 * 0 + _ ≤ _; exact Nat.le_of_eq rfl) (hb hby at_86) (fun _ _ => ⟨rfl, rfl, (by decide : 5 + 0 ≤ _), (by decide : 23 + 0 ≤ _)⟩)
        dsimp only [Pt.U, Pt.locs, Pt.cells, Pt.slots] at X90 l90 y90 z90 st90 hQ90
        have X90 := own_to X90 l90 y90 z90
        obtain ⟨rfl, N90q, K90, R90⟩ := hQ90
        have N90 := Fr.app N87 N90q
        have O91 : Old Z n0 T90.heap := Old.keep O88 K90 (allS g81 (allS gbb87 all0))
        have ER90 := R90.1
        have t92 : Exa Z T90.heap r71 nIntege_0 := (((t78.ext E75).keep K87).keep K90)
        obtain ⟨cq93, kq93, q93a, q93b, q93c⟩ := isOf hZ rfl (ER90)
        obtain ⟨_, _, ⟨T93, L93, k93, n93⟩, -, X93, ⟨Lc93, hQ93, l93, y93, z93⟩, st93⟩ := X90.virtualBack hx (y := my_6) (z := my_6) hown (mvT hZ (wq hw 23 rfl)) (mvT hZ (wq hw 24 rfl)) (notFace_of_selects (args := #[]) (mvT hZ (wq hw 26 rfl))) (mvT hZ (wq hw 26 rfl)) (mvT hZ (wq hw 25 rfl)) (by decide) (backOf (W := 0) (rm_add_1_0_RNN l Z a0 hw [] b75 bb87 kk87 r69 (z0 - (8 : Int64)) T90.heap n0 O91 R90 r71 t92) hZ (wq hw 27 rfl) (wq hw 10 rfl) (by decide) (by decide)) q93a q93c (g := (mkF m 93 #[.val (.long z0), .second, .val (.int p1), .val (.int p2), .val (.int p3), .val (.int p4), .val (.long (z0 - (8 : Int64))), .second, .val (.int (1 : Int32)), .val (.int (0 : Int32)), .val (.ref r69), .val (.ref r71), .val (.ref r73), .val (.ref b75), .unset, .unset, .unset, .unset, .unset, .unset, .unset, .unset, .unset] [(.ref r71), (.ref b75)])) rfl (by rw [hml]; rfl) (Steps.refl _) (argsL := [(.ref r71)]) (rest := []) (lenOf pd_4 rfl) rfl (by show 2 * 0 + _ ≤ _; exact Nat.le_of_eq rfl) (hb hby at_93) (fun _ _ => ⟨rfl, rfl, (by decide : 5 + 0 ≤ _), (by decide : 23 + 0 ≤ _)⟩)
        dsimp only [Pt.U, Pt.locs, Pt.cells, Pt.slots] at X93 l93 y93 z93 st93 hQ93
        have X93 := own_to X93 l93 y93 z93
        obtain ⟨rfl, N93q, K93, R93⟩ := hQ93
        have N93 := Fr.app N90 N93q
        have O94 : Old Z n0 T93.heap := Old.keep O91 K93 (allS g81 (allS gbb87 all0))
        have ER93 := R93.1
        have t95 : Exa Z T93.heap r73 nIntege_0 := ((((E73q.ext E75).keep K87).keep K90).keep K93)
        obtain ⟨cq96, kq96, q96a, q96b, q96c⟩ := isOf hZ rfl (ER93)
        obtain ⟨_, _, ⟨T96, L96, k96, n96⟩, -, X96, ⟨Lc96, hQ96, l96, y96, z96⟩, st96⟩ := X93.virtualBack hx (y := my_6) (z := my_6) hown (mvT hZ (wq hw 23 rfl)) (mvT hZ (wq hw 24 rfl)) (notFace_of_selects (args := #[]) (mvT hZ (wq hw 26 rfl))) (mvT hZ (wq hw 26 rfl)) (mvT hZ (wq hw 25 rfl)) (by decide) (backOf (W := 0) (rm_add_2_0_RRN l Z a0 hw [] b75 bb87 kk87 r69 r71 (z0 - (8 : Int64)) T93.heap n0 O94 R93 r73 t95) hZ (wq hw 27 rfl) (wq hw 10 rfl) (by decide) (by decide)) q96a q96c (g := (mkF m 111 #[.val (.long z0), .second, .val (.int p1), .val (.int p2), .val (.int p3), .val (.int p4), .val (.long (z0 - (8 : Int64))), .second, .val (.int (1 : Int32)), .val (.int (0 : Int32)), .val (.ref r69), .val (.ref r71), .val (.ref r73), .val (.ref b75), .unset, .unset, .unset, .unset, .unset, .unset, .unset, .unset, .unset] [(.ref r73), (.ref b75)])) rfl (by rw [hml]; rfl) (Steps.refl _) (argsL := [(.ref r73)]) (rest := []) (lenOf pd_4 rfl) rfl (by show 2 * 0 + _ ≤ _; exact Nat.le_of_eq rfl) (hb hby at_111) (fun _ _ => ⟨rfl, rfl, (by decide : 5 + 0 ≤ _), (by decide : 23 + 0 ≤ _)⟩)
        dsimp only [Pt.U, Pt.locs, Pt.cells, Pt.slots] at X96 l96 y96 z96 st96 hQ96
        have X96 := own_to X96 l96 y96 z96
        obtain ⟨rfl, N96q, K96, R96⟩ := hQ96
        have N96 := Fr.app N93 N96q
        have O97 : Old Z n0 T96.heap := Old.keep O94 K96 (allS g81 (allS gbb87 all0))
        have ER96 := R96.1
        obtain ⟨cq98, kq98, q98a, q98b, q98c⟩ := isOf hZ rfl (ER96)
        obtain ⟨_, _, ⟨T98, L98, k98, n98⟩, -, X98, ⟨Lc98, hQ98, l98, y98, z98⟩, st98⟩ := X96.virtualBack hx (y := my_4) (z := my_4) hown (mvT hZ (wq hw 49 rfl)) (mvT hZ (wq hw 50 rfl)) (notFace_of_selects (args := #[]) (mvT hZ (wq hw 52 rfl))) (mvT hZ (wq hw 52 rfl)) (mvT hZ (wq hw 51 rfl)) (by decide) (backOf (W := 0) (rm_siz l Z a0 hw [] b75 (3 : Int32) T96.heap n0 R96.2.2.1) hZ (wq hw 53 rfl) (wq hw 10 rfl) (by decide) (by decide)) q98a q98c (g := (mkF m 199 #[.val (.long z0), .second, .val (.int p1), .val (.int p2), .val (.int p3), .val (.int p4), .val (.long (z0 - (8 : Int64))), .second, .val (.int (1 : Int32)), .val (.int (0 : Int32)), .val (.ref r69), .val (.ref r71), .val (.ref r73), .val (.ref b75), .val (.int (3 : Int32)), .val (.long ((z0 - (8 : Int64)) + (0 : Int64))), .second, .val (.long ((z0 - (8 : Int64)) + (2 : Int64))), .second, .val (.long (((z0 - (8 : Int64)) + (2 : Int64)) - (1 : Int64))), .second, .val (.ref r71), .unset] [(.ref b75)])) rfl (by rw [hml]; rfl) (Steps.refl _) (argsL := []) (rest := []) (lenOf pd_5 rfl) rfl (by show 2 * 0 + _ ≤ _; exact Nat.le_of_eq rfl) (hb hby at_199) (fun _ _ => ⟨rfl, rfl, (by decide : 5 + 0 ≤ _), (by decide : 23 + 0 ≤ _)⟩)
        dsimp only [Pt.U, Pt.locs, Pt.cells, Pt.slots] at X98 l98 y98 z98 st98 hQ98
        have X98 := own_to X98 l98 y98 z98
        obtain ⟨rfl, N98q, e98⟩ := hQ98
        have N98 := Fr.app N96 N98q
        obtain ⟨cq99, kq99, q99a, q99b, q99c⟩ := isOf hZ e98 (ER96)
        obtain ⟨_, _, ⟨T99, L99, k99, n99⟩, -, X99, ⟨Lc99, hQ99, l99, y99, z99⟩, st99⟩ := X98.virtualBack hx (y := my_5) (z := my_5) hown (mvT hZ (wq hw 54 rfl)) (mvT hZ (wq hw 55 rfl)) (notFace_of_selects (args := #[]) (mvT hZ (wq hw 57 rfl))) (mvT hZ (wq hw 57 rfl)) (mvT hZ (wq hw 56 rfl)) (by decide) (backOf (W := 0) (rm_fnu l Z a0 hw [] b75 (z0 - (8 : Int64)) T96.heap n0 R96.2.2.2.2.1) hZ (wq hw 58 rfl) (wq hw 10 rfl) (by decide) (by decide)) q99a q99c (g := (mkF m 221 #[.val (.long z0), .second, .val (.int p1), .val (.int p2), .val (.int p3), .val (.int p4), .val (.long (z0 - (8 : Int64))), .second, .val (.int (1 : Int32)), .val (.int (0 : Int32)), .val (.ref r69), .val (.ref r71), .val (.ref r73), .val (.ref b75), .val (.int (3 : Int32)), .val (.long ((z0 - (8 : Int64)) + (0 : Int64))), .second, .val (.long ((z0 - (8 : Int64)) + (2 : Int64))), .second, .val (.long (((z0 - (8 : Int64)) + (2 : Int64)) - (1 : Int64))), .second, .val (.ref r71), .val (.int (1 : Int32))] [(.ref b75)])) rfl (by rw [hml]; rfl) (Steps.refl _) (argsL := []) (rest := []) (lenOf pd_6 rfl) rfl (by show 2 * 0 + _ ≤ _; exact Nat.le_of_eq rfl) (hb hby at_221) (fun _ _ => ⟨rfl, e98, (by decide : 5 + 0 ≤ _), (by decide : 23 + 0 ≤ _)⟩)
        dsimp only [Pt.U, Pt.locs, Pt.cells, Pt.slots] at X99 l99 y99 z99 st99 hQ99
        have X99 := own_to X99 l99 y99 z99
        obtain ⟨rfl, N99q, e99⟩ := hQ99
        have N99 := Fr.app N98 N99q
        have he246 : ((z0 - (8 : Int64)) + (2 : Int64)) = ((z0 - (8 : Int64)) + (2 : Int64)) := rfl
        have hg246 : ((z0 - (8 : Int64)) + (0 : Int64)) = (z0 - (8 : Int64)) := (own_f0 _)
        obtain ⟨cq100, kq100, q100a, q100b, q100c⟩ := isOf hZ e99 (ER96)
        obtain ⟨_, _, ⟨T100, L100, k100, n100⟩, -, X100, ⟨Lc100, hQ100, l100, y100, z100⟩, st100⟩ := X99.virtualBack hx (y := my_7) (z := my_7) hown (mvT hZ (wq hw 59 rfl)) (mvT hZ (wq hw 44 rfl)) (notFace_of_selects (args := #[]) (mvT hZ (wq hw 46 rfl))) (mvT hZ (wq hw 46 rfl)) (mvT hZ (wq hw 45 rfl)) (by decide) (backOf (W := 0) (rm_get_3_0_RRR_2 l Z a0 hw [] b75 bb87 kk87 r69 r71 r73 (z0 - (8 : Int64)) T96.heap n0 O97 R96 ((z0 - (8 : Int64)) + (2 : Int64)) (own_ge2 he246 hg246 hf (by decide) (by decide)) (own_sub2 he246 hg246 (by decide))) hZ (wq hw 47 rfl) (wq hw 10 rfl) (by decide) (by decide)) q100a q100c (g := (mkF m 246 #[.val (.long z0), .second, .val (.int p1), .val (.int p2), .val (.int p3), .val (.int p4), .val (.long (z0 - (8 : Int64))), .second, .val (.int (1 : Int32)), .val (.int (0 : Int32)), .val (.ref r69), .val (.ref r71), .val (.ref r73), .val (.ref b75), .val (.int (3 : Int32)), .val (.long ((z0 - (8 : Int64)) + (0 : Int64))), .second, .val (.long ((z0 - (8 : Int64)) + (2 : Int64))), .second, .val (.long (((z0 - (8 : Int64)) + (2 : Int64)) - (1 : Int64))), .second, .val (.ref r71), .val (.int (1 : Int32))] [(.long ((z0 - (8 : Int64)) + (2 : Int64))), (.ref b75)])) rfl (by rw [hml]; rfl) (Steps.refl _) (argsL := [(.long ((z0 - (8 : Int64)) + (2 : Int64)))]) (rest := []) (lenOf pd_7 rfl) rfl (by show 2 * 0 + _ ≤ _; exact Nat.le_of_eq rfl) (hb hby at_246) (fun _ _ => ⟨rfl, e99, (by decide : 5 + 0 ≤ _), (by decide : 23 + 0 ≤ _)⟩)
        dsimp only [Pt.U, Pt.locs, Pt.cells, Pt.slots] at X100 l100 y100 z100 st100 hQ100
        have X100 := own_to X100 l100 y100 z100
        obtain ⟨rfl, N100q, e100⟩ := hQ100
        have N100 := Fr.app N99 N100q
        have he270 : (((z0 - (8 : Int64)) + (2 : Int64)) - (1 : Int64)) = ((z0 - (8 : Int64)) + (1 : Int64)) := (own_f1 _ _ _ _ (by decide))
        have hg270 : ((z0 - (8 : Int64)) + (0 : Int64)) = (z0 - (8 : Int64)) := (own_f0 _)
        obtain ⟨cq101, kq101, q101a, q101b, q101c⟩ := isOf hZ e100 (ER96)
        obtain ⟨_, _, ⟨T101, L101, k101, n101⟩, -, X101, ⟨Lc101, hQ101, l101, y101, z101⟩, st101⟩ := X100.virtualBack hx (y := my_7) (z := my_7) hown (mvT hZ (wq hw 59 rfl)) (mvT hZ (wq hw 44 rfl)) (notFace_of_selects (args := #[]) (mvT hZ (wq hw 46 rfl))) (mvT hZ (wq hw 46 rfl)) (mvT hZ (wq hw 45 rfl)) (by decide) (backOf (W := 0) (rm_get_3_0_RRR_1 l Z a0 hw [] b75 bb87 kk87 r69 r71 r73 (z0 - (8 : Int64)) T96.heap n0 O97 R96 (((z0 - (8 : Int64)) + (2 : Int64)) - (1 : Int64)) (own_ge2 he270 hg270 hf (by decide) (by decide)) (own_sub2 he270 hg270 (by decide))) hZ (wq hw 47 rfl) (wq hw 10 rfl) (by decide) (by decide)) q101a q101c (g := (mkF m 270 #[.val (.long z0), .second, .val (.int p1), .val (.int p2), .val (.int p3), .val (.int p4), .val (.long (z0 - (8 : Int64))), .second, .val (.int (1 : Int32)), .val (.int (0 : Int32)), .val (.ref r69), .val (.ref r71), .val (.ref r73), .val (.ref b75), .val (.int (3 : Int32)), .val (.long ((z0 - (8 : Int64)) + (0 : Int64))), .second, .val (.long ((z0 - (8 : Int64)) + (2 : Int64))), .second, .val (.long (((z0 - (8 : Int64)) + (2 : Int64)) - (1 : Int64))), .second, .val (.ref r71), .val (.int (1 : Int32))] [(.long (((z0 - (8 : Int64)) + (2 : Int64)) - (1 : Int64))), (.ref b75)])) rfl (by rw [hml]; rfl) (Steps.refl _) (argsL := [(.long (((z0 - (8 : Int64)) + (2 : Int64)) - (1 : Int64)))]) (rest := []) (lenOf pd_7 rfl) rfl (by show 2 * 0 + _ ≤ _; exact Nat.le_of_eq rfl) (hb hby at_270) (fun _ _ => ⟨rfl, e100, (by decide : 5 + 0 ≤ _), (by decide : 23 + 0 ≤ _)⟩)
        dsimp only [Pt.U, Pt.locs, Pt.cells, Pt.slots] at X101 l101 y101 z101 st101 hQ101
        have X101 := own_to X101 l101 y101 z101
        obtain ⟨rfl, N101q, e101⟩ := hQ101
        have N101 := Fr.app N100 N101q
        have he296 : (((z0 - (8 : Int64)) + (2 : Int64)) + (1 : Int64)) = ((z0 - (8 : Int64)) + (3 : Int64)) := (own_f2 _ _ _ _ (by decide))
        have hg296 : ((z0 - (8 : Int64)) + (0 : Int64)) = (z0 - (8 : Int64)) := (own_f0 _)
        obtain ⟨cq102, kq102, q102a, q102b, q102c⟩ := isOf hZ e101 (ER96)
        obtain ⟨_, _, ⟨T102, L102, k102, n102⟩, -, X102, ⟨Lc102, hQ102, l102, y102, z102⟩, st102⟩ := X101.virtualBack hx (y := my_7) (z := my_7) hown (mvT hZ (wq hw 59 rfl)) (mvT hZ (wq hw 44 rfl)) (notFace_of_selects (args := #[]) (mvT hZ (wq hw 46 rfl))) (mvT hZ (wq hw 46 rfl)) (mvT hZ (wq hw 45 rfl)) (by decide) (backOf (W := 0) (rm_get_3_0_RRR_hi l Z a0 hw [] b75 bb87 kk87 r69 r71 r73 (z0 - (8 : Int64)) T96.heap n0 O97 R96 (((z0 - (8 : Int64)) + (2 : Int64)) + (1 : Int64)) (own_ge2 he296 hg296 hf (by decide) (by decide)) (own_sub2 he296 hg296 (by decide))) hZ (wq hw 47 rfl) (wq hw 10 rfl) (by decide) (by decide)) q102a q102c (g := (mkF m 296 #[.val (.long z0), .second, .val (.int p1), .val (.int p2), .val (.int p3), .val (.int p4), .val (.long (z0 - (8 : Int64))), .second, .val (.int (1 : Int32)), .val (.int (0 : Int32)), .val (.ref r69), .val (.ref r71), .val (.ref r73), .val (.ref b75), .val (.int (3 : Int32)), .val (.long ((z0 - (8 : Int64)) + (0 : Int64))), .second, .val (.long ((z0 - (8 : Int64)) + (2 : Int64))), .second, .val (.long (((z0 - (8 : Int64)) + (2 : Int64)) - (1 : Int64))), .second, .val (.ref r71), .val (.int (1 : Int32))] [(.long (((z0 - (8 : Int64)) + (2 : Int64)) + (1 : Int64))), (.ref b75)])) rfl (by rw [hml]; rfl) (Steps.refl _) (argsL := [(.long (((z0 - (8 : Int64)) + (2 : Int64)) + (1 : Int64)))]) (rest := []) (lenOf pd_7 rfl) rfl (by show 2 * 0 + _ ≤ _; exact Nat.le_of_eq rfl) (hb hby at_296) (fun _ _ => ⟨rfl, e101, (by decide : 5 + 0 ≤ _), (by decide : 23 + 0 ≤ _)⟩)
        dsimp only [Pt.U, Pt.locs, Pt.cells, Pt.slots] at X102 l102 y102 z102 st102 hQ102
        have X102 := own_to X102 l102 y102 z102
        obtain ⟨rfl, N102q, e102⟩ := hQ102
        have N102 := Fr.app N101 N102q
        obtain ⟨fs, hr, hrun, hended, hW, hsame⟩ := X102.leave (v := (some (.int (1 : Int32)))) (fun h => by rw [Bd.returns] at h; cases h)
        refine ⟨_, _, gp68 _ ?_, hrun, hended, _, _, rfl, ?_, ⟨_, rfl⟩, hW, hsame.mono (by decide) (by decide)⟩
        · refine XS.ifYes X0.here hx rfl (pc0 := 37) (pc' := 44) rfl (hb hby at_37) rfl ((if0 _ _).trans (teq hc37).1) (by decide) (by decide) ?_
          refine XS.iconst X0.here hx rfl (hb hby at_44) ?_
          refine XS.istore X0.here hx rfl (hb hby at_45) rfl (l' := #[.val (.long z0), .second, .val (.int p1), .val (.int p2), .val (.int p3), .val (.int p4), .val (.long (z0 - (8 : Int64))), .second, .val (.int (1 : Int32)), .val (.int (0 : Int32)), .unset, .unset, .unset, .unset, .unset, .unset, .unset, .unset, .unset, .unset, .unset, .unset, .unset]) rfl ?_
          refine XS.iloadN X0.here hx rfl (hb hby at_47) rfl ?_
          refine st69 _ ?_
          refine XS.astore X69.here hx rfl (hb hby at_51) rfl rfl (l' := #[.val (.long z0), .second, .val (.int p1), .val (.int p2), .val (.int p3), .val (.int p4), .val (.long (z0 - (8 : Int64))), .second, .val (.int (1 : Int32)), .val (.int (0 : Int32)), .val (.ref r69), .unset, .unset, .unset, .unset, .unset, .unset, .unset, .unset, .unset, .unset, .unset, .unset]) rfl ?_
          show Steps p.tables e below (T69.setTop (mkF m 53 #[.val (.long z0), .second, .val (.int p1), .val (.int p2), .val (.int p3), .val (.int p4), .val (.long (z0 - (8 : Int64))), .second, .val (.int (1 : Int32)), .val (.int (0 : Int32)), .val (.ref r69), .unset, .unset, .unset, .unset, .unset, .unset, .unset, .unset, .unset, .unset, .unset, .unset] [])) _
          refine XS.iloadN X69.here hx rfl (hb hby at_53) rfl ?_
          refine st71 _ ?_
          refine XS.astore X71.here hx rfl (hb hby at_57) rfl rfl (l' := #[.val (.long z0), .second, .val (.int p1), .val (.int p2), .val (.int p3), .val (.int p4), .val (.long (z0 - (8 : Int64))), .second, .val (.int (1 : Int32)), .val (.int (0 : Int32)), .val (.ref r69), .val (.ref r71), .unset, .unset, .unset, .unset, .unset, .unset, .unset, .unset, .unset, .unset, .unset]) rfl ?_
          refine XS.iload X71.here hx rfl (hb hby at_59) rfl ?_
          refine st73 _ ?_
          refine XS.astore X73.here hx rfl (hb hby at_64) rfl rfl (l' := #[.val (.long z0), .second, .val (.int p1), .val (.int p2), .val (.int p3), .val (.int p4), .val (.long (z0 - (8 : Int64))), .second, .val (.int (1 : Int32)), .val (.int (0 : Int32)), .val (.ref r69), .val (.ref r71), .val (.ref r73), .unset, .unset, .unset, .unset, .unset, .unset, .unset, .unset, .unset, .unset]) rfl ?_
          show Steps p.tables e below (T73.setTop (mkF m 66 #[.val (.long z0), .second, .val (.int p1), .val (.int p2), .val (.int p3), .val (.int p4), .val (.long (z0 - (8 : Int64))), .second, .val (.int (1 : Int32)), .val (.int (0 : Int32)), .val (.ref r69), .val (.ref r71), .val (.ref r73), .unset, .unset, .unset, .unset, .unset, .unset, .unset, .unset, .unset, .unset] [])) _
          refine st75 _ ?_
          refine XS.dup X75.here hx rfl (hb hby at_69) rfl rfl ?_
          refine XS.lload X75.here hx rfl (hb hby at_70) rfl ?_
          refine st87.trans ?_
          refine XS.astore X87.here hx rfl (hb hby at_75) rfl rfl (l' := #[.val (.long z0), .second, .val (.int p1), .val (.int p2), .val (.int p3), .val (.int p4), .val (.long (z0 - (8 : Int64))), .second, .val (.int (1 : Int32)), .val (.int (0 : Int32)), .val (.ref r69), .val (.ref r71), .val (.ref r73), .val (.ref b75), .unset, .unset, .unset, .unset, .unset, .unset, .unset, .unset, .unset]) rfl ?_
          refine XS.iload X87.here hx rfl (hb hby at_77) rfl ?_
          show Steps p.tables e below (T87.setTop (mkF m 79 #[.val (.long z0), .second, .val (.int p1), .val (.int p2), .val (.int p3), .val (.int p4), .val (.long (z0 - (8 : Int64))), .second, .val (.int (1 : Int32)), .val (.int (0 : Int32)), .val (.ref r69), .val (.ref r71), .val (.ref r73), .val (.ref b75), .unset, .unset, .unset, .unset, .unset, .unset, .unset, .unset, .unset] [(.int (1 : Int32))])) _
          refine XS.ifNo X87.here hx rfl (hb hby at_79) rfl ((if0 _ _).trans (feq (by decide : ¬ ((1 : Int32) = (0 : Int32)))).1) ?_
          refine XS.aload X87.here hx rfl (hb hby at_82) rfl rfl ?_
          refine XS.aload X87.here hx rfl (hb hby at_84) rfl rfl ?_
          refine st90.trans ?_
          refine XS.aload X90.here hx rfl (hb hby at_89) rfl rfl ?_
          refine XS.aload X90.here hx rfl (hb hby at_91) rfl rfl ?_
          show Steps p.tables e below (T90.setTop (mkF m 93 #[.val (.long z0), .second, .val (.int p1), .val (.int p2), .val (.int p3), .val (.int p4), .val (.long (z0 - (8 : Int64))), .second, .val (.int (1 : Int32)), .val (.int (0 : Int32)), .val (.ref r69), .val (.ref r71), .val (.ref r73), .val (.ref b75), .unset, .unset, .unset, .unset, .unset, .unset, .unset, .unset, .unset] [(.ref r71), (.ref b75)])) _
          refine st93.trans ?_
          refine XS.iload X93.here hx rfl (hb hby at_96) rfl ?_
          refine XS.ifYes X93.here hx rfl (pc0 := 98) (pc' := 107) rfl (hb hby at_98) rfl ((if0 _ _).trans (teq (by decide : (0 : Int32) = (0 : Int32))).1) (by decide) (by decide) ?_
          refine XS.aload X93.here hx rfl (hb hby at_107) rfl rfl ?_
          refine XS.aload X93.here hx rfl (hb hby at_109) rfl rfl ?_
          refine st96.trans ?_
          show Steps p.tables e below (T96.setTop (mkF m 114 #[.val (.long z0), .second, .val (.int p1), .val (.int p2), .val (.int p3), .val (.int p4), .val (.long (z0 - (8 : Int64))), .second, .val (.int (1 : Int32)), .val (.int (0 : Int32)), .val (.ref r69), .val (.ref r71), .val (.ref r73), .val (.ref b75), .unset, .unset, .unset, .unset, .unset, .unset, .unset, .unset, .unset] [])) _
          refine XS.iload X96.here hx rfl (hb hby at_114) rfl ?_
          refine XS.ifNo X96.here hx rfl (hb hby at_116) rfl ((if0 _ _).trans (feq (by decide : ¬ ((1 : Int32) = (0 : Int32)))).1) ?_
          refine XS.iconst X96.here hx rfl (hb hby at_119) ?_
          refine XS.goto X96.here hx rfl (pc0 := 120) (pc' := 124) rfl (hb hby at_120) (by decide) (by decide) ?_
          refine XS.iconst X96.here hx rfl (hb hby at_124) ?_
          refine XS.iadd X96.here hx rfl (hb hby at_125) rfl ?_
          show Steps p.tables e below (T96.setTop (mkF m 126 #[.val (.long z0), .second, .val (.int p1), .val (.int p2), .val (.int p3), .val (.int p4), .val (.long (z0 - (8 : Int64))), .second, .val (.int (1 : Int32)), .val (.int (0 : Int32)), .val (.ref r69), .val (.ref r71), .val (.ref r73), .val (.ref b75), .unset, .unset, .unset, .unset, .unset, .unset, .unset, .unset, .unset] [(.int (2 : Int32))])) _
          refine XS.iload X96.here hx rfl (hb hby at_126) rfl ?_
          refine XS.ifYes X96.here hx rfl (pc0 := 128) (pc' := 135) rfl (hb hby at_128) rfl ((if0 _ _).trans (teq (by decide : (0 : Int32) = (0 : Int32))).1) (by decide) (by decide) ?_
          refine XS.iconst X96.here hx rfl (hb hby at_135) ?_
          refine XS.isub X96.here hx rfl (hb hby at_136) rfl ?_
          show Steps p.tables e below (T96.setTop (mkF m 137 #[.val (.long z0), .second, .val (.int p1), .val (.int p2), .val (.int p3), .val (.int p4), .val (.long (z0 - (8 : Int64))), .second, .val (.int (1 : Int32)), .val (.int (0 : Int32)), .val (.ref r69), .val (.ref r71), .val (.ref r73), .val (.ref b75), .unset, .unset, .unset, .unset, .unset, .unset, .unset, .unset, .unset] [(.int (2 : Int32))])) _
          refine XS.iconst X96.here hx rfl (hb hby at_137) ?_
          refine XS.iadd X96.here hx rfl (hb hby at_138) rfl ?_
          show Steps p.tables e below (T96.setTop (mkF m 139 #[.val (.long z0), .second, .val (.int p1), .val (.int p2), .val (.int p3), .val (.int p4), .val (.long (z0 - (8 : Int64))), .second, .val (.int (1 : Int32)), .val (.int (0 : Int32)), .val (.ref r69), .val (.ref r71), .val (.ref r73), .val (.ref b75), .unset, .unset, .unset, .unset, .unset, .unset, .unset, .unset, .unset] [(.int (3 : Int32))])) _
          refine XS.istore X96.here hx rfl (hb hby at_139) rfl (l' := #[.val (.long z0), .second, .val (.int p1), .val (.int p2), .val (.int p3), .val (.int p4), .val (.long (z0 - (8 : Int64))), .second, .val (.int (1 : Int32)), .val (.int (0 : Int32)), .val (.ref r69), .val (.ref r71), .val (.ref r73), .val (.ref b75), .val (.int (3 : Int32)), .unset, .unset, .unset, .unset, .unset, .unset, .unset, .unset]) rfl ?_
          refine XS.lload X96.here hx rfl (hb hby at_141) rfl ?_
          refine XS.iload X96.here hx rfl (hb hby at_143) rfl ?_
          refine XS.ifYes X96.here hx rfl (pc0 := 145) (pc' := 152) rfl (hb hby at_145) rfl ((if0 _ _).trans (teq (by decide : (0 : Int32) = (0 : Int32))).1) (by decide) (by decide) ?_
          refine XS.lconst X96.here hx rfl (hb hby at_152) ?_
          refine XS.ladd X96.here hx rfl (hb hby at_153) rfl ?_
          show Steps p.tables e below (T96.setTop (mkF m 154 #[.val (.long z0), .second, .val (.int p1), .val (.int p2), .val (.int p3), .val (.int p4), .val (.long (z0 - (8 : Int64))), .second, .val (.int (1 : Int32)), .val (.int (0 : Int32)), .val (.ref r69), .val (.ref r71), .val (.ref r73), .val (.ref b75), .val (.int (3 : Int32)), .unset, .unset, .unset, .unset, .unset, .unset, .unset, .unset] [(.long ((z0 - (8 : Int64)) + (0 : Int64)))])) _
          refine XS.lstore X96.here hx rfl (hb hby at_154) rfl (l' := #[.val (.long z0), .second, .val (.int p1), .val (.int p2), .val (.int p3), .val (.int p4), .val (.long (z0 - (8 : Int64))), .second, .val (.int (1 : Int32)), .val (.int (0 : Int32)), .val (.ref r69), .val (.ref r71), .val (.ref r73), .val (.ref b75), .val (.int (3 : Int32)), .val (.long ((z0 - (8 : Int64)) + (0 : Int64))), .second, .unset, .unset, .unset, .unset, .unset, .unset]) rfl ?_
          refine XS.lload X96.here hx rfl (hb hby at_156) rfl ?_
          refine XS.iload X96.here hx rfl (hb hby at_158) rfl ?_
          refine XS.ifNo X96.here hx rfl (hb hby at_160) rfl ((if0 _ _).trans (feq (by decide : ¬ ((1 : Int32) = (0 : Int32)))).1) ?_
          refine X96.ldc2Long hx hown (mvT hZ (wq hw 48 rfl)) (g := (mkF m 163 #[.val (.long z0), .second, .val (.int p1), .val (.int p2), .val (.int p3), .val (.int p4), .val (.long (z0 - (8 : Int64))), .second, .val (.int (1 : Int32)), .val (.int (0 : Int32)), .val (.ref r69), .val (.ref r71), .val (.ref r73), .val (.ref b75), .val (.int (3 : Int32)), .val (.long ((z0 - (8 : Int64)) + (0 : Int64))), .second, .unset, .unset, .unset, .unset, .unset, .unset] [(.long (z0 - (8 : Int64)))])) rfl (hb hby at_163) _ ?_
          refine XS.goto X96.here hx rfl (pc0 := 166) (pc' := 170) rfl (hb hby at_166) (by decide) (by decide) ?_
          show Steps p.tables e below (T96.setTop (mkF m 170 #[.val (.long z0), .second, .val (.int p1), .val (.int p2), .val (.int p3), .val (.int p4), .val (.long (z0 - (8 : Int64))), .second, .val (.int (1 : Int32)), .val (.int (0 : Int32)), .val (.ref r69), .val (.ref r71), .val (.ref r73), .val (.ref b75), .val (.int (3 : Int32)), .val (.long ((z0 - (8 : Int64)) + (0 : Int64))), .second, .unset, .unset, .unset, .unset, .unset, .unset] [(.long (2 : Int64)), (.long (z0 - (8 : Int64)))])) _
          refine XS.ladd X96.here hx rfl (hb hby at_170) rfl ?_
          refine XS.lstore X96.here hx rfl (hb hby at_171) rfl (l' := #[.val (.long z0), .second, .val (.int p1), .val (.int p2), .val (.int p3), .val (.int p4), .val (.long (z0 - (8 : Int64))), .second, .val (.int (1 : Int32)), .val (.int (0 : Int32)), .val (.ref r69), .val (.ref r71), .val (.ref r73), .val (.ref b75), .val (.int (3 : Int32)), .val (.long ((z0 - (8 : Int64)) + (0 : Int64))), .second, .val (.long ((z0 - (8 : Int64)) + (2 : Int64))), .second, .unset, .unset, .unset, .unset]) rfl ?_
          refine XS.lload X96.here hx rfl (hb hby at_173) rfl ?_
          refine XS.lconst X96.here hx rfl (hb hby at_175) ?_
          refine XS.lsub X96.here hx rfl (hb hby at_176) rfl ?_
          refine XS.lstore X96.here hx rfl (hb hby at_177) rfl (l' := #[.val (.long z0), .second, .val (.int p1), .val (.int p2), .val (.int p3), .val (.int p4), .val (.long (z0 - (8 : Int64))), .second, .val (.int (1 : Int32)), .val (.int (0 : Int32)), .val (.ref r69), .val (.ref r71), .val (.ref r73), .val (.ref b75), .val (.int (3 : Int32)), .val (.long ((z0 - (8 : Int64)) + (0 : Int64))), .second, .val (.long ((z0 - (8 : Int64)) + (2 : Int64))), .second, .val (.long (((z0 - (8 : Int64)) + (2 : Int64)) - (1 : Int64))), .second, .unset, .unset]) rfl ?_
          show Steps p.tables e below (T96.setTop (mkF m 179 #[.val (.long z0), .second, .val (.int p1), .val (.int p2), .val (.int p3), .val (.int p4), .val (.long (z0 - (8 : Int64))), .second, .val (.int (1 : Int32)), .val (.int (0 : Int32)), .val (.ref r69), .val (.ref r71), .val (.ref r73), .val (.ref b75), .val (.int (3 : Int32)), .val (.long ((z0 - (8 : Int64)) + (0 : Int64))), .second, .val (.long ((z0 - (8 : Int64)) + (2 : Int64))), .second, .val (.long (((z0 - (8 : Int64)) + (2 : Int64)) - (1 : Int64))), .second, .unset, .unset] [])) _
          refine XS.iload X96.here hx rfl (hb hby at_179) rfl ?_
          refine XS.ifYes X96.here hx rfl (pc0 := 181) (pc' := 193) rfl (hb hby at_181) rfl ((if0 _ _).trans (teq (by decide : (0 : Int32) = (0 : Int32))).1) (by decide) (by decide) ?_
          refine XS.aload X96.here hx rfl (hb hby at_193) rfl rfl ?_
          refine XS.astore X96.here hx rfl (hb hby at_195) rfl rfl (l' := #[.val (.long z0), .second, .val (.int p1), .val (.int p2), .val (.int p3), .val (.int p4), .val (.long (z0 - (8 : Int64))), .second, .val (.int (1 : Int32)), .val (.int (0 : Int32)), .val (.ref r69), .val (.ref r71), .val (.ref r73), .val (.ref b75), .val (.int (3 : Int32)), .val (.long ((z0 - (8 : Int64)) + (0 : Int64))), .second, .val (.long ((z0 - (8 : Int64)) + (2 : Int64))), .second, .val (.long (((z0 - (8 : Int64)) + (2 : Int64)) - (1 : Int64))), .second, .val (.ref r71), .unset]) rfl ?_
          refine XS.aload X96.here hx rfl (hb hby at_197) rfl rfl ?_
          refine st98.trans ?_
          show Steps p.tables e below (T98.setTop (mkF m 202 #[.val (.long z0), .second, .val (.int p1), .val (.int p2), .val (.int p3), .val (.int p4), .val (.long (z0 - (8 : Int64))), .second, .val (.int (1 : Int32)), .val (.int (0 : Int32)), .val (.ref r69), .val (.ref r71), .val (.ref r73), .val (.ref b75), .val (.int (3 : Int32)), .val (.long ((z0 - (8 : Int64)) + (0 : Int64))), .second, .val (.long ((z0 - (8 : Int64)) + (2 : Int64))), .second, .val (.long (((z0 - (8 : Int64)) + (2 : Int64)) - (1 : Int64))), .second, .val (.ref r71), .unset] [(.int (3 : Int32))])) _
          refine XS.iload X98.here hx rfl (hb hby at_202) rfl ?_
          refine XS.icmpNo X98.here hx rfl (hb hby at_204) rfl (teq (by decide : (3 : Int32) = (3 : Int32))).2 ?_
          refine XS.iconst X98.here hx rfl (hb hby at_207) ?_
          refine XS.goto X98.here hx rfl (pc0 := 208) (pc' := 212) rfl (hb hby at_208) (by decide) (by decide) ?_
          refine XS.istore X98.here hx rfl (hb hby at_212) rfl (l' := #[.val (.long z0), .second, .val (.int p1), .val (.int p2), .val (.int p3), .val (.int p4), .val (.long (z0 - (8 : Int64))), .second, .val (.int (1 : Int32)), .val (.int (0 : Int32)), .val (.ref r69), .val (.ref r71), .val (.ref r73), .val (.ref b75), .val (.int (3 : Int32)), .val (.long ((z0 - (8 : Int64)) + (0 : Int64))), .second, .val (.long ((z0 - (8 : Int64)) + (2 : Int64))), .second, .val (.long (((z0 - (8 : Int64)) + (2 : Int64)) - (1 : Int64))), .second, .val (.ref r71), .val (.int (1 : Int32))]) rfl ?_
          refine XS.iload X98.here hx rfl (hb hby at_214) rfl ?_
          show Steps p.tables e below (T98.setTop (mkF m 216 #[.val (.long z0), .second, .val (.int p1), .val (.int p2), .val (.int p3), .val (.int p4), .val (.long (z0 - (8 : Int64))), .second, .val (.int (1 : Int32)), .val (.int (0 : Int32)), .val (.ref r69), .val (.ref r71), .val (.ref r73), .val (.ref b75), .val (.int (3 : Int32)), .val (.long ((z0 - (8 : Int64)) + (0 : Int64))), .second, .val (.long ((z0 - (8 : Int64)) + (2 : Int64))), .second, .val (.long (((z0 - (8 : Int64)) + (2 : Int64)) - (1 : Int64))), .second, .val (.ref r71), .val (.int (1 : Int32))] [(.int (1 : Int32))])) _
          refine XS.ifNo X98.here hx rfl (hb hby at_216) rfl ((if0 _ _).trans (feq (by decide : ¬ ((1 : Int32) = (0 : Int32)))).1) ?_
          refine XS.aload X98.here hx rfl (hb hby at_219) rfl rfl ?_
          refine st99.trans ?_
          refine XS.lload X99.here hx rfl (hb hby at_224) rfl ?_
          refine XS.lcmp X99.here hx rfl (hb hby at_226) rfl ?_
          refine XS.ifNo X99.here hx rfl (hb hby at_227) rfl ((if0 _ _).trans (teq ((lw_eq _ _).mpr (own_f0 _).symm)).2) ?_
          show Steps p.tables e below (T99.setTop (mkF m 230 #[.val (.long z0), .second, .val (.int p1), .val (.int p2), .val (.int p3), .val (.int p4), .val (.long (z0 - (8 : Int64))), .second, .val (.int (1 : Int32)), .val (.int (0 : Int32)), .val (.ref r69), .val (.ref r71), .val (.ref r73), .val (.ref b75), .val (.int (3 : Int32)), .val (.long ((z0 - (8 : Int64)) + (0 : Int64))), .second, .val (.long ((z0 - (8 : Int64)) + (2 : Int64))), .second, .val (.long (((z0 - (8 : Int64)) + (2 : Int64)) - (1 : Int64))), .second, .val (.ref r71), .val (.int (1 : Int32))] [])) _
          refine XS.iconst X99.here hx rfl (hb hby at_230) ?_
          refine XS.goto X99.here hx rfl (pc0 := 231) (pc' := 235) rfl (hb hby at_231) (by decide) (by decide) ?_
          refine XS.istore X99.here hx rfl (hb hby at_235) rfl (l' := #[.val (.long z0), .second, .val (.int p1), .val (.int p2), .val (.int p3), .val (.int p4), .val (.long (z0 - (8 : Int64))), .second, .val (.int (1 : Int32)), .val (.int (0 : Int32)), .val (.ref r69), .val (.ref r71), .val (.ref r73), .val (.ref b75), .val (.int (3 : Int32)), .val (.long ((z0 - (8 : Int64)) + (0 : Int64))), .second, .val (.long ((z0 - (8 : Int64)) + (2 : Int64))), .second, .val (.long (((z0 - (8 : Int64)) + (2 : Int64)) - (1 : Int64))), .second, .val (.ref r71), .val (.int (1 : Int32))]) rfl ?_
          refine XS.iload X99.here hx rfl (hb hby at_237) rfl ?_
          refine XS.ifNo X99.here hx rfl (hb hby at_239) rfl ((if0 _ _).trans (feq (by decide : ¬ ((1 : Int32) = (0 : Int32)))).1) ?_
          refine XS.aload X99.here hx rfl (hb hby at_242) rfl rfl ?_
          show Steps p.tables e below (T99.setTop (mkF m 244 #[.val (.long z0), .second, .val (.int p1), .val (.int p2), .val (.int p3), .val (.int p4), .val (.long (z0 - (8 : Int64))), .second, .val (.int (1 : Int32)), .val (.int (0 : Int32)), .val (.ref r69), .val (.ref r71), .val (.ref r73), .val (.ref b75), .val (.int (3 : Int32)), .val (.long ((z0 - (8 : Int64)) + (0 : Int64))), .second, .val (.long ((z0 - (8 : Int64)) + (2 : Int64))), .second, .val (.long (((z0 - (8 : Int64)) + (2 : Int64)) - (1 : Int64))), .second, .val (.ref r71), .val (.int (1 : Int32))] [(.ref b75)])) _
          refine XS.lload X99.here hx rfl (hb hby at_244) rfl ?_
          refine st100.trans ?_
          refine XS.aload X100.here hx rfl (hb hby at_249) rfl rfl ?_
          refine Jvm.RoadKit.acmp (g := (mkF m 251 #[.val (.long z0), .second, .val (.int p1), .val (.int p2), .val (.int p3), .val (.int p4), .val (.long (z0 - (8 : Int64))), .second, .val (.int (1 : Int32)), .val (.int (0 : Int32)), .val (.ref r69), .val (.ref r71), .val (.ref r73), .val (.ref b75), .val (.int (3 : Int32)), .val (.long ((z0 - (8 : Int64)) + (0 : Int64))), .second, .val (.long ((z0 - (8 : Int64)) + (2 : Int64))), .second, .val (.long (((z0 - (8 : Int64)) + (2 : Int64)) - (1 : Int64))), .second, .val (.ref r71), .val (.int (1 : Int32))] [(.ref r73), (.ref r73)])) X100 hx rfl rfl rfl (pc0 := 251) (pc' := 254) (same := true) rfl (hb hby at_251) rfl (decide_eq_true rfl) (by decide) (by decide) ?_
          refine XS.iconst X100.here hx rfl (hb hby at_254) ?_
          refine XS.goto X100.here hx rfl (pc0 := 255) (pc' := 259) rfl (hb hby at_255) (by decide) (by decide) ?_
          show Steps p.tables e below (T100.setTop (mkF m 259 #[.val (.long z0), .second, .val (.int p1), .val (.int p2), .val (.int p3), .val (.int p4), .val (.long (z0 - (8 : Int64))), .second, .val (.int (1 : Int32)), .val (.int (0 : Int32)), .val (.ref r69), .val (.ref r71), .val (.ref r73), .val (.ref b75), .val (.int (3 : Int32)), .val (.long ((z0 - (8 : Int64)) + (0 : Int64))), .second, .val (.long ((z0 - (8 : Int64)) + (2 : Int64))), .second, .val (.long (((z0 - (8 : Int64)) + (2 : Int64)) - (1 : Int64))), .second, .val (.ref r71), .val (.int (1 : Int32))] [(.int (1 : Int32))])) _
          refine XS.istore X100.here hx rfl (hb hby at_259) rfl (l' := #[.val (.long z0), .second, .val (.int p1), .val (.int p2), .val (.int p3), .val (.int p4), .val (.long (z0 - (8 : Int64))), .second, .val (.int (1 : Int32)), .val (.int (0 : Int32)), .val (.ref r69), .val (.ref r71), .val (.ref r73), .val (.ref b75), .val (.int (3 : Int32)), .val (.long ((z0 - (8 : Int64)) + (0 : Int64))), .second, .val (.long ((z0 - (8 : Int64)) + (2 : Int64))), .second, .val (.long (((z0 - (8 : Int64)) + (2 : Int64)) - (1 : Int64))), .second, .val (.ref r71), .val (.int (1 : Int32))]) rfl ?_
          refine XS.iload X100.here hx rfl (hb hby at_261) rfl ?_
          refine XS.ifNo X100.here hx rfl (hb hby at_263) rfl ((if0 _ _).trans (feq (by decide : ¬ ((1 : Int32) = (0 : Int32)))).1) ?_
          refine XS.aload X100.here hx rfl (hb hby at_266) rfl rfl ?_
          refine XS.lload X100.here hx rfl (hb hby at_268) rfl ?_
          refine st101.trans ?_
          show Steps p.tables e below (T101.setTop (mkF m 273 #[.val (.long z0), .second, .val (.int p1), .val (.int p2), .val (.int p3), .val (.int p4), .val (.long (z0 - (8 : Int64))), .second, .val (.int (1 : Int32)), .val (.int (0 : Int32)), .val (.ref r69), .val (.ref r71), .val (.ref r73), .val (.ref b75), .val (.int (3 : Int32)), .val (.long ((z0 - (8 : Int64)) + (0 : Int64))), .second, .val (.long ((z0 - (8 : Int64)) + (2 : Int64))), .second, .val (.long (((z0 - (8 : Int64)) + (2 : Int64)) - (1 : Int64))), .second, .val (.ref r71), .val (.int (1 : Int32))] [(.ref r71)])) _
          refine XS.aload X101.here hx rfl (hb hby at_273) rfl rfl ?_
          refine Jvm.RoadKit.acmp (g := (mkF m 275 #[.val (.long z0), .second, .val (.int p1), .val (.int p2), .val (.int p3), .val (.int p4), .val (.long (z0 - (8 : Int64))), .second, .val (.int (1 : Int32)), .val (.int (0 : Int32)), .val (.ref r69), .val (.ref r71), .val (.ref r73), .val (.ref b75), .val (.int (3 : Int32)), .val (.long ((z0 - (8 : Int64)) + (0 : Int64))), .second, .val (.long ((z0 - (8 : Int64)) + (2 : Int64))), .second, .val (.long (((z0 - (8 : Int64)) + (2 : Int64)) - (1 : Int64))), .second, .val (.ref r71), .val (.int (1 : Int32))] [(.ref r71), (.ref r71)])) X101 hx rfl rfl rfl (pc0 := 275) (pc' := 278) (same := true) rfl (hb hby at_275) rfl (decide_eq_true rfl) (by decide) (by decide) ?_
          refine XS.iconst X101.here hx rfl (hb hby at_278) ?_
          refine XS.goto X101.here hx rfl (pc0 := 279) (pc' := 283) rfl (hb hby at_279) (by decide) (by decide) ?_
          refine XS.istore X101.here hx rfl (hb hby at_283) rfl (l' := #[.val (.long z0), .second, .val (.int p1), .val (.int p2), .val (.int p3), .val (.int p4), .val (.long (z0 - (8 : Int64))), .second, .val (.int (1 : Int32)), .val (.int (0 : Int32)), .val (.ref r69), .val (.ref r71), .val (.ref r73), .val (.ref b75), .val (.int (3 : Int32)), .val (.long ((z0 - (8 : Int64)) + (0 : Int64))), .second, .val (.long ((z0 - (8 : Int64)) + (2 : Int64))), .second, .val (.long (((z0 - (8 : Int64)) + (2 : Int64)) - (1 : Int64))), .second, .val (.ref r71), .val (.int (1 : Int32))]) rfl ?_
          refine XS.iload X101.here hx rfl (hb hby at_285) rfl ?_
          show Steps p.tables e below (T101.setTop (mkF m 287 #[.val (.long z0), .second, .val (.int p1), .val (.int p2), .val (.int p3), .val (.int p4), .val (.long (z0 - (8 : Int64))), .second, .val (.int (1 : Int32)), .val (.int (0 : Int32)), .val (.ref r69), .val (.ref r71), .val (.ref r73), .val (.ref b75), .val (.int (3 : Int32)), .val (.long ((z0 - (8 : Int64)) + (0 : Int64))), .second, .val (.long ((z0 - (8 : Int64)) + (2 : Int64))), .second, .val (.long (((z0 - (8 : Int64)) + (2 : Int64)) - (1 : Int64))), .second, .val (.ref r71), .val (.int (1 : Int32))] [(.int (1 : Int32))])) _
          refine XS.ifNo X101.here hx rfl (hb hby at_287) rfl ((if0 _ _).trans (feq (by decide : ¬ ((1 : Int32) = (0 : Int32)))).1) ?_
          refine XS.aload X101.here hx rfl (hb hby at_290) rfl rfl ?_
          refine XS.lload X101.here hx rfl (hb hby at_292) rfl ?_
          refine XS.lconst X101.here hx rfl (hb hby at_294) ?_
          refine XS.ladd X101.here hx rfl (hb hby at_295) rfl ?_
          refine st102.trans ?_
          show Steps p.tables e below (T102.setTop (mkF m 299 #[.val (.long z0), .second, .val (.int p1), .val (.int p2), .val (.int p3), .val (.int p4), .val (.long (z0 - (8 : Int64))), .second, .val (.int (1 : Int32)), .val (.int (0 : Int32)), .val (.ref r69), .val (.ref r71), .val (.ref r73), .val (.ref b75), .val (.int (3 : Int32)), .val (.long ((z0 - (8 : Int64)) + (0 : Int64))), .second, .val (.long ((z0 - (8 : Int64)) + (2 : Int64))), .second, .val (.long (((z0 - (8 : Int64)) + (2 : Int64)) - (1 : Int64))), .second, .val (.ref r71), .val (.int (1 : Int32))] [.null])) _
          refine XS.ifnonnullNo X102.here hx rfl (hb hby at_299) rfl ?_
          refine XS.iconst X102.here hx rfl (hb hby at_302) ?_
          refine XS.goto X102.here hx rfl (pc0 := 303) (pc' := 307) rfl (hb hby at_303) (by decide) (by decide) ?_
          refine XS.istore X102.here hx rfl (hb hby at_307) rfl (l' := #[.val (.long z0), .second, .val (.int p1), .val (.int p2), .val (.int p3), .val (.int p4), .val (.long (z0 - (8 : Int64))), .second, .val (.int (1 : Int32)), .val (.int (0 : Int32)), .val (.ref r69), .val (.ref r71), .val (.ref r73), .val (.ref b75), .val (.int (3 : Int32)), .val (.long ((z0 - (8 : Int64)) + (0 : Int64))), .second, .val (.long ((z0 - (8 : Int64)) + (2 : Int64))), .second, .val (.long (((z0 - (8 : Int64)) + (2 : Int64)) - (1 : Int64))), .second, .val (.ref r71), .val (.int (1 : Int32))]) rfl ?_
          refine XS.iload X102.here hx rfl (hb hby at_309) rfl ?_
          exact retN X102 hx (t := .boolean) Bd.returns (by simp) (hb hby at_311) hr
        · show Q0 n0 _ T102.heap _
          rw [e102]
          exact ⟨rfl, N102⟩
      · obtain ⟨_, _, ⟨T103, L103, k103, n103⟩, -, X103, ⟨Lc103, hQ103, l103, y103, z103⟩, st103⟩ := Jvm.LawKit.callS X0 hx (y := my_2) hown (mvT hZ (wq hw 1 rfl)) (mvT hZ (wq hw 2 rfl)) (mvT hZ (wq hw 3 rfl)) (mvT hZ (wq hw 4 rfl)) (by decide) (backOf (W := 0) (rm_val l Z a0 hw [] ca cc hL p1 h0 n0 O0) hZ (wq hw 4 rfl) (wq hw 3 rfl) (by decide) (by decide)) (g := (mkF m 48 #[.val (.long z0), .second, .val (.int p1), .val (.int p2), .val (.int p3), .val (.int p4), .val (.long (z0 - (8 : Int64))), .second, .val (.int (1 : Int32)), .val (.int (1 : Int32)), .unset, .unset, .unset, .unset, .unset, .unset, .unset, .unset, .unset, .unset, .unset, .unset, .unset] [(.int p1)])) rfl (by rw [hml]; rfl) (argsL := [(.int p1)]) (rest := []) (lenOf pd_2 rfl) rfl (by show 2 * 0 + _ ≤ _; exact Nat.le_of_eq rfl) (hb hby at_48) (fun _ _ => ⟨rfl, e0, (by decide : 0 + 1 ≤ _), (by decide : 0 + 1 ≤ _)⟩)
        dsimp only [Pt.U, Pt.locs, Pt.cells, Pt.slots] at X103 l103 y103 z103 st103 hQ103
        have X103 := own_to X103 l103 y103 z103
        obtain ⟨r103, rfl, N103q, K103, E103q⟩ := hQ103
        have N103 := Fr.app N0 N103q
        have O104 : Old Z n0 T103.heap := Old.keep O0 K103 all0
        obtain ⟨_, _, ⟨T105, L105, k105, n105⟩, -, X105, ⟨Lc105, hQ105, l105, y105, z105⟩, st105⟩ := Jvm.LawKit.callS X103 hx (y := my_2) hown (mvT hZ (wq hw 1 rfl)) (mvT hZ (wq hw 2 rfl)) (mvT hZ (wq hw 3 rfl)) (mvT hZ (wq hw 4 rfl)) (by decide) (backOf (W := 0) (rm_val l Z a0 hw [] ca cc hL p2 T103.heap n0 O104) hZ (wq hw 4 rfl) (wq hw 3 rfl) (by decide) (by decide)) (g := (mkF m 54 #[.val (.long z0), .second, .val (.int p1), .val (.int p2), .val (.int p3), .val (.int p4), .val (.long (z0 - (8 : Int64))), .second, .val (.int (1 : Int32)), .val (.int (1 : Int32)), .val (.ref r103), .unset, .unset, .unset, .unset, .unset, .unset, .unset, .unset, .unset, .unset, .unset, .unset] [(.int p2)])) rfl (by rw [hml]; rfl) (argsL := [(.int p2)]) (rest := []) (lenOf pd_2 rfl) rfl (by show 2 * 0 + _ ≤ _; exact Nat.le_of_eq rfl) (hb hby at_54) (fun _ _ => ⟨rfl, rfl, (by decide : 1 + 1 ≤ _), (by decide : 1 + 1 ≤ _)⟩)
        dsimp only [Pt.U, Pt.locs, Pt.cells, Pt.slots] at X105 l105 y105 z105 st105 hQ105
        have X105 := own_to X105 l105 y105 z105
        obtain ⟨r105, rfl, N105q, K105, E105q⟩ := hQ105
        have N105 := Fr.app N103 N105q
        have O106 : Old Z n0 T105.heap := Old.keep O104 K105 all0
        obtain ⟨_, _, ⟨T107, L107, k107, n107⟩, -, X107, ⟨Lc107, hQ107, l107, y107, z107⟩, st107⟩ := Jvm.LawKit.callS X105 hx (y := my_2) hown (mvT hZ (wq hw 1 rfl)) (mvT hZ (wq hw 2 rfl)) (mvT hZ (wq hw 3 rfl)) (mvT hZ (wq hw 4 rfl)) (by decide) (backOf (W := 0) (rm_val l Z a0 hw [] ca cc hL p3 T105.heap n0 O106) hZ (wq hw 4 rfl) (wq hw 3 rfl) (by decide) (by decide)) (g := (mkF m 61 #[.val (.long z0), .second, .val (.int p1), .val (.int p2), .val (.int p3), .val (.int p4), .val (.long (z0 - (8 : Int64))), .second, .val (.int (1 : Int32)), .val (.int (1 : Int32)), .val (.ref r103), .val (.ref r105), .unset, .unset, .unset, .unset, .unset, .unset, .unset, .unset, .unset, .unset, .unset] [(.int p3)])) rfl (by rw [hml]; rfl) (argsL := [(.int p3)]) (rest := []) (lenOf pd_2 rfl) rfl (by show 2 * 0 + _ ≤ _; exact Nat.le_of_eq rfl) (hb hby at_61) (fun _ _ => ⟨rfl, rfl, (by decide : 2 + 1 ≤ _), (by decide : 2 + 1 ≤ _)⟩)
        dsimp only [Pt.U, Pt.locs, Pt.cells, Pt.slots] at X107 l107 y107 z107 st107 hQ107
        have X107 := own_to X107 l107 y107 z107
        obtain ⟨r107, rfl, N107q, K107, E107q⟩ := hQ107
        have N107 := Fr.app N105 N107q
        have O108 : Old Z n0 T107.heap := Old.keep O106 K107 all0
        obtain ⟨T109, h109, X109, e109, E109, A109, D109, -, st109⟩ := newO X107 hx hZ hown (wq hw 8 rfl) (wq hw 9 rfl) (wq hw 10 rfl) rfl (g := (mkF m 66 #[.val (.long z0), .second, .val (.int p1), .val (.int p2), .val (.int p3), .val (.int p4), .val (.long (z0 - (8 : Int64))), .second, .val (.int (1 : Int32)), .val (.int (1 : Int32)), .val (.ref r103), .val (.ref r105), .val (.ref r107), .unset, .unset, .unset, .unset, .unset, .unset, .unset, .unset, .unset, .unset] [])) rfl (hb hby at_66) (by decide) (by decide)
        obtain ⟨b109, gb109⟩ : ∃ z, z = T107.heap.size := ⟨_, rfl⟩
        rw [← gb109] at A109 D109 st109
        have t110 : Exa Z T107.heap r103 nIntege_0 := ((E103q.keep K105).keep K107)
        have ne111 : r103 ≠ b109 := Nat.ne_of_lt (Nat.lt_of_lt_of_le t110.lt (Nat.le_of_eq gb109.symm))
        have t112 : Exa Z T107.heap r105 nIntege_0 := (E105q.keep K107)
        have ne113 : r105 ≠ b109 := Nat.ne_of_lt (Nat.lt_of_lt_of_le t112.lt (Nat.le_of_eq gb109.symm))
        have ne114 : r107 ≠ b109 := Nat.ne_of_lt (Nat.lt_of_lt_of_le E107q.lt (Nat.le_of_eq gb109.symm))
        have g115 : n0 ≤ b109 := Nat.le_trans (Nat.le_of_eq O108.1.symm) (Nat.le_trans O108.2.1 (Nat.le_of_eq gb109.symm))
        have O116 : Old Z n0 h109 := Old.ext O108 E109
        have f117 : Fld Z h109 b109 nConsec_1 "values" "[Ljava/lang/Object;" .null := D109 (Or.inl (wq hw 20 rfl)) (ty := (.array (.object nObject_2))) (by decide)
        have f118 : Fld Z h109 b109 nConsec_1 "first" "J" (.long (0 : Int64)) := D109 (Or.inl (wq hw 22 rfl)) (ty := .long) (by decide)
        have f119 : Fld Z h109 b109 nConsec_1 "size" "I" (.int (0 : Int32)) := D109 (Or.inl (wq hw 29 rfl)) (ty := .int) (by decide)
        have f120 : Fld Z h109 b109 nConsec_1 "head" "I" (.int (0 : Int32)) := D109 (Or.inl (wq hw 31 rfl)) (ty := .int) (by decide)
        obtain ⟨_, _, ⟨T121, L121, k121, n121⟩, -, X121, ⟨Lc121, hQ121, l121, y121, z121⟩, st121⟩ := X109.specialBack hx (y := my_3) rfl hown (mvT hZ (wq hw 11 rfl)) (mvT hZ (wq hw 12 rfl)) (mvT hZ (wq hw 13 rfl)) (by decide) (backOf (W := 1) (rm_rin l Z a0 hw [] b109 (z0 - (8 : Int64)) h109 n0 O116 g115 A109 f117 f119 f120 f118) hZ (wq hw 13 rfl) (wq hw 10 rfl) (by decide) (by decide)) (g := (mkF m 72 #[.val (.long z0), .second, .val (.int p1), .val (.int p2), .val (.int p3), .val (.int p4), .val (.long (z0 - (8 : Int64))), .second, .val (.int (1 : Int32)), .val (.int (1 : Int32)), .val (.ref r103), .val (.ref r105), .val (.ref r107), .unset, .unset, .unset, .unset, .unset, .unset, .unset, .unset, .unset, .unset] [(.long (z0 - (8 : Int64))), (.ref b109), (.ref b109)])) rfl (by rw [hml]; rfl) (Steps.refl _) (a := b109) (argsL := [(.long (z0 - (8 : Int64)))]) (rest := [(.ref b109)]) (lenOf pd_3 rfl) rfl (by show 2 * 0 + _ ≤ _; exact Nat.le_of_eq rfl) (hb hby at_72) (fun _ _ => ⟨rfl, e109, (by decide : 4 + 1 ≤ _), (by decide : 7 + 16 ≤ _)⟩)
        dsimp only [Pt.U, Pt.locs, Pt.cells, Pt.slots] at X121 l121 y121 z121 st121 hQ121
        have X121 := own_to X121 l121 y121 z121
        obtain ⟨bb121, kk121, rfl, N121q, K121, R121⟩ := hQ121
        have N121 := Fr.app N107 N121q
        have O122 : Old Z n0 T121.heap := Old.keep O116 K121 (allS g115 all0)
        obtain ⟨ER121, FV121, FS121, FH121, FF121, VV121, OV121, ga121, gbb121⟩ := (id R121)
        have t123 : Exa Z T121.heap r103 nIntege_0 := ((t110.ext E109).keep K121)
        obtain ⟨cq124, kq124, q124a, q124b, q124c⟩ := isOf hZ rfl (ER121)
        obtain ⟨_, _, ⟨T124, L124, k124, n124⟩, -, X124, ⟨Lc124, hQ124, l124, y124, z124⟩, st124⟩ := X121.virtualBack hx (y := my_6) (z := my_6) hown (mvT hZ (wq hw 23 rfl)) (mvT hZ (wq hw 24 rfl)) (notFace_of_selects (args := #[]) (mvT hZ (wq hw 26 rfl))) (mvT hZ (wq hw 26 rfl)) (mvT hZ (wq hw 25 rfl)) (by decide) (backOf (W := 0) (rm_add_0_0_NNN l Z a0 hw [] b109 bb121 kk121  (z0 - (8 : Int64)) T121.heap n0 O122 R121 r103 t123) hZ (wq hw 27 rfl) (wq hw 10 rfl) (by decide) (by decide)) q124a q124c (g := (mkF m 86 #[.val (.long z0), .second, .val (.int p1), .val (.int p2), .val (.int p3), .val (.int p4), .val (.long (z0 - (8 : Int64))), .second, .val (.int (1 : Int32)), .val (.int (1 : Int32)), .val (.ref r103), .val (.ref r105), .val (.ref r107), .val (.ref b109), .unset, .unset, .unset, .unset, .unset, .unset, .unset, .unset, .unset] [(.ref r103), (.ref b109)])) rfl (by rw [hml]; rfl) (Steps.refl _) (argsL := [(.ref r103)]) (rest := []) (lenOf pd_4 rfl) rfl (by show 2 * 0 + _ ≤ _; exact Nat.le_of_eq rfl) (hb hby at_86) (fun _ _ => ⟨rfl, rfl, (by decide : 5 + 0 ≤ _), (by decide : 23 + 0 ≤ _)⟩)
        dsimp only [Pt.U, Pt.locs, Pt.cells, Pt.slots] at X124 l124 y124 z124 st124 hQ124
        have X124 := own_to X124 l124 y124 z124
        obtain ⟨rfl, N124q, K124, R124⟩ := hQ124
        have N124 := Fr.app N121 N124q
        have O125 : Old Z n0 T124.heap := Old.keep O122 K124 (allS g115 (allS gbb121 all0))
        have ER124 := R124.1
        have t126 : Exa Z T124.heap r105 nIntege_0 := (((t112.ext E109).keep K121).keep K124)
        obtain ⟨cq127, kq127, q127a, q127b, q127c⟩ := isOf hZ rfl (ER124)
        obtain ⟨_, _, ⟨T127, L127, k127, n127⟩, -, X127, ⟨Lc127, hQ127, l127, y127, z127⟩, st127⟩ := X124.virtualBack hx (y := my_6) (z := my_6) hown (mvT hZ (wq hw 23 rfl)) (mvT hZ (wq hw 24 rfl)) (notFace_of_selects (args := #[]) (mvT hZ (wq hw 26 rfl))) (mvT hZ (wq hw 26 rfl)) (mvT hZ (wq hw 25 rfl)) (by decide) (backOf (W := 0) (rm_add_1_0_RNN l Z a0 hw [] b109 bb121 kk121 r103 (z0 - (8 : Int64)) T124.heap n0 O125 R124 r105 t126) hZ (wq hw 27 rfl) (wq hw 10 rfl) (by decide) (by decide)) q127a q127c (g := (mkF m 93 #[.val (.long z0), .second, .val (.int p1), .val (.int p2), .val (.int p3), .val (.int p4), .val (.long (z0 - (8 : Int64))), .second, .val (.int (1 : Int32)), .val (.int (1 : Int32)), .val (.ref r103), .val (.ref r105), .val (.ref r107), .val (.ref b109), .unset, .unset, .unset, .unset, .unset, .unset, .unset, .unset, .unset] [(.ref r105), (.ref b109)])) rfl (by rw [hml]; rfl) (Steps.refl _) (argsL := [(.ref r105)]) (rest := []) (lenOf pd_4 rfl) rfl (by show 2 * 0 + _ ≤ _; exact Nat.le_of_eq rfl) (hb hby at_93) (fun _ _ => ⟨rfl, rfl, (by decide : 5 + 0 ≤ _), (by decide : 23 + 0 ≤ _)⟩)
        dsimp only [Pt.U, Pt.locs, Pt.cells, Pt.slots] at X127 l127 y127 z127 st127 hQ127
        have X127 := own_to X127 l127 y127 z127
        obtain ⟨rfl, N127q, K127, R127⟩ := hQ127
        have N127 := Fr.app N124 N127q
        have O128 : Old Z n0 T127.heap := Old.keep O125 K127 (allS g115 (allS gbb121 all0))
        have ER127 := R127.1
        obtain ⟨cq129, kq129, q129a, q129b, q129c⟩ := isOf hZ rfl (ER127)
        obtain ⟨_, _, ⟨T129, L129, k129, n129⟩, -, X129, ⟨Lc129, hQ129, l129, y129, z129⟩, st129⟩ := X127.virtualBack hx (y := my_9) (z := my_9) hown (mvT hZ (wq hw 33 rfl)) (mvT hZ (wq hw 34 rfl)) (notFace_of_selects (args := #[]) (mvT hZ (wq hw 36 rfl))) (mvT hZ (wq hw 36 rfl)) (mvT hZ (wq hw 35 rfl)) (by decide) (backOf (W := 0) (rm_rem_2_0_RRN l Z a0 hw [] b109 bb121 kk121 r103 r105 (z0 - (8 : Int64)) T127.heap n0 O128 R127) hZ (wq hw 37 rfl) (wq hw 10 rfl) (by decide) (by decide)) q129a q129c (g := (mkF m 103 #[.val (.long z0), .second, .val (.int p1), .val (.int p2), .val (.int p3), .val (.int p4), .val (.long (z0 - (8 : Int64))), .second, .val (.int (1 : Int32)), .val (.int (1 : Int32)), .val (.ref r103), .val (.ref r105), .val (.ref r107), .val (.ref b109), .unset, .unset, .unset, .unset, .unset, .unset, .unset, .unset, .unset] [(.ref b109)])) rfl (by rw [hml]; rfl) (Steps.refl _) (argsL := []) (rest := []) (lenOf pd_8 rfl) rfl (by show 2 * 0 + _ ≤ _; exact Nat.le_of_eq rfl) (hb hby at_103) (fun _ _ => ⟨rfl, rfl, (by decide : 5 + 0 ≤ _), (by decide : 23 + 0 ≤ _)⟩)
        dsimp only [Pt.U, Pt.locs, Pt.cells, Pt.slots] at X129 l129 y129 z129 st129 hQ129
        have X129 := own_to X129 l129 y129 z129
        obtain ⟨rfl, N129q, K129, R129⟩ := hQ129
        have N129 := Fr.app N127 N129q
        have O130 : Old Z n0 T129.heap := Old.keep O128 K129 (allS g115 (allS gbb121 all0))
        have ER129 := R129.1
        have t131 : Exa Z T129.heap r107 nIntege_0 := (((((E107q.ext E109).keep K121).keep K124).keep K127).keep K129)
        obtain ⟨cq132, kq132, q132a, q132b, q132c⟩ := isOf hZ rfl (ER129)
        obtain ⟨_, _, ⟨T132, L132, k132, n132⟩, -, X132, ⟨Lc132, hQ132, l132, y132, z132⟩, st132⟩ := X129.virtualBack hx (y := my_6) (z := my_6) hown (mvT hZ (wq hw 23 rfl)) (mvT hZ (wq hw 24 rfl)) (notFace_of_selects (args := #[]) (mvT hZ (wq hw 26 rfl))) (mvT hZ (wq hw 26 rfl)) (mvT hZ (wq hw 25 rfl)) (by decide) (backOf (W := 0) (rm_add_1_1_NRN l Z a0 hw [] b109 bb121 kk121 r105 ((z0 - (8 : Int64)) + (1 : Int64)) T129.heap n0 O130 R129 r107 t131) hZ (wq hw 27 rfl) (wq hw 10 rfl) (by decide) (by decide)) q132a q132c (g := (mkF m 111 #[.val (.long z0), .second, .val (.int p1), .val (.int p2), .val (.int p3), .val (.int p4), .val (.long (z0 - (8 : Int64))), .second, .val (.int (1 : Int32)), .val (.int (1 : Int32)), .val (.ref r103), .val (.ref r105), .val (.ref r107), .val (.ref b109), .unset, .unset, .unset, .unset, .unset, .unset, .unset, .unset, .unset] [(.ref r107), (.ref b109)])) rfl (by rw [hml]; rfl) (Steps.refl _) (argsL := [(.ref r107)]) (rest := []) (lenOf pd_4 rfl) rfl (by show 2 * 0 + _ ≤ _; exact Nat.le_of_eq rfl) (hb hby at_111) (fun _ _ => ⟨rfl, rfl, (by decide : 5 + 0 ≤ _), (by decide : 23 + 0 ≤ _)⟩)
        dsimp only [Pt.U, Pt.locs, Pt.cells, Pt.slots] at X132 l132 y132 z132 st132 hQ132
        have X132 := own_to X132 l132 y132 z132
        obtain ⟨rfl, N132q, K132, R132⟩ := hQ132
        have N132 := Fr.app N129 N132q
        have O133 : Old Z n0 T132.heap := Old.keep O130 K132 (allS g115 (allS gbb121 all0))
        have ER132 := R132.1
        obtain ⟨cq134, kq134, q134a, q134b, q134c⟩ := isOf hZ rfl (ER132)
        obtain ⟨_, _, ⟨T134, L134, k134, n134⟩, -, X134, ⟨Lc134, hQ134, l134, y134, z134⟩, st134⟩ := X132.virtualBack hx (y := my_4) (z := my_4) hown (mvT hZ (wq hw 49 rfl)) (mvT hZ (wq hw 50 rfl)) (notFace_of_selects (args := #[]) (mvT hZ (wq hw 52 rfl))) (mvT hZ (wq hw 52 rfl)) (mvT hZ (wq hw 51 rfl)) (by decide) (backOf (W := 0) (rm_siz l Z a0 hw [] b109 (2 : Int32) T132.heap n0 R132.2.2.1) hZ (wq hw 53 rfl) (wq hw 10 rfl) (by decide) (by decide)) q134a q134c (g := (mkF m 199 #[.val (.long z0), .second, .val (.int p1), .val (.int p2), .val (.int p3), .val (.int p4), .val (.long (z0 - (8 : Int64))), .second, .val (.int (1 : Int32)), .val (.int (1 : Int32)), .val (.ref r103), .val (.ref r105), .val (.ref r107), .val (.ref b109), .val (.int (2 : Int32)), .val (.long ((z0 - (8 : Int64)) + (1 : Int64))), .second, .val (.long ((z0 - (8 : Int64)) + (2 : Int64))), .second, .val (.long (((z0 - (8 : Int64)) + (2 : Int64)) - (1 : Int64))), .second, .val (.ref r105), .unset] [(.ref b109)])) rfl (by rw [hml]; rfl) (Steps.refl _) (argsL := []) (rest := []) (lenOf pd_5 rfl) rfl (by show 2 * 0 + _ ≤ _; exact Nat.le_of_eq rfl) (hb hby at_199) (fun _ _ => ⟨rfl, rfl, (by decide : 5 + 0 ≤ _), (by decide : 23 + 0 ≤ _)⟩)
        dsimp only [Pt.U, Pt.locs, Pt.cells, Pt.slots] at X134 l134 y134 z134 st134 hQ134
        have X134 := own_to X134 l134 y134 z134
        obtain ⟨rfl, N134q, e134⟩ := hQ134
        have N134 := Fr.app N132 N134q
        obtain ⟨cq135, kq135, q135a, q135b, q135c⟩ := isOf hZ e134 (ER132)
        obtain ⟨_, _, ⟨T135, L135, k135, n135⟩, -, X135, ⟨Lc135, hQ135, l135, y135, z135⟩, st135⟩ := X134.virtualBack hx (y := my_5) (z := my_5) hown (mvT hZ (wq hw 54 rfl)) (mvT hZ (wq hw 55 rfl)) (notFace_of_selects (args := #[]) (mvT hZ (wq hw 57 rfl))) (mvT hZ (wq hw 57 rfl)) (mvT hZ (wq hw 56 rfl)) (by decide) (backOf (W := 0) (rm_fnu l Z a0 hw [] b109 ((z0 - (8 : Int64)) + (1 : Int64)) T132.heap n0 R132.2.2.2.2.1) hZ (wq hw 58 rfl) (wq hw 10 rfl) (by decide) (by decide)) q135a q135c (g := (mkF m 221 #[.val (.long z0), .second, .val (.int p1), .val (.int p2), .val (.int p3), .val (.int p4), .val (.long (z0 - (8 : Int64))), .second, .val (.int (1 : Int32)), .val (.int (1 : Int32)), .val (.ref r103), .val (.ref r105), .val (.ref r107), .val (.ref b109), .val (.int (2 : Int32)), .val (.long ((z0 - (8 : Int64)) + (1 : Int64))), .second, .val (.long ((z0 - (8 : Int64)) + (2 : Int64))), .second, .val (.long (((z0 - (8 : Int64)) + (2 : Int64)) - (1 : Int64))), .second, .val (.ref r105), .val (.int (1 : Int32))] [(.ref b109)])) rfl (by rw [hml]; rfl) (Steps.refl _) (argsL := []) (rest := []) (lenOf pd_6 rfl) rfl (by show 2 * 0 + _ ≤ _; exact Nat.le_of_eq rfl) (hb hby at_221) (fun _ _ => ⟨rfl, e134, (by decide : 5 + 0 ≤ _), (by decide : 23 + 0 ≤ _)⟩)
        dsimp only [Pt.U, Pt.locs, Pt.cells, Pt.slots] at X135 l135 y135 z135 st135 hQ135
        have X135 := own_to X135 l135 y135 z135
        obtain ⟨rfl, N135q, e135⟩ := hQ135
        have N135 := Fr.app N134 N135q
        have he246 : ((z0 - (8 : Int64)) + (2 : Int64)) = ((z0 - (8 : Int64)) + (2 : Int64)) := rfl
        have hg246 : ((z0 - (8 : Int64)) + (1 : Int64)) = ((z0 - (8 : Int64)) + (1 : Int64)) := rfl
        obtain ⟨cq136, kq136, q136a, q136b, q136c⟩ := isOf hZ e135 (ER132)
        obtain ⟨_, _, ⟨T136, L136, k136, n136⟩, -, X136, ⟨Lc136, hQ136, l136, y136, z136⟩, st136⟩ := X135.virtualBack hx (y := my_7) (z := my_7) hown (mvT hZ (wq hw 59 rfl)) (mvT hZ (wq hw 44 rfl)) (notFace_of_selects (args := #[]) (mvT hZ (wq hw 46 rfl))) (mvT hZ (wq hw 46 rfl)) (mvT hZ (wq hw 45 rfl)) (by decide) (backOf (W := 0) (rm_get_2_1_NRR_1 l Z a0 hw [] b109 bb121 kk121 r105 r107 ((z0 - (8 : Int64)) + (1 : Int64)) T132.heap n0 O133 R132 ((z0 - (8 : Int64)) + (2 : Int64)) (own_ge2 he246 hg246 hf (by decide) (by decide)) (own_sub2 he246 hg246 (by decide))) hZ (wq hw 47 rfl) (wq hw 10 rfl) (by decide) (by decide)) q136a q136c (g := (mkF m 246 #[.val (.long z0), .second, .val (.int p1), .val (.int p2), .val (.int p3), .val (.int p4), .val (.long (z0 - (8 : Int64))), .second, .val (.int (1 : Int32)), .val (.int (1 : Int32)), .val (.ref r103), .val (.ref r105), .val (.ref r107), .val (.ref b109), .val (.int (2 : Int32)), .val (.long ((z0 - (8 : Int64)) + (1 : Int64))), .second, .val (.long ((z0 - (8 : Int64)) + (2 : Int64))), .second, .val (.long (((z0 - (8 : Int64)) + (2 : Int64)) - (1 : Int64))), .second, .val (.ref r105), .val (.int (1 : Int32))] [(.long ((z0 - (8 : Int64)) + (2 : Int64))), (.ref b109)])) rfl (by rw [hml]; rfl) (Steps.refl _) (argsL := [(.long ((z0 - (8 : Int64)) + (2 : Int64)))]) (rest := []) (lenOf pd_7 rfl) rfl (by show 2 * 0 + _ ≤ _; exact Nat.le_of_eq rfl) (hb hby at_246) (fun _ _ => ⟨rfl, e135, (by decide : 5 + 0 ≤ _), (by decide : 23 + 0 ≤ _)⟩)
        dsimp only [Pt.U, Pt.locs, Pt.cells, Pt.slots] at X136 l136 y136 z136 st136 hQ136
        have X136 := own_to X136 l136 y136 z136
        obtain ⟨rfl, N136q, e136⟩ := hQ136
        have N136 := Fr.app N135 N136q
        have he270 : (((z0 - (8 : Int64)) + (2 : Int64)) - (1 : Int64)) = ((z0 - (8 : Int64)) + (1 : Int64)) := (own_f1 _ _ _ _ (by decide))
        have hg270 : ((z0 - (8 : Int64)) + (1 : Int64)) = ((z0 - (8 : Int64)) + (1 : Int64)) := rfl
        obtain ⟨cq137, kq137, q137a, q137b, q137c⟩ := isOf hZ e136 (ER132)
        obtain ⟨_, _, ⟨T137, L137, k137, n137⟩, -, X137, ⟨Lc137, hQ137, l137, y137, z137⟩, st137⟩ := X136.virtualBack hx (y := my_7) (z := my_7) hown (mvT hZ (wq hw 59 rfl)) (mvT hZ (wq hw 44 rfl)) (notFace_of_selects (args := #[]) (mvT hZ (wq hw 46 rfl))) (mvT hZ (wq hw 46 rfl)) (mvT hZ (wq hw 45 rfl)) (by decide) (backOf (W := 0) (rm_get_2_1_NRR_0 l Z a0 hw [] b109 bb121 kk121 r105 r107 ((z0 - (8 : Int64)) + (1 : Int64)) T132.heap n0 O133 R132 (((z0 - (8 : Int64)) + (2 : Int64)) - (1 : Int64)) (own_ge2 he270 hg270 hf (by decide) (by decide)) (own_sub2 he270 hg270 (by decide))) hZ (wq hw 47 rfl) (wq hw 10 rfl) (by decide) (by decide)) q137a q137c (g := (mkF m 270 #[.val (.long z0), .second, .val (.int p1), .val (.int p2), .val (.int p3), .val (.int p4), .val (.long (z0 - (8 : Int64))), .second, .val (.int (1 : Int32)), .val (.int (1 : Int32)), .val (.ref r103), .val (.ref r105), .val (.ref r107), .val (.ref b109), .val (.int (2 : Int32)), .val (.long ((z0 - (8 : Int64)) + (1 : Int64))), .second, .val (.long ((z0 - (8 : Int64)) + (2 : Int64))), .second, .val (.long (((z0 - (8 : Int64)) + (2 : Int64)) - (1 : Int64))), .second, .val (.ref r105), .val (.int (1 : Int32))] [(.long (((z0 - (8 : Int64)) + (2 : Int64)) - (1 : Int64))), (.ref b109)])) rfl (by rw [hml]; rfl) (Steps.refl _) (argsL := [(.long (((z0 - (8 : Int64)) + (2 : Int64)) - (1 : Int64)))]) (rest := []) (lenOf pd_7 rfl) rfl (by show 2 * 0 + _ ≤ _; exact Nat.le_of_eq rfl) (hb hby at_270) (fun _ _ => ⟨rfl, e136, (by decide : 5 + 0 ≤ _), (by decide : 23 + 0 ≤ _)⟩)
        dsimp only [Pt.U, Pt.locs, Pt.cells, Pt.slots] at X137 l137 y137 z137 st137 hQ137
        have X137 := own_to X137 l137 y137 z137
        obtain ⟨rfl, N137q, e137⟩ := hQ137
        have N137 := Fr.app N136 N137q
        have he296 : (((z0 - (8 : Int64)) + (2 : Int64)) + (1 : Int64)) = ((z0 - (8 : Int64)) + (3 : Int64)) := (own_f2 _ _ _ _ (by decide))
        have hg296 : ((z0 - (8 : Int64)) + (1 : Int64)) = ((z0 - (8 : Int64)) + (1 : Int64)) := rfl
        obtain ⟨cq138, kq138, q138a, q138b, q138c⟩ := isOf hZ e137 (ER132)
        obtain ⟨_, _, ⟨T138, L138, k138, n138⟩, -, X138, ⟨Lc138, hQ138, l138, y138, z138⟩, st138⟩ := X137.virtualBack hx (y := my_7) (z := my_7) hown (mvT hZ (wq hw 59 rfl)) (mvT hZ (wq hw 44 rfl)) (notFace_of_selects (args := #[]) (mvT hZ (wq hw 46 rfl))) (mvT hZ (wq hw 46 rfl)) (mvT hZ (wq hw 45 rfl)) (by decide) (backOf (W := 0) (rm_get_2_1_NRR_hi l Z a0 hw [] b109 bb121 kk121 r105 r107 ((z0 - (8 : Int64)) + (1 : Int64)) T132.heap n0 O133 R132 (((z0 - (8 : Int64)) + (2 : Int64)) + (1 : Int64)) (own_ge2 he296 hg296 hf (by decide) (by decide)) (own_sub2 he296 hg296 (by decide))) hZ (wq hw 47 rfl) (wq hw 10 rfl) (by decide) (by decide)) q138a q138c (g := (mkF m 296 #[.val (.long z0), .second, .val (.int p1), .val (.int p2), .val (.int p3), .val (.int p4), .val (.long (z0 - (8 : Int64))), .second, .val (.int (1 : Int32)), .val (.int (1 : Int32)), .val (.ref r103), .val (.ref r105), .val (.ref r107), .val (.ref b109), .val (.int (2 : Int32)), .val (.long ((z0 - (8 : Int64)) + (1 : Int64))), .second, .val (.long ((z0 - (8 : Int64)) + (2 : Int64))), .second, .val (.long (((z0 - (8 : Int64)) + (2 : Int64)) - (1 : Int64))), .second, .val (.ref r105), .val (.int (1 : Int32))] [(.long (((z0 - (8 : Int64)) + (2 : Int64)) + (1 : Int64))), (.ref b109)])) rfl (by rw [hml]; rfl) (Steps.refl _) (argsL := [(.long (((z0 - (8 : Int64)) + (2 : Int64)) + (1 : Int64)))]) (rest := []) (lenOf pd_7 rfl) rfl (by show 2 * 0 + _ ≤ _; exact Nat.le_of_eq rfl) (hb hby at_296) (fun _ _ => ⟨rfl, e137, (by decide : 5 + 0 ≤ _), (by decide : 23 + 0 ≤ _)⟩)
        dsimp only [Pt.U, Pt.locs, Pt.cells, Pt.slots] at X138 l138 y138 z138 st138 hQ138
        have X138 := own_to X138 l138 y138 z138
        obtain ⟨rfl, N138q, e138⟩ := hQ138
        have N138 := Fr.app N137 N138q
        obtain ⟨fs, hr, hrun, hended, hW, hsame⟩ := X138.leave (v := (some (.int (1 : Int32)))) (fun h => by rw [Bd.returns] at h; cases h)
        refine ⟨_, _, gp68 _ ?_, hrun, hended, _, _, rfl, ?_, ⟨_, rfl⟩, hW, hsame.mono (by decide) (by decide)⟩
        · refine XS.ifNo X0.here hx rfl (hb hby at_37) rfl ((if0 _ _).trans (feq hc37).1) ?_
          show Steps p.tables e below (s₁.setTop (mkF m 40 #[.val (.long z0), .second, .val (.int p1), .val (.int p2), .val (.int p3), .val (.int p4), .val (.long (z0 - (8 : Int64))), .second, .val (.int (1 : Int32)), .unset, .unset, .unset, .unset, .unset, .unset, .unset, .unset, .unset, .unset, .unset, .unset, .unset, .unset] [])) _
          refine XS.iconst X0.here hx rfl (hb hby at_40) ?_
          refine XS.goto X0.here hx rfl (pc0 := 41) (pc' := 45) rfl (hb hby at_41) (by decide) (by decide) ?_
          refine XS.istore X0.here hx rfl (hb hby at_45) rfl (l' := #[.val (.long z0), .second, .val (.int p1), .val (.int p2), .val (.int p3), .val (.int p4), .val (.long (z0 - (8 : Int64))), .second, .val (.int (1 : Int32)), .val (.int (1 : Int32)), .unset, .unset, .unset, .unset, .unset, .unset, .unset, .unset, .unset, .unset, .unset, .unset, .unset]) rfl ?_
          refine XS.iloadN X0.here hx rfl (hb hby at_47) rfl ?_
          refine st103 _ ?_
          refine XS.astore X103.here hx rfl (hb hby at_51) rfl rfl (l' := #[.val (.long z0), .second, .val (.int p1), .val (.int p2), .val (.int p3), .val (.int p4), .val (.long (z0 - (8 : Int64))), .second, .val (.int (1 : Int32)), .val (.int (1 : Int32)), .val (.ref r103), .unset, .unset, .unset, .unset, .unset, .unset, .unset, .unset, .unset, .unset, .unset, .unset]) rfl ?_
          show Steps p.tables e below (T103.setTop (mkF m 53 #[.val (.long z0), .second, .val (.int p1), .val (.int p2), .val (.int p3), .val (.int p4), .val (.long (z0 - (8 : Int64))), .second, .val (.int (1 : Int32)), .val (.int (1 : Int32)), .val (.ref r103), .unset, .unset, .unset, .unset, .unset, .unset, .unset, .unset, .unset, .unset, .unset, .unset] [])) _
          refine XS.iloadN X103.here hx rfl (hb hby at_53) rfl ?_
          refine st105 _ ?_
          refine XS.astore X105.here hx rfl (hb hby at_57) rfl rfl (l' := #[.val (.long z0), .second, .val (.int p1), .val (.int p2), .val (.int p3), .val (.int p4), .val (.long (z0 - (8 : Int64))), .second, .val (.int (1 : Int32)), .val (.int (1 : Int32)), .val (.ref r103), .val (.ref r105), .unset, .unset, .unset, .unset, .unset, .unset, .unset, .unset, .unset, .unset, .unset]) rfl ?_
          refine XS.iload X105.here hx rfl (hb hby at_59) rfl ?_
          refine st107 _ ?_
          refine XS.astore X107.here hx rfl (hb hby at_64) rfl rfl (l' := #[.val (.long z0), .second, .val (.int p1), .val (.int p2), .val (.int p3), .val (.int p4), .val (.long (z0 - (8 : Int64))), .second, .val (.int (1 : Int32)), .val (.int (1 : Int32)), .val (.ref r103), .val (.ref r105), .val (.ref r107), .unset, .unset, .unset, .unset, .unset, .unset, .unset, .unset, .unset, .unset]) rfl ?_
          show Steps p.tables e below (T107.setTop (mkF m 66 #[.val (.long z0), .second, .val (.int p1), .val (.int p2), .val (.int p3), .val (.int p4), .val (.long (z0 - (8 : Int64))), .second, .val (.int (1 : Int32)), .val (.int (1 : Int32)), .val (.ref r103), .val (.ref r105), .val (.ref r107), .unset, .unset, .unset, .unset, .unset, .unset, .unset, .unset, .unset, .unset] [])) _
          refine st109 _ ?_
          refine XS.dup X109.here hx rfl (hb hby at_69) rfl rfl ?_
          refine XS.lload X109.here hx rfl (hb hby at_70) rfl ?_
          refine st121.trans ?_
          refine XS.astore X121.here hx rfl (hb hby at_75) rfl rfl (l' := #[.val (.long z0), .second, .val (.int p1), .val (.int p2), .val (.int p3), .val (.int p4), .val (.long (z0 - (8 : Int64))), .second, .val (.int (1 : Int32)), .val (.int (1 : Int32)), .val (.ref r103), .val (.ref r105), .val (.ref r107), .val (.ref b109), .unset, .unset, .unset, .unset, .unset, .unset, .unset, .unset, .unset]) rfl ?_
          refine XS.iload X121.here hx rfl (hb hby at_77) rfl ?_
          show Steps p.tables e below (T121.setTop (mkF m 79 #[.val (.long z0), .second, .val (.int p1), .val (.int p2), .val (.int p3), .val (.int p4), .val (.long (z0 - (8 : Int64))), .second, .val (.int (1 : Int32)), .val (.int (1 : Int32)), .val (.ref r103), .val (.ref r105), .val (.ref r107), .val (.ref b109), .unset, .unset, .unset, .unset, .unset, .unset, .unset, .unset, .unset] [(.int (1 : Int32))])) _
          refine XS.ifNo X121.here hx rfl (hb hby at_79) rfl ((if0 _ _).trans (feq (by decide : ¬ ((1 : Int32) = (0 : Int32)))).1) ?_
          refine XS.aload X121.here hx rfl (hb hby at_82) rfl rfl ?_
          refine XS.aload X121.here hx rfl (hb hby at_84) rfl rfl ?_
          refine st124.trans ?_
          refine XS.aload X124.here hx rfl (hb hby at_89) rfl rfl ?_
          refine XS.aload X124.here hx rfl (hb hby at_91) rfl rfl ?_
          show Steps p.tables e below (T124.setTop (mkF m 93 #[.val (.long z0), .second, .val (.int p1), .val (.int p2), .val (.int p3), .val (.int p4), .val (.long (z0 - (8 : Int64))), .second, .val (.int (1 : Int32)), .val (.int (1 : Int32)), .val (.ref r103), .val (.ref r105), .val (.ref r107), .val (.ref b109), .unset, .unset, .unset, .unset, .unset, .unset, .unset, .unset, .unset] [(.ref r105), (.ref b109)])) _
          refine st127.trans ?_
          refine XS.iload X127.here hx rfl (hb hby at_96) rfl ?_
          refine XS.ifNo X127.here hx rfl (hb hby at_98) rfl ((if0 _ _).trans (feq (by decide : ¬ ((1 : Int32) = (0 : Int32)))).1) ?_
          refine XS.aload X127.here hx rfl (hb hby at_101) rfl rfl ?_
          refine st129.trans ?_
          refine XS.pop X129.here hx rfl (hb hby at_106) rfl rfl ?_
          show Steps p.tables e below (T129.setTop (mkF m 107 #[.val (.long z0), .second, .val (.int p1), .val (.int p2), .val (.int p3), .val (.int p4), .val (.long (z0 - (8 : Int64))), .second, .val (.int (1 : Int32)), .val (.int (1 : Int32)), .val (.ref r103), .val (.ref r105), .val (.ref r107), .val (.ref b109), .unset, .unset, .unset, .unset, .unset, .unset, .unset, .unset, .unset] [])) _
          refine XS.aload X129.here hx rfl (hb hby at_107) rfl rfl ?_
          refine XS.aload X129.here hx rfl (hb hby at_109) rfl rfl ?_
          refine st132.trans ?_
          refine XS.iload X132.here hx rfl (hb hby at_114) rfl ?_
          refine XS.ifNo X132.here hx rfl (hb hby at_116) rfl ((if0 _ _).trans (feq (by decide : ¬ ((1 : Int32) = (0 : Int32)))).1) ?_
          refine XS.iconst X132.here hx rfl (hb hby at_119) ?_
          show Steps p.tables e below (T132.setTop (mkF m 120 #[.val (.long z0), .second, .val (.int p1), .val (.int p2), .val (.int p3), .val (.int p4), .val (.long (z0 - (8 : Int64))), .second, .val (.int (1 : Int32)), .val (.int (1 : Int32)), .val (.ref r103), .val (.ref r105), .val (.ref r107), .val (.ref b109), .unset, .unset, .unset, .unset, .unset, .unset, .unset, .unset, .unset] [(.int (1 : Int32))])) _
          refine XS.goto X132.here hx rfl (pc0 := 120) (pc' := 124) rfl (hb hby at_120) (by decide) (by decide) ?_
          refine XS.iconst X132.here hx rfl (hb hby at_124) ?_
          refine XS.iadd X132.here hx rfl (hb hby at_125) rfl ?_
          show Steps p.tables e below (T132.setTop (mkF m 126 #[.val (.long z0), .second, .val (.int p1), .val (.int p2), .val (.int p3), .val (.int p4), .val (.long (z0 - (8 : Int64))), .second, .val (.int (1 : Int32)), .val (.int (1 : Int32)), .val (.ref r103), .val (.ref r105), .val (.ref r107), .val (.ref b109), .unset, .unset, .unset, .unset, .unset, .unset, .unset, .unset, .unset] [(.int (2 : Int32))])) _
          refine XS.iload X132.here hx rfl (hb hby at_126) rfl ?_
          refine XS.ifNo X132.here hx rfl (hb hby at_128) rfl ((if0 _ _).trans (feq (by decide : ¬ ((1 : Int32) = (0 : Int32)))).1) ?_
          refine XS.iconst X132.here hx rfl (hb hby at_131) ?_
          show Steps p.tables e below (T132.setTop (mkF m 132 #[.val (.long z0), .second, .val (.int p1), .val (.int p2), .val (.int p3), .val (.int p4), .val (.long (z0 - (8 : Int64))), .second, .val (.int (1 : Int32)), .val (.int (1 : Int32)), .val (.ref r103), .val (.ref r105), .val (.ref r107), .val (.ref b109), .unset, .unset, .unset, .unset, .unset, .unset, .unset, .unset, .unset] [(.int (1 : Int32)), (.int (2 : Int32))])) _
          refine XS.goto X132.here hx rfl (pc0 := 132) (pc' := 136) rfl (hb hby at_132) (by decide) (by decide) ?_
          refine XS.isub X132.here hx rfl (hb hby at_136) rfl ?_
          show Steps p.tables e below (T132.setTop (mkF m 137 #[.val (.long z0), .second, .val (.int p1), .val (.int p2), .val (.int p3), .val (.int p4), .val (.long (z0 - (8 : Int64))), .second, .val (.int (1 : Int32)), .val (.int (1 : Int32)), .val (.ref r103), .val (.ref r105), .val (.ref r107), .val (.ref b109), .unset, .unset, .unset, .unset, .unset, .unset, .unset, .unset, .unset] [(.int (1 : Int32))])) _
          refine XS.iconst X132.here hx rfl (hb hby at_137) ?_
          refine XS.iadd X132.here hx rfl (hb hby at_138) rfl ?_
          show Steps p.tables e below (T132.setTop (mkF m 139 #[.val (.long z0), .second, .val (.int p1), .val (.int p2), .val (.int p3), .val (.int p4), .val (.long (z0 - (8 : Int64))), .second, .val (.int (1 : Int32)), .val (.int (1 : Int32)), .val (.ref r103), .val (.ref r105), .val (.ref r107), .val (.ref b109), .unset, .unset, .unset, .unset, .unset, .unset, .unset, .unset, .unset] [(.int (2 : Int32))])) _
          refine XS.istore X132.here hx rfl (hb hby at_139) rfl (l' := #[.val (.long z0), .second, .val (.int p1), .val (.int p2), .val (.int p3), .val (.int p4), .val (.long (z0 - (8 : Int64))), .second, .val (.int (1 : Int32)), .val (.int (1 : Int32)), .val (.ref r103), .val (.ref r105), .val (.ref r107), .val (.ref b109), .val (.int (2 : Int32)), .unset, .unset, .unset, .unset, .unset, .unset, .unset, .unset]) rfl ?_
          refine XS.lload X132.here hx rfl (hb hby at_141) rfl ?_
          show Steps p.tables e below (T132.setTop (mkF m 143 #[.val (.long z0), .second, .val (.int p1), .val (.int p2), .val (.int p3), .val (.int p4), .val (.long (z0 - (8 : Int64))), .second, .val (.int (1 : Int32)), .val (.int (1 : Int32)), .val (.ref r103), .val (.ref r105), .val (.ref r107), .val (.ref b109), .val (.int (2 : Int32)), .unset, .unset, .unset, .unset, .unset, .unset, .unset, .unset] [(.long (z0 - (8 : Int64)))])) _
          refine XS.iload X132.here hx rfl (hb hby at_143) rfl ?_
          refine XS.ifNo X132.here hx rfl (hb hby at_145) rfl ((if0 _ _).trans (feq (by decide : ¬ ((1 : Int32) = (0 : Int32)))).1) ?_
          refine XS.lconst X132.here hx rfl (hb hby at_148) ?_
          refine XS.goto X132.here hx rfl (pc0 := 149) (pc' := 153) rfl (hb hby at_149) (by decide) (by decide) ?_
          refine XS.ladd X132.here hx rfl (hb hby at_153) rfl ?_
          refine XS.lstore X132.here hx rfl (hb hby at_154) rfl (l' := #[.val (.long z0), .second, .val (.int p1), .val (.int p2), .val (.int p3), .val (.int p4), .val (.long (z0 - (8 : Int64))), .second, .val (.int (1 : Int32)), .val (.int (1 : Int32)), .val (.ref r103), .val (.ref r105), .val (.ref r107), .val (.ref b109), .val (.int (2 : Int32)), .val (.long ((z0 - (8 : Int64)) + (1 : Int64))), .second, .unset, .unset, .unset, .unset, .unset, .unset]) rfl ?_
          show Steps p.tables e below (T132.setTop (mkF m 156 #[.val (.long z0), .second, .val (.int p1), .val (.int p2), .val (.int p3), .val (.int p4), .val (.long (z0 - (8 : Int64))), .second, .val (.int (1 : Int32)), .val (.int (1 : Int32)), .val (.ref r103), .val (.ref r105), .val (.ref r107), .val (.ref b109), .val (.int (2 : Int32)), .val (.long ((z0 - (8 : Int64)) + (1 : Int64))), .second, .unset, .unset, .unset, .unset, .unset, .unset] [])) _
          refine XS.lload X132.here hx rfl (hb hby at_156) rfl ?_
          refine XS.iload X132.here hx rfl (hb hby at_158) rfl ?_
          refine XS.ifNo X132.here hx rfl (hb hby at_160) rfl ((if0 _ _).trans (feq (by decide : ¬ ((1 : Int32) = (0 : Int32)))).1) ?_
          refine X132.ldc2Long hx hown (mvT hZ (wq hw 48 rfl)) (g := (mkF m 163 #[.val (.long z0), .second, .val (.int p1), .val (.int p2), .val (.int p3), .val (.int p4), .val (.long (z0 - (8 : Int64))), .second, .val (.int (1 : Int32)), .val (.int (1 : Int32)), .val (.ref r103), .val (.ref r105), .val (.ref r107), .val (.ref b109), .val (.int (2 : Int32)), .val (.long ((z0 - (8 : Int64)) + (1 : Int64))), .second, .unset, .unset, .unset, .unset, .unset, .unset] [(.long (z0 - (8 : Int64)))])) rfl (hb hby at_163) _ ?_
          refine XS.goto X132.here hx rfl (pc0 := 166) (pc' := 170) rfl (hb hby at_166) (by decide) (by decide) ?_
          refine XS.ladd X132.here hx rfl (hb hby at_170) rfl ?_
          show Steps p.tables e below (T132.setTop (mkF m 171 #[.val (.long z0), .second, .val (.int p1), .val (.int p2), .val (.int p3), .val (.int p4), .val (.long (z0 - (8 : Int64))), .second, .val (.int (1 : Int32)), .val (.int (1 : Int32)), .val (.ref r103), .val (.ref r105), .val (.ref r107), .val (.ref b109), .val (.int (2 : Int32)), .val (.long ((z0 - (8 : Int64)) + (1 : Int64))), .second, .unset, .unset, .unset, .unset, .unset, .unset] [(.long ((z0 - (8 : Int64)) + (2 : Int64)))])) _
          refine XS.lstore X132.here hx rfl (hb hby at_171) rfl (l' := #[.val (.long z0), .second, .val (.int p1), .val (.int p2), .val (.int p3), .val (.int p4), .val (.long (z0 - (8 : Int64))), .second, .val (.int (1 : Int32)), .val (.int (1 : Int32)), .val (.ref r103), .val (.ref r105), .val (.ref r107), .val (.ref b109), .val (.int (2 : Int32)), .val (.long ((z0 - (8 : Int64)) + (1 : Int64))), .second, .val (.long ((z0 - (8 : Int64)) + (2 : Int64))), .second, .unset, .unset, .unset, .unset]) rfl ?_
          refine XS.lload X132.here hx rfl (hb hby at_173) rfl ?_
          refine XS.lconst X132.here hx rfl (hb hby at_175) ?_
          refine XS.lsub X132.here hx rfl (hb hby at_176) rfl ?_
          refine XS.lstore X132.here hx rfl (hb hby at_177) rfl (l' := #[.val (.long z0), .second, .val (.int p1), .val (.int p2), .val (.int p3), .val (.int p4), .val (.long (z0 - (8 : Int64))), .second, .val (.int (1 : Int32)), .val (.int (1 : Int32)), .val (.ref r103), .val (.ref r105), .val (.ref r107), .val (.ref b109), .val (.int (2 : Int32)), .val (.long ((z0 - (8 : Int64)) + (1 : Int64))), .second, .val (.long ((z0 - (8 : Int64)) + (2 : Int64))), .second, .val (.long (((z0 - (8 : Int64)) + (2 : Int64)) - (1 : Int64))), .second, .unset, .unset]) rfl ?_
          refine XS.iload X132.here hx rfl (hb hby at_179) rfl ?_
          show Steps p.tables e below (T132.setTop (mkF m 181 #[.val (.long z0), .second, .val (.int p1), .val (.int p2), .val (.int p3), .val (.int p4), .val (.long (z0 - (8 : Int64))), .second, .val (.int (1 : Int32)), .val (.int (1 : Int32)), .val (.ref r103), .val (.ref r105), .val (.ref r107), .val (.ref b109), .val (.int (2 : Int32)), .val (.long ((z0 - (8 : Int64)) + (1 : Int64))), .second, .val (.long ((z0 - (8 : Int64)) + (2 : Int64))), .second, .val (.long (((z0 - (8 : Int64)) + (2 : Int64)) - (1 : Int64))), .second, .unset, .unset] [(.int (1 : Int32))])) _
          refine XS.ifNo X132.here hx rfl (hb hby at_181) rfl ((if0 _ _).trans (feq (by decide : ¬ ((1 : Int32) = (0 : Int32)))).1) ?_
          refine XS.iload X132.here hx rfl (hb hby at_184) rfl ?_
          refine XS.ifYes X132.here hx rfl (pc0 := 186) (pc' := 193) rfl (hb hby at_186) rfl ((if0 _ _).trans (feq (by decide : ¬ ((1 : Int32) = (0 : Int32)))).2) (by decide) (by decide) ?_
          refine XS.aload X132.here hx rfl (hb hby at_193) rfl rfl ?_
          refine XS.astore X132.here hx rfl (hb hby at_195) rfl rfl (l' := #[.val (.long z0), .second, .val (.int p1), .val (.int p2), .val (.int p3), .val (.int p4), .val (.long (z0 - (8 : Int64))), .second, .val (.int (1 : Int32)), .val (.int (1 : Int32)), .val (.ref r103), .val (.ref r105), .val (.ref r107), .val (.ref b109), .val (.int (2 : Int32)), .val (.long ((z0 - (8 : Int64)) + (1 : Int64))), .second, .val (.long ((z0 - (8 : Int64)) + (2 : Int64))), .second, .val (.long (((z0 - (8 : Int64)) + (2 : Int64)) - (1 : Int64))), .second, .val (.ref r105), .unset]) rfl ?_
          refine XS.aload X132.here hx rfl (hb hby at_197) rfl rfl ?_
          show Steps p.tables e below (T132.setTop (mkF m 199 #[.val (.long z0), .second, .val (.int p1), .val (.int p2), .val (.int p3), .val (.int p4), .val (.long (z0 - (8 : Int64))), .second, .val (.int (1 : Int32)), .val (.int (1 : Int32)), .val (.ref r103), .val (.ref r105), .val (.ref r107), .val (.ref b109), .val (.int (2 : Int32)), .val (.long ((z0 - (8 : Int64)) + (1 : Int64))), .second, .val (.long ((z0 - (8 : Int64)) + (2 : Int64))), .second, .val (.long (((z0 - (8 : Int64)) + (2 : Int64)) - (1 : Int64))), .second, .val (.ref r105), .unset] [(.ref b109)])) _
          refine st134.trans ?_
          refine XS.iload X134.here hx rfl (hb hby at_202) rfl ?_
          refine XS.icmpNo X134.here hx rfl (hb hby at_204) rfl (teq (by decide : (2 : Int32) = (2 : Int32))).2 ?_
          refine XS.iconst X134.here hx rfl (hb hby at_207) ?_
          refine XS.goto X134.here hx rfl (pc0 := 208) (pc' := 212) rfl (hb hby at_208) (by decide) (by decide) ?_
          refine XS.istore X134.here hx rfl (hb hby at_212) rfl (l' := #[.val (.long z0), .second, .val (.int p1), .val (.int p2), .val (.int p3), .val (.int p4), .val (.long (z0 - (8 : Int64))), .second, .val (.int (1 : Int32)), .val (.int (1 : Int32)), .val (.ref r103), .val (.ref r105), .val (.ref r107), .val (.ref b109), .val (.int (2 : Int32)), .val (.long ((z0 - (8 : Int64)) + (1 : Int64))), .second, .val (.long ((z0 - (8 : Int64)) + (2 : Int64))), .second, .val (.long (((z0 - (8 : Int64)) + (2 : Int64)) - (1 : Int64))), .second, .val (.ref r105), .val (.int (1 : Int32))]) rfl ?_
          show Steps p.tables e below (T134.setTop (mkF m 214 #[.val (.long z0), .second, .val (.int p1), .val (.int p2), .val (.int p3), .val (.int p4), .val (.long (z0 - (8 : Int64))), .second, .val (.int (1 : Int32)), .val (.int (1 : Int32)), .val (.ref r103), .val (.ref r105), .val (.ref r107), .val (.ref b109), .val (.int (2 : Int32)), .val (.long ((z0 - (8 : Int64)) + (1 : Int64))), .second, .val (.long ((z0 - (8 : Int64)) + (2 : Int64))), .second, .val (.long (((z0 - (8 : Int64)) + (2 : Int64)) - (1 : Int64))), .second, .val (.ref r105), .val (.int (1 : Int32))] [])) _
          refine XS.iload X134.here hx rfl (hb hby at_214) rfl ?_
          refine XS.ifNo X134.here hx rfl (hb hby at_216) rfl ((if0 _ _).trans (feq (by decide : ¬ ((1 : Int32) = (0 : Int32)))).1) ?_
          refine XS.aload X134.here hx rfl (hb hby at_219) rfl rfl ?_
          refine st135.trans ?_
          refine XS.lload X135.here hx rfl (hb hby at_224) rfl ?_
          refine XS.lcmp X135.here hx rfl (hb hby at_226) rfl ?_
          show Steps p.tables e below (T135.setTop (mkF m 227 #[.val (.long z0), .second, .val (.int p1), .val (.int p2), .val (.int p3), .val (.int p4), .val (.long (z0 - (8 : Int64))), .second, .val (.int (1 : Int32)), .val (.int (1 : Int32)), .val (.ref r103), .val (.ref r105), .val (.ref r107), .val (.ref b109), .val (.int (2 : Int32)), .val (.long ((z0 - (8 : Int64)) + (1 : Int64))), .second, .val (.long ((z0 - (8 : Int64)) + (2 : Int64))), .second, .val (.long (((z0 - (8 : Int64)) + (2 : Int64)) - (1 : Int64))), .second, .val (.ref r105), .val (.int (1 : Int32))] [(.int (lcmpW ((z0 - (8 : Int64)) + (1 : Int64)) ((z0 - (8 : Int64)) + (1 : Int64))))])) _
          refine XS.ifNo X135.here hx rfl (hb hby at_227) rfl ((if0 _ _).trans (teq ((lw_eq _ _).mpr rfl)).2) ?_
          refine XS.iconst X135.here hx rfl (hb hby at_230) ?_
          refine XS.goto X135.here hx rfl (pc0 := 231) (pc' := 235) rfl (hb hby at_231) (by decide) (by decide) ?_
          refine XS.istore X135.here hx rfl (hb hby at_235) rfl (l' := #[.val (.long z0), .second, .val (.int p1), .val (.int p2), .val (.int p3), .val (.int p4), .val (.long (z0 - (8 : Int64))), .second, .val (.int (1 : Int32)), .val (.int (1 : Int32)), .val (.ref r103), .val (.ref r105), .val (.ref r107), .val (.ref b109), .val (.int (2 : Int32)), .val (.long ((z0 - (8 : Int64)) + (1 : Int64))), .second, .val (.long ((z0 - (8 : Int64)) + (2 : Int64))), .second, .val (.long (((z0 - (8 : Int64)) + (2 : Int64)) - (1 : Int64))), .second, .val (.ref r105), .val (.int (1 : Int32))]) rfl ?_
          refine XS.iload X135.here hx rfl (hb hby at_237) rfl ?_
          refine XS.ifNo X135.here hx rfl (hb hby at_239) rfl ((if0 _ _).trans (feq (by decide : ¬ ((1 : Int32) = (0 : Int32)))).1) ?_
          show Steps p.tables e below (T135.setTop (mkF m 242 #[.val (.long z0), .second, .val (.int p1), .val (.int p2), .val (.int p3), .val (.int p4), .val (.long (z0 - (8 : Int64))), .second, .val (.int (1 : Int32)), .val (.int (1 : Int32)), .val (.ref r103), .val (.ref r105), .val (.ref r107), .val (.ref b109), .val (.int (2 : Int32)), .val (.long ((z0 - (8 : Int64)) + (1 : Int64))), .second, .val (.long ((z0 - (8 : Int64)) + (2 : Int64))), .second, .val (.long (((z0 - (8 : Int64)) + (2 : Int64)) - (1 : Int64))), .second, .val (.ref r105), .val (.int (1 : Int32))] [])) _
          refine XS.aload X135.here hx rfl (hb hby at_242) rfl rfl ?_
          refine XS.lload X135.here hx rfl (hb hby at_244) rfl ?_
          refine st136.trans ?_
          refine XS.aload X136.here hx rfl (hb hby at_249) rfl rfl ?_
          refine Jvm.RoadKit.acmp (g := (mkF m 251 #[.val (.long z0), .second, .val (.int p1), .val (.int p2), .val (.int p3), .val (.int p4), .val (.long (z0 - (8 : Int64))), .second, .val (.int (1 : Int32)), .val (.int (1 : Int32)), .val (.ref r103), .val (.ref r105), .val (.ref r107), .val (.ref b109), .val (.int (2 : Int32)), .val (.long ((z0 - (8 : Int64)) + (1 : Int64))), .second, .val (.long ((z0 - (8 : Int64)) + (2 : Int64))), .second, .val (.long (((z0 - (8 : Int64)) + (2 : Int64)) - (1 : Int64))), .second, .val (.ref r105), .val (.int (1 : Int32))] [(.ref r107), (.ref r107)])) X136 hx rfl rfl rfl (pc0 := 251) (pc' := 254) (same := true) rfl (hb hby at_251) rfl (decide_eq_true rfl) (by decide) (by decide) ?_
          refine XS.iconst X136.here hx rfl (hb hby at_254) ?_
          show Steps p.tables e below (T136.setTop (mkF m 255 #[.val (.long z0), .second, .val (.int p1), .val (.int p2), .val (.int p3), .val (.int p4), .val (.long (z0 - (8 : Int64))), .second, .val (.int (1 : Int32)), .val (.int (1 : Int32)), .val (.ref r103), .val (.ref r105), .val (.ref r107), .val (.ref b109), .val (.int (2 : Int32)), .val (.long ((z0 - (8 : Int64)) + (1 : Int64))), .second, .val (.long ((z0 - (8 : Int64)) + (2 : Int64))), .second, .val (.long (((z0 - (8 : Int64)) + (2 : Int64)) - (1 : Int64))), .second, .val (.ref r105), .val (.int (1 : Int32))] [(.int (1 : Int32))])) _
          refine XS.goto X136.here hx rfl (pc0 := 255) (pc' := 259) rfl (hb hby at_255) (by decide) (by decide) ?_
          refine XS.istore X136.here hx rfl (hb hby at_259) rfl (l' := #[.val (.long z0), .second, .val (.int p1), .val (.int p2), .val (.int p3), .val (.int p4), .val (.long (z0 - (8 : Int64))), .second, .val (.int (1 : Int32)), .val (.int (1 : Int32)), .val (.ref r103), .val (.ref r105), .val (.ref r107), .val (.ref b109), .val (.int (2 : Int32)), .val (.long ((z0 - (8 : Int64)) + (1 : Int64))), .second, .val (.long ((z0 - (8 : Int64)) + (2 : Int64))), .second, .val (.long (((z0 - (8 : Int64)) + (2 : Int64)) - (1 : Int64))), .second, .val (.ref r105), .val (.int (1 : Int32))]) rfl ?_
          refine XS.iload X136.here hx rfl (hb hby at_261) rfl ?_
          refine XS.ifNo X136.here hx rfl (hb hby at_263) rfl ((if0 _ _).trans (feq (by decide : ¬ ((1 : Int32) = (0 : Int32)))).1) ?_
          refine XS.aload X136.here hx rfl (hb hby at_266) rfl rfl ?_
          refine XS.lload X136.here hx rfl (hb hby at_268) rfl ?_
          show Steps p.tables e below (T136.setTop (mkF m 270 #[.val (.long z0), .second, .val (.int p1), .val (.int p2), .val (.int p3), .val (.int p4), .val (.long (z0 - (8 : Int64))), .second, .val (.int (1 : Int32)), .val (.int (1 : Int32)), .val (.ref r103), .val (.ref r105), .val (.ref r107), .val (.ref b109), .val (.int (2 : Int32)), .val (.long ((z0 - (8 : Int64)) + (1 : Int64))), .second, .val (.long ((z0 - (8 : Int64)) + (2 : Int64))), .second, .val (.long (((z0 - (8 : Int64)) + (2 : Int64)) - (1 : Int64))), .second, .val (.ref r105), .val (.int (1 : Int32))] [(.long (((z0 - (8 : Int64)) + (2 : Int64)) - (1 : Int64))), (.ref b109)])) _
          refine st137.trans ?_
          refine XS.aload X137.here hx rfl (hb hby at_273) rfl rfl ?_
          refine Jvm.RoadKit.acmp (g := (mkF m 275 #[.val (.long z0), .second, .val (.int p1), .val (.int p2), .val (.int p3), .val (.int p4), .val (.long (z0 - (8 : Int64))), .second, .val (.int (1 : Int32)), .val (.int (1 : Int32)), .val (.ref r103), .val (.ref r105), .val (.ref r107), .val (.ref b109), .val (.int (2 : Int32)), .val (.long ((z0 - (8 : Int64)) + (1 : Int64))), .second, .val (.long ((z0 - (8 : Int64)) + (2 : Int64))), .second, .val (.long (((z0 - (8 : Int64)) + (2 : Int64)) - (1 : Int64))), .second, .val (.ref r105), .val (.int (1 : Int32))] [(.ref r105), (.ref r105)])) X137 hx rfl rfl rfl (pc0 := 275) (pc' := 278) (same := true) rfl (hb hby at_275) rfl (decide_eq_true rfl) (by decide) (by decide) ?_
          refine XS.iconst X137.here hx rfl (hb hby at_278) ?_
          refine XS.goto X137.here hx rfl (pc0 := 279) (pc' := 283) rfl (hb hby at_279) (by decide) (by decide) ?_
          refine XS.istore X137.here hx rfl (hb hby at_283) rfl (l' := #[.val (.long z0), .second, .val (.int p1), .val (.int p2), .val (.int p3), .val (.int p4), .val (.long (z0 - (8 : Int64))), .second, .val (.int (1 : Int32)), .val (.int (1 : Int32)), .val (.ref r103), .val (.ref r105), .val (.ref r107), .val (.ref b109), .val (.int (2 : Int32)), .val (.long ((z0 - (8 : Int64)) + (1 : Int64))), .second, .val (.long ((z0 - (8 : Int64)) + (2 : Int64))), .second, .val (.long (((z0 - (8 : Int64)) + (2 : Int64)) - (1 : Int64))), .second, .val (.ref r105), .val (.int (1 : Int32))]) rfl ?_
          show Steps p.tables e below (T137.setTop (mkF m 285 #[.val (.long z0), .second, .val (.int p1), .val (.int p2), .val (.int p3), .val (.int p4), .val (.long (z0 - (8 : Int64))), .second, .val (.int (1 : Int32)), .val (.int (1 : Int32)), .val (.ref r103), .val (.ref r105), .val (.ref r107), .val (.ref b109), .val (.int (2 : Int32)), .val (.long ((z0 - (8 : Int64)) + (1 : Int64))), .second, .val (.long ((z0 - (8 : Int64)) + (2 : Int64))), .second, .val (.long (((z0 - (8 : Int64)) + (2 : Int64)) - (1 : Int64))), .second, .val (.ref r105), .val (.int (1 : Int32))] [])) _
          refine XS.iload X137.here hx rfl (hb hby at_285) rfl ?_
          refine XS.ifNo X137.here hx rfl (hb hby at_287) rfl ((if0 _ _).trans (feq (by decide : ¬ ((1 : Int32) = (0 : Int32)))).1) ?_
          refine XS.aload X137.here hx rfl (hb hby at_290) rfl rfl ?_
          refine XS.lload X137.here hx rfl (hb hby at_292) rfl ?_
          refine XS.lconst X137.here hx rfl (hb hby at_294) ?_
          refine XS.ladd X137.here hx rfl (hb hby at_295) rfl ?_
          show Steps p.tables e below (T137.setTop (mkF m 296 #[.val (.long z0), .second, .val (.int p1), .val (.int p2), .val (.int p3), .val (.int p4), .val (.long (z0 - (8 : Int64))), .second, .val (.int (1 : Int32)), .val (.int (1 : Int32)), .val (.ref r103), .val (.ref r105), .val (.ref r107), .val (.ref b109), .val (.int (2 : Int32)), .val (.long ((z0 - (8 : Int64)) + (1 : Int64))), .second, .val (.long ((z0 - (8 : Int64)) + (2 : Int64))), .second, .val (.long (((z0 - (8 : Int64)) + (2 : Int64)) - (1 : Int64))), .second, .val (.ref r105), .val (.int (1 : Int32))] [(.long (((z0 - (8 : Int64)) + (2 : Int64)) + (1 : Int64))), (.ref b109)])) _
          refine st138.trans ?_
          refine XS.ifnonnullNo X138.here hx rfl (hb hby at_299) rfl ?_
          refine XS.iconst X138.here hx rfl (hb hby at_302) ?_
          refine XS.goto X138.here hx rfl (pc0 := 303) (pc' := 307) rfl (hb hby at_303) (by decide) (by decide) ?_
          refine XS.istore X138.here hx rfl (hb hby at_307) rfl (l' := #[.val (.long z0), .second, .val (.int p1), .val (.int p2), .val (.int p3), .val (.int p4), .val (.long (z0 - (8 : Int64))), .second, .val (.int (1 : Int32)), .val (.int (1 : Int32)), .val (.ref r103), .val (.ref r105), .val (.ref r107), .val (.ref b109), .val (.int (2 : Int32)), .val (.long ((z0 - (8 : Int64)) + (1 : Int64))), .second, .val (.long ((z0 - (8 : Int64)) + (2 : Int64))), .second, .val (.long (((z0 - (8 : Int64)) + (2 : Int64)) - (1 : Int64))), .second, .val (.ref r105), .val (.int (1 : Int32))]) rfl ?_
          refine XS.iload X138.here hx rfl (hb hby at_309) rfl ?_
          show Steps p.tables e below (T138.setTop (mkF m 311 #[.val (.long z0), .second, .val (.int p1), .val (.int p2), .val (.int p3), .val (.int p4), .val (.long (z0 - (8 : Int64))), .second, .val (.int (1 : Int32)), .val (.int (1 : Int32)), .val (.ref r103), .val (.ref r105), .val (.ref r107), .val (.ref b109), .val (.int (2 : Int32)), .val (.long ((z0 - (8 : Int64)) + (1 : Int64))), .second, .val (.long ((z0 - (8 : Int64)) + (2 : Int64))), .second, .val (.long (((z0 - (8 : Int64)) + (2 : Int64)) - (1 : Int64))), .second, .val (.ref r105), .val (.int (1 : Int32))] [(.int (1 : Int32))])) _
          exact retN X138 hx (t := .boolean) Bd.returns (by simp) (hb hby at_311) hr
        · show Q0 n0 _ T138.heap _
          rw [e138]
          exact ⟨rfl, N138⟩
  · have hf := own_b1 hbig
    have gp139 : Go p e below s₁ f₀ s₁ (mkF m 23 #[.val (.long z0), .second, .val (.int p1), .val (.int p2), .val (.int p3), .val (.int p4), .val (.long z0), .second, .unset, .unset, .unset, .unset, .unset, .unset, .unset, .unset, .unset, .unset, .unset, .unset, .unset, .unset, .unset] [(.int (p4 &&& (1 : Int32)))]) := fun t kt => gp1 t (by
      refine XS.ifYes X0.here hx rfl (pc0 := 5) (pc' := 16) rfl (hb hby at_5) rfl ((if0 _ _).trans (flt (fun q => hbig ((lw_gt _ _).mp q))).2.2.2) (by decide) (by decide) ?_
      refine XS.lloadN X0.here hx rfl (hb hby at_16) rfl ?_
      refine XS.lstore X0.here hx rfl (hb hby at_17) rfl (l' := #[.val (.long z0), .second, .val (.int p1), .val (.int p2), .val (.int p3), .val (.int p4), .val (.long z0), .second, .unset, .unset, .unset, .unset, .unset, .unset, .unset, .unset, .unset, .unset, .unset, .unset, .unset, .unset, .unset]) rfl ?_
      refine XS.iload X0.here hx rfl (hb hby at_19) rfl ?_
      refine XS.iconst X0.here hx rfl (hb hby at_21) ?_
      refine XS.iand X0.here hx rfl (hb hby at_22) rfl ?_
      show Steps p.tables e below (s₁.setTop (mkF m 23 #[.val (.long z0), .second, .val (.int p1), .val (.int p2), .val (.int p3), .val (.int p4), .val (.long z0), .second, .unset, .unset, .unset, .unset, .unset, .unset, .unset, .unset, .unset, .unset, .unset, .unset, .unset, .unset, .unset] [(.int (p4 &&& (1 : Int32)))])) _
      exact kt)
    by_cases hc23 : (p4 &&& (1 : Int32)) = (0 : Int32)
    · have gp140 : Go p e below s₁ f₀ s₁ (mkF m 37 #[.val (.long z0), .second, .val (.int p1), .val (.int p2), .val (.int p3), .val (.int p4), .val (.long z0), .second, .val (.int (0 : Int32)), .unset, .unset, .unset, .unset, .unset, .unset, .unset, .unset, .unset, .unset, .unset, .unset, .unset, .unset] [(.int (p4 &&& (2 : Int32)))]) := fun t kt => gp139 t (by
        refine XS.ifYes X0.here hx rfl (pc0 := 23) (pc' := 30) rfl (hb hby at_23) rfl ((if0 _ _).trans (teq hc23).1) (by decide) (by decide) ?_
        refine XS.iconst X0.here hx rfl (hb hby at_30) ?_
        refine XS.istore X0.here hx rfl (hb hby at_31) rfl (l' := #[.val (.long z0), .second, .val (.int p1), .val (.int p2), .val (.int p3), .val (.int p4), .val (.long z0), .second, .val (.int (0 : Int32)), .unset, .unset, .unset, .unset, .unset, .unset, .unset, .unset, .unset, .unset, .unset, .unset, .unset, .unset]) rfl ?_
        refine XS.iload X0.here hx rfl (hb hby at_33) rfl ?_
        refine XS.iconst X0.here hx rfl (hb hby at_35) ?_
        refine XS.iand X0.here hx rfl (hb hby at_36) rfl ?_
        show Steps p.tables e below (s₁.setTop (mkF m 37 #[.val (.long z0), .second, .val (.int p1), .val (.int p2), .val (.int p3), .val (.int p4), .val (.long z0), .second, .val (.int (0 : Int32)), .unset, .unset, .unset, .unset, .unset, .unset, .unset, .unset, .unset, .unset, .unset, .unset, .unset, .unset] [(.int (p4 &&& (2 : Int32)))])) _
        exact kt)
      by_cases hc37 : (p4 &&& (2 : Int32)) = (0 : Int32)
      · obtain ⟨_, _, ⟨T141, L141, k141, n141⟩, -, X141, ⟨Lc141, hQ141, l141, y141, z141⟩, st141⟩ := Jvm.LawKit.callS X0 hx (y := my_2) hown (mvT hZ (wq hw 1 rfl)) (mvT hZ (wq hw 2 rfl)) (mvT hZ (wq hw 3 rfl)) (mvT hZ (wq hw 4 rfl)) (by decide) (backOf (W := 0) (rm_val l Z a0 hw [] ca cc hL p1 h0 n0 O0) hZ (wq hw 4 rfl) (wq hw 3 rfl) (by decide) (by decide)) (g := (mkF m 48 #[.val (.long z0), .second, .val (.int p1), .val (.int p2), .val (.int p3), .val (.int p4), .val (.long z0), .second, .val (.int (0 : Int32)), .val (.int (0 : Int32)), .unset, .unset, .unset, .unset, .unset, .unset, .unset, .unset, .unset, .unset, .unset, .unset, .unset] [(.int p1)])) rfl (by rw [hml]; rfl) (argsL := [(.int p1)]) (rest := []) (lenOf pd_2 rfl) rfl (by show 2 * 0 + _ ≤ _; exact Nat.le_of_eq rfl) (hb hby at_48) (fun _ _ => ⟨rfl, e0, (by decide : 0 + 1 ≤ _), (by decide : 0 + 1 ≤ _)⟩)
        dsimp only [Pt.U, Pt.locs, Pt.cells, Pt.slots] at X141 l141 y141 z141 st141 hQ141
        have X141 := own_to X141 l141 y141 z141
        obtain ⟨r141, rfl, N141q, K141, E141q⟩ := hQ141
        have N141 := Fr.app N0 N141q
        have O142 : Old Z n0 T141.heap := Old.keep O0 K141 all0
        obtain ⟨_, _, ⟨T143, L143, k143, n143⟩, -, X143, ⟨Lc143, hQ143, l143, y143, z143⟩, st143⟩ := Jvm.LawKit.callS X141 hx (y := my_2) hown (mvT hZ (wq hw 1 rfl)) (mvT hZ (wq hw 2 rfl)) (mvT hZ (wq hw 3 rfl)) (mvT hZ (wq hw 4 rfl)) (by decide) (backOf (W := 0) (rm_val l Z a0 hw [] ca cc hL p2 T141.heap n0 O142) hZ (wq hw 4 rfl) (wq hw 3 rfl) (by decide) (by decide)) (g := (mkF m 54 #[.val (.long z0), .second, .val (.int p1), .val (.int p2), .val (.int p3), .val (.int p4), .val (.long z0), .second, .val (.int (0 : Int32)), .val (.int (0 : Int32)), .val (.ref r141), .unset, .unset, .unset, .unset, .unset, .unset, .unset, .unset, .unset, .unset, .unset, .unset] [(.int p2)])) rfl (by rw [hml]; rfl) (argsL := [(.int p2)]) (rest := []) (lenOf pd_2 rfl) rfl (by show 2 * 0 + _ ≤ _; exact Nat.le_of_eq rfl) (hb hby at_54) (fun _ _ => ⟨rfl, rfl, (by decide : 1 + 1 ≤ _), (by decide : 1 + 1 ≤ _)⟩)
        dsimp only [Pt.U, Pt.locs, Pt.cells, Pt.slots] at X143 l143 y143 z143 st143 hQ143
        have X143 := own_to X143 l143 y143 z143
        obtain ⟨r143, rfl, N143q, K143, E143q⟩ := hQ143
        have N143 := Fr.app N141 N143q
        have O144 : Old Z n0 T143.heap := Old.keep O142 K143 all0
        obtain ⟨_, _, ⟨T145, L145, k145, n145⟩, -, X145, ⟨Lc145, hQ145, l145, y145, z145⟩, st145⟩ := Jvm.LawKit.callS X143 hx (y := my_2) hown (mvT hZ (wq hw 1 rfl)) (mvT hZ (wq hw 2 rfl)) (mvT hZ (wq hw 3 rfl)) (mvT hZ (wq hw 4 rfl)) (by decide) (backOf (W := 0) (rm_val l Z a0 hw [] ca cc hL p3 T143.heap n0 O144) hZ (wq hw 4 rfl) (wq hw 3 rfl) (by decide) (by decide)) (g := (mkF m 61 #[.val (.long z0), .second, .val (.int p1), .val (.int p2), .val (.int p3), .val (.int p4), .val (.long z0), .second, .val (.int (0 : Int32)), .val (.int (0 : Int32)), .val (.ref r141), .val (.ref r143), .unset, .unset, .unset, .unset, .unset, .unset, .unset, .unset, .unset, .unset, .unset] [(.int p3)])) rfl (by rw [hml]; rfl) (argsL := [(.int p3)]) (rest := []) (lenOf pd_2 rfl) rfl (by show 2 * 0 + _ ≤ _; exact Nat.le_of_eq rfl) (hb hby at_61) (fun _ _ => ⟨rfl, rfl, (by decide : 2 + 1 ≤ _), (by decide : 2 + 1 ≤ _)⟩)
        dsimp only [Pt.U, Pt.locs, Pt.cells, Pt.slots] at X145 l145 y145 z145 st145 hQ145
        have X145 := own_to X145 l145 y145 z145
        obtain ⟨r145, rfl, N145q, K145, E145q⟩ := hQ145
        have N145 := Fr.app N143 N145q
        have O146 : Old Z n0 T145.heap := Old.keep O144 K145 all0
        obtain ⟨T147, h147, X147, e147, E147, A147, D147, -, st147⟩ := newO X145 hx hZ hown (wq hw 8 rfl) (wq hw 9 rfl) (wq hw 10 rfl) rfl (g := (mkF m 66 #[.val (.long z0), .second, .val (.int p1), .val (.int p2), .val (.int p3), .val (.int p4), .val (.long z0), .second, .val (.int (0 : Int32)), .val (.int (0 : Int32)), .val (.ref r141), .val (.ref r143), .val (.ref r145), .unset, .unset, .unset, .unset, .unset, .unset, .unset, .unset, .unset, .unset] [])) rfl (hb hby at_66) (by decide) (by decide)
        obtain ⟨b147, gb147⟩ : ∃ z, z = T145.heap.size := ⟨_, rfl⟩
        rw [← gb147] at A147 D147 st147
        have t148 : Exa Z T145.heap r141 nIntege_0 := ((E141q.keep K143).keep K145)
        have ne149 : r141 ≠ b147 := Nat.ne_of_lt (Nat.lt_of_lt_of_le t148.lt (Nat.le_of_eq gb147.symm))
        have t150 : Exa Z T145.heap r143 nIntege_0 := (E143q.keep K145)
        have ne151 : r143 ≠ b147 := Nat.ne_of_lt (Nat.lt_of_lt_of_le t150.lt (Nat.le_of_eq gb147.symm))
        have ne152 : r145 ≠ b147 := Nat.ne_of_lt (Nat.lt_of_lt_of_le E145q.lt (Nat.le_of_eq gb147.symm))
        have g153 : n0 ≤ b147 := Nat.le_trans (Nat.le_of_eq O146.1.symm) (Nat.le_trans O146.2.1 (Nat.le_of_eq gb147.symm))
        have O154 : Old Z n0 h147 := Old.ext O146 E147
        have f155 : Fld Z h147 b147 nConsec_1 "values" "[Ljava/lang/Object;" .null := D147 (Or.inl (wq hw 20 rfl)) (ty := (.array (.object nObject_2))) (by decide)
        have f156 : Fld Z h147 b147 nConsec_1 "first" "J" (.long (0 : Int64)) := D147 (Or.inl (wq hw 22 rfl)) (ty := .long) (by decide)
        have f157 : Fld Z h147 b147 nConsec_1 "size" "I" (.int (0 : Int32)) := D147 (Or.inl (wq hw 29 rfl)) (ty := .int) (by decide)
        have f158 : Fld Z h147 b147 nConsec_1 "head" "I" (.int (0 : Int32)) := D147 (Or.inl (wq hw 31 rfl)) (ty := .int) (by decide)
        obtain ⟨_, _, ⟨T159, L159, k159, n159⟩, -, X159, ⟨Lc159, hQ159, l159, y159, z159⟩, st159⟩ := X147.specialBack hx (y := my_3) rfl hown (mvT hZ (wq hw 11 rfl)) (mvT hZ (wq hw 12 rfl)) (mvT hZ (wq hw 13 rfl)) (by decide) (backOf (W := 1) (rm_rin l Z a0 hw [] b147 z0 h147 n0 O154 g153 A147 f155 f157 f158 f156) hZ (wq hw 13 rfl) (wq hw 10 rfl) (by decide) (by decide)) (g := (mkF m 72 #[.val (.long z0), .second, .val (.int p1), .val (.int p2), .val (.int p3), .val (.int p4), .val (.long z0), .second, .val (.int (0 : Int32)), .val (.int (0 : Int32)), .val (.ref r141), .val (.ref r143), .val (.ref r145), .unset, .unset, .unset, .unset, .unset, .unset, .unset, .unset, .unset, .unset] [(.long z0), (.ref b147), (.ref b147)])) rfl (by rw [hml]; rfl) (Steps.refl _) (a := b147) (argsL := [(.long z0)]) (rest := [(.ref b147)]) (lenOf pd_3 rfl) rfl (by show 2 * 0 + _ ≤ _; exact Nat.le_of_eq rfl) (hb hby at_72) (fun _ _ => ⟨rfl, e147, (by decide : 4 + 1 ≤ _), (by decide : 7 + 16 ≤ _)⟩)
        dsimp only [Pt.U, Pt.locs, Pt.cells, Pt.slots] at X159 l159 y159 z159 st159 hQ159
        have X159 := own_to X159 l159 y159 z159
        obtain ⟨bb159, kk159, rfl, N159q, K159, R159⟩ := hQ159
        have N159 := Fr.app N145 N159q
        have O160 : Old Z n0 T159.heap := Old.keep O154 K159 (allS g153 all0)
        obtain ⟨ER159, FV159, FS159, FH159, FF159, VV159, OV159, ga159, gbb159⟩ := (id R159)
        have t161 : Exa Z T159.heap r143 nIntege_0 := ((t150.ext E147).keep K159)
        obtain ⟨cq162, kq162, q162a, q162b, q162c⟩ := isOf hZ rfl (ER159)
        obtain ⟨_, _, ⟨T162, L162, k162, n162⟩, -, X162, ⟨Lc162, hQ162, l162, y162, z162⟩, st162⟩ := X159.virtualBack hx (y := my_6) (z := my_6) hown (mvT hZ (wq hw 23 rfl)) (mvT hZ (wq hw 24 rfl)) (notFace_of_selects (args := #[]) (mvT hZ (wq hw 26 rfl))) (mvT hZ (wq hw 26 rfl)) (mvT hZ (wq hw 25 rfl)) (by decide) (backOf (W := 0) (rm_add_0_0_NNN l Z a0 hw [] b147 bb159 kk159  z0 T159.heap n0 O160 R159 r143 t161) hZ (wq hw 27 rfl) (wq hw 10 rfl) (by decide) (by decide)) q162a q162c (g := (mkF m 93 #[.val (.long z0), .second, .val (.int p1), .val (.int p2), .val (.int p3), .val (.int p4), .val (.long z0), .second, .val (.int (0 : Int32)), .val (.int (0 : Int32)), .val (.ref r141), .val (.ref r143), .val (.ref r145), .val (.ref b147), .unset, .unset, .unset, .unset, .unset, .unset, .unset, .unset, .unset] [(.ref r143), (.ref b147)])) rfl (by rw [hml]; rfl) (Steps.refl _) (argsL := [(.ref r143)]) (rest := []) (lenOf pd_4 rfl) rfl (by show 2 * 0 + _ ≤ _; exact Nat.le_of_eq rfl) (hb hby at_93) (fun _ _ => ⟨rfl, rfl, (by decide : 5 + 0 ≤ _), (by decide : 23 + 0 ≤ _)⟩)
        dsimp only [Pt.U, Pt.locs, Pt.cells, Pt.slots] at X162 l162 y162 z162 st162 hQ162
        have X162 := own_to X162 l162 y162 z162
        obtain ⟨rfl, N162q, K162, R162⟩ := hQ162
        have N162 := Fr.app N159 N162q
        have O163 : Old Z n0 T162.heap := Old.keep O160 K162 (allS g153 (allS gbb159 all0))
        have ER162 := R162.1
        have t164 : Exa Z T162.heap r145 nIntege_0 := (((E145q.ext E147).keep K159).keep K162)
        obtain ⟨cq165, kq165, q165a, q165b, q165c⟩ := isOf hZ rfl (ER162)
        obtain ⟨_, _, ⟨T165, L165, k165, n165⟩, -, X165, ⟨Lc165, hQ165, l165, y165, z165⟩, st165⟩ := X162.virtualBack hx (y := my_6) (z := my_6) hown (mvT hZ (wq hw 23 rfl)) (mvT hZ (wq hw 24 rfl)) (notFace_of_selects (args := #[]) (mvT hZ (wq hw 26 rfl))) (mvT hZ (wq hw 26 rfl)) (mvT hZ (wq hw 25 rfl)) (by decide) (backOf (W := 0) (rm_add_1_0_RNN l Z a0 hw [] b147 bb159 kk159 r143 z0 T162.heap n0 O163 R162 r145 t164) hZ (wq hw 27 rfl) (wq hw 10 rfl) (by decide) (by decide)) q165a q165c (g := (mkF m 111 #[.val (.long z0), .second, .val (.int p1), .val (.int p2), .val (.int p3), .val (.int p4), .val (.long z0), .second, .val (.int (0 : Int32)), .val (.int (0 : Int32)), .val (.ref r141), .val (.ref r143), .val (.ref r145), .val (.ref b147), .unset, .unset, .unset, .unset, .unset, .unset, .unset, .unset, .unset] [(.ref r145), (.ref b147)])) rfl (by rw [hml]; rfl) (Steps.refl _) (argsL := [(.ref r145)]) (rest := []) (lenOf pd_4 rfl) rfl (by show 2 * 0 + _ ≤ _; exact Nat.le_of_eq rfl) (hb hby at_111) (fun _ _ => ⟨rfl, rfl, (by decide : 5 + 0 ≤ _), (by decide : 23 + 0 ≤ _)⟩)
        dsimp only [Pt.U, Pt.locs, Pt.cells, Pt.slots] at X165 l165 y165 z165 st165 hQ165
        have X165 := own_to X165 l165 y165 z165
        obtain ⟨rfl, N165q, K165, R165⟩ := hQ165
        have N165 := Fr.app N162 N165q
        have O166 : Old Z n0 T165.heap := Old.keep O163 K165 (allS g153 (allS gbb159 all0))
        have ER165 := R165.1
        obtain ⟨cq167, kq167, q167a, q167b, q167c⟩ := isOf hZ rfl (ER165)
        obtain ⟨_, _, ⟨T167, L167, k167, n167⟩, -, X167, ⟨Lc167, hQ167, l167, y167, z167⟩, st167⟩ := X165.virtualBack hx (y := my_4) (z := my_4) hown (mvT hZ (wq hw 49 rfl)) (mvT hZ (wq hw 50 rfl)) (notFace_of_selects (args := #[]) (mvT hZ (wq hw 52 rfl))) (mvT hZ (wq hw 52 rfl)) (mvT hZ (wq hw 51 rfl)) (by decide) (backOf (W := 0) (rm_siz l Z a0 hw [] b147 (2 : Int32) T165.heap n0 R165.2.2.1) hZ (wq hw 53 rfl) (wq hw 10 rfl) (by decide) (by decide)) q167a q167c (g := (mkF m 199 #[.val (.long z0), .second, .val (.int p1), .val (.int p2), .val (.int p3), .val (.int p4), .val (.long z0), .second, .val (.int (0 : Int32)), .val (.int (0 : Int32)), .val (.ref r141), .val (.ref r143), .val (.ref r145), .val (.ref b147), .val (.int (2 : Int32)), .val (.long (z0 + (0 : Int64))), .second, .val (.long (z0 + (1 : Int64))), .second, .val (.long ((z0 + (1 : Int64)) - (1 : Int64))), .second, .val (.ref r143), .unset] [(.ref b147)])) rfl (by rw [hml]; rfl) (Steps.refl _) (argsL := []) (rest := []) (lenOf pd_5 rfl) rfl (by show 2 * 0 + _ ≤ _; exact Nat.le_of_eq rfl) (hb hby at_199) (fun _ _ => ⟨rfl, rfl, (by decide : 5 + 0 ≤ _), (by decide : 23 + 0 ≤ _)⟩)
        dsimp only [Pt.U, Pt.locs, Pt.cells, Pt.slots] at X167 l167 y167 z167 st167 hQ167
        have X167 := own_to X167 l167 y167 z167
        obtain ⟨rfl, N167q, e167⟩ := hQ167
        have N167 := Fr.app N165 N167q
        obtain ⟨cq168, kq168, q168a, q168b, q168c⟩ := isOf hZ e167 (ER165)
        obtain ⟨_, _, ⟨T168, L168, k168, n168⟩, -, X168, ⟨Lc168, hQ168, l168, y168, z168⟩, st168⟩ := X167.virtualBack hx (y := my_5) (z := my_5) hown (mvT hZ (wq hw 54 rfl)) (mvT hZ (wq hw 55 rfl)) (notFace_of_selects (args := #[]) (mvT hZ (wq hw 57 rfl))) (mvT hZ (wq hw 57 rfl)) (mvT hZ (wq hw 56 rfl)) (by decide) (backOf (W := 0) (rm_fnu l Z a0 hw [] b147 z0 T165.heap n0 R165.2.2.2.2.1) hZ (wq hw 58 rfl) (wq hw 10 rfl) (by decide) (by decide)) q168a q168c (g := (mkF m 221 #[.val (.long z0), .second, .val (.int p1), .val (.int p2), .val (.int p3), .val (.int p4), .val (.long z0), .second, .val (.int (0 : Int32)), .val (.int (0 : Int32)), .val (.ref r141), .val (.ref r143), .val (.ref r145), .val (.ref b147), .val (.int (2 : Int32)), .val (.long (z0 + (0 : Int64))), .second, .val (.long (z0 + (1 : Int64))), .second, .val (.long ((z0 + (1 : Int64)) - (1 : Int64))), .second, .val (.ref r143), .val (.int (1 : Int32))] [(.ref b147)])) rfl (by rw [hml]; rfl) (Steps.refl _) (argsL := []) (rest := []) (lenOf pd_6 rfl) rfl (by show 2 * 0 + _ ≤ _; exact Nat.le_of_eq rfl) (hb hby at_221) (fun _ _ => ⟨rfl, e167, (by decide : 5 + 0 ≤ _), (by decide : 23 + 0 ≤ _)⟩)
        dsimp only [Pt.U, Pt.locs, Pt.cells, Pt.slots] at X168 l168 y168 z168 st168 hQ168
        have X168 := own_to X168 l168 y168 z168
        obtain ⟨rfl, N168q, e168⟩ := hQ168
        have N168 := Fr.app N167 N168q
        have he246 : (z0 + (1 : Int64)) = (z0 + (1 : Int64)) := rfl
        have hg246 : (z0 + (0 : Int64)) = z0 := (own_f0 _)
        obtain ⟨cq169, kq169, q169a, q169b, q169c⟩ := isOf hZ e168 (ER165)
        obtain ⟨_, _, ⟨T169, L169, k169, n169⟩, -, X169, ⟨Lc169, hQ169, l169, y169, z169⟩, st169⟩ := X168.virtualBack hx (y := my_7) (z := my_7) hown (mvT hZ (wq hw 59 rfl)) (mvT hZ (wq hw 44 rfl)) (notFace_of_selects (args := #[]) (mvT hZ (wq hw 46 rfl))) (mvT hZ (wq hw 46 rfl)) (mvT hZ (wq hw 45 rfl)) (by decide) (backOf (W := 0) (rm_get_2_0_RRN_1 l Z a0 hw [] b147 bb159 kk159 r143 r145 z0 T165.heap n0 O166 R165 (z0 + (1 : Int64)) (own_ge2 he246 hg246 hf (by decide) (by decide)) (own_sub2 he246 hg246 (by decide))) hZ (wq hw 47 rfl) (wq hw 10 rfl) (by decide) (by decide)) q169a q169c (g := (mkF m 246 #[.val (.long z0), .second, .val (.int p1), .val (.int p2), .val (.int p3), .val (.int p4), .val (.long z0), .second, .val (.int (0 : Int32)), .val (.int (0 : Int32)), .val (.ref r141), .val (.ref r143), .val (.ref r145), .val (.ref b147), .val (.int (2 : Int32)), .val (.long (z0 + (0 : Int64))), .second, .val (.long (z0 + (1 : Int64))), .second, .val (.long ((z0 + (1 : Int64)) - (1 : Int64))), .second, .val (.ref r143), .val (.int (1 : Int32))] [(.long (z0 + (1 : Int64))), (.ref b147)])) rfl (by rw [hml]; rfl) (Steps.refl _) (argsL := [(.long (z0 + (1 : Int64)))]) (rest := []) (lenOf pd_7 rfl) rfl (by show 2 * 0 + _ ≤ _; exact Nat.le_of_eq rfl) (hb hby at_246) (fun _ _ => ⟨rfl, e168, (by decide : 5 + 0 ≤ _), (by decide : 23 + 0 ≤ _)⟩)
        dsimp only [Pt.U, Pt.locs, Pt.cells, Pt.slots] at X169 l169 y169 z169 st169 hQ169
        have X169 := own_to X169 l169 y169 z169
        obtain ⟨rfl, N169q, e169⟩ := hQ169
        have N169 := Fr.app N168 N169q
        have he270 : ((z0 + (1 : Int64)) - (1 : Int64)) = (z0 + (0 : Int64)) := (own_f1 _ _ _ _ (by decide))
        have hg270 : (z0 + (0 : Int64)) = z0 := (own_f0 _)
        obtain ⟨cq170, kq170, q170a, q170b, q170c⟩ := isOf hZ e169 (ER165)
        obtain ⟨_, _, ⟨T170, L170, k170, n170⟩, -, X170, ⟨Lc170, hQ170, l170, y170, z170⟩, st170⟩ := X169.virtualBack hx (y := my_7) (z := my_7) hown (mvT hZ (wq hw 59 rfl)) (mvT hZ (wq hw 44 rfl)) (notFace_of_selects (args := #[]) (mvT hZ (wq hw 46 rfl))) (mvT hZ (wq hw 46 rfl)) (mvT hZ (wq hw 45 rfl)) (by decide) (backOf (W := 0) (rm_get_2_0_RRN_0 l Z a0 hw [] b147 bb159 kk159 r143 r145 z0 T165.heap n0 O166 R165 ((z0 + (1 : Int64)) - (1 : Int64)) (own_ge2 he270 hg270 hf (by decide) (by decide)) (own_sub2 he270 hg270 (by decide))) hZ (wq hw 47 rfl) (wq hw 10 rfl) (by decide) (by decide)) q170a q170c (g := (mkF m 270 #[.val (.long z0), .second, .val (.int p1), .val (.int p2), .val (.int p3), .val (.int p4), .val (.long z0), .second, .val (.int (0 : Int32)), .val (.int (0 : Int32)), .val (.ref r141), .val (.ref r143), .val (.ref r145), .val (.ref b147), .val (.int (2 : Int32)), .val (.long (z0 + (0 : Int64))), .second, .val (.long (z0 + (1 : Int64))), .second, .val (.long ((z0 + (1 : Int64)) - (1 : Int64))), .second, .val (.ref r143), .val (.int (1 : Int32))] [(.long ((z0 + (1 : Int64)) - (1 : Int64))), (.ref b147)])) rfl (by rw [hml]; rfl) (Steps.refl _) (argsL := [(.long ((z0 + (1 : Int64)) - (1 : Int64)))]) (rest := []) (lenOf pd_7 rfl) rfl (by show 2 * 0 + _ ≤ _; exact Nat.le_of_eq rfl) (hb hby at_270) (fun _ _ => ⟨rfl, e169, (by decide : 5 + 0 ≤ _), (by decide : 23 + 0 ≤ _)⟩)
        dsimp only [Pt.U, Pt.locs, Pt.cells, Pt.slots] at X170 l170 y170 z170 st170 hQ170
        have X170 := own_to X170 l170 y170 z170
        obtain ⟨rfl, N170q, e170⟩ := hQ170
        have N170 := Fr.app N169 N170q
        have he296 : ((z0 + (1 : Int64)) + (1 : Int64)) = (z0 + (2 : Int64)) := (own_f2 _ _ _ _ (by decide))
        have hg296 : (z0 + (0 : Int64)) = z0 := (own_f0 _)
        obtain ⟨cq171, kq171, q171a, q171b, q171c⟩ := isOf hZ e170 (ER165)
        obtain ⟨_, _, ⟨T171, L171, k171, n171⟩, -, X171, ⟨Lc171, hQ171, l171, y171, z171⟩, st171⟩ := X170.virtualBack hx (y := my_7) (z := my_7) hown (mvT hZ (wq hw 59 rfl)) (mvT hZ (wq hw 44 rfl)) (notFace_of_selects (args := #[]) (mvT hZ (wq hw 46 rfl))) (mvT hZ (wq hw 46 rfl)) (mvT hZ (wq hw 45 rfl)) (by decide) (backOf (W := 0) (rm_get_2_0_RRN_hi l Z a0 hw [] b147 bb159 kk159 r143 r145 z0 T165.heap n0 O166 R165 ((z0 + (1 : Int64)) + (1 : Int64)) (own_ge2 he296 hg296 hf (by decide) (by decide)) (own_sub2 he296 hg296 (by decide))) hZ (wq hw 47 rfl) (wq hw 10 rfl) (by decide) (by decide)) q171a q171c (g := (mkF m 296 #[.val (.long z0), .second, .val (.int p1), .val (.int p2), .val (.int p3), .val (.int p4), .val (.long z0), .second, .val (.int (0 : Int32)), .val (.int (0 : Int32)), .val (.ref r141), .val (.ref r143), .val (.ref r145), .val (.ref b147), .val (.int (2 : Int32)), .val (.long (z0 + (0 : Int64))), .second, .val (.long (z0 + (1 : Int64))), .second, .val (.long ((z0 + (1 : Int64)) - (1 : Int64))), .second, .val (.ref r143), .val (.int (1 : Int32))] [(.long ((z0 + (1 : Int64)) + (1 : Int64))), (.ref b147)])) rfl (by rw [hml]; rfl) (Steps.refl _) (argsL := [(.long ((z0 + (1 : Int64)) + (1 : Int64)))]) (rest := []) (lenOf pd_7 rfl) rfl (by show 2 * 0 + _ ≤ _; exact Nat.le_of_eq rfl) (hb hby at_296) (fun _ _ => ⟨rfl, e170, (by decide : 5 + 0 ≤ _), (by decide : 23 + 0 ≤ _)⟩)
        dsimp only [Pt.U, Pt.locs, Pt.cells, Pt.slots] at X171 l171 y171 z171 st171 hQ171
        have X171 := own_to X171 l171 y171 z171
        obtain ⟨rfl, N171q, e171⟩ := hQ171
        have N171 := Fr.app N170 N171q
        obtain ⟨fs, hr, hrun, hended, hW, hsame⟩ := X171.leave (v := (some (.int (1 : Int32)))) (fun h => by rw [Bd.returns] at h; cases h)
        refine ⟨_, _, gp140 _ ?_, hrun, hended, _, _, rfl, ?_, ⟨_, rfl⟩, hW, hsame.mono (by decide) (by decide)⟩
        · refine XS.ifYes X0.here hx rfl (pc0 := 37) (pc' := 44) rfl (hb hby at_37) rfl ((if0 _ _).trans (teq hc37).1) (by decide) (by decide) ?_
          refine XS.iconst X0.here hx rfl (hb hby at_44) ?_
          refine XS.istore X0.here hx rfl (hb hby at_45) rfl (l' := #[.val (.long z0), .second, .val (.int p1), .val (.int p2), .val (.int p3), .val (.int p4), .val (.long z0), .second, .val (.int (0 : Int32)), .val (.int (0 : Int32)), .unset, .unset, .unset, .unset, .unset, .unset, .unset, .unset, .unset, .unset, .unset, .unset, .unset]) rfl ?_
          refine XS.iloadN X0.here hx rfl (hb hby at_47) rfl ?_
          refine st141 _ ?_
          refine XS.astore X141.here hx rfl (hb hby at_51) rfl rfl (l' := #[.val (.long z0), .second, .val (.int p1), .val (.int p2), .val (.int p3), .val (.int p4), .val (.long z0), .second, .val (.int (0 : Int32)), .val (.int (0 : Int32)), .val (.ref r141), .unset, .unset, .unset, .unset, .unset, .unset, .unset, .unset, .unset, .unset, .unset, .unset]) rfl ?_
          show Steps p.tables e below (T141.setTop (mkF m 53 #[.val (.long z0), .second, .val (.int p1), .val (.int p2), .val (.int p3), .val (.int p4), .val (.long z0), .second, .val (.int (0 : Int32)), .val (.int (0 : Int32)), .val (.ref r141), .unset, .unset, .unset, .unset, .unset, .unset, .unset, .unset, .unset, .unset, .unset, .unset] [])) _
          refine XS.iloadN X141.here hx rfl (hb hby at_53) rfl ?_
          refine st143 _ ?_
          refine XS.astore X143.here hx rfl (hb hby at_57) rfl rfl (l' := #[.val (.long z0), .second, .val (.int p1), .val (.int p2), .val (.int p3), .val (.int p4), .val (.long z0), .second, .val (.int (0 : Int32)), .val (.int (0 : Int32)), .val (.ref r141), .val (.ref r143), .unset, .unset, .unset, .unset, .unset, .unset, .unset, .unset, .unset, .unset, .unset]) rfl ?_
          refine XS.iload X143.here hx rfl (hb hby at_59) rfl ?_
          refine st145 _ ?_
          refine XS.astore X145.here hx rfl (hb hby at_64) rfl rfl (l' := #[.val (.long z0), .second, .val (.int p1), .val (.int p2), .val (.int p3), .val (.int p4), .val (.long z0), .second, .val (.int (0 : Int32)), .val (.int (0 : Int32)), .val (.ref r141), .val (.ref r143), .val (.ref r145), .unset, .unset, .unset, .unset, .unset, .unset, .unset, .unset, .unset, .unset]) rfl ?_
          show Steps p.tables e below (T145.setTop (mkF m 66 #[.val (.long z0), .second, .val (.int p1), .val (.int p2), .val (.int p3), .val (.int p4), .val (.long z0), .second, .val (.int (0 : Int32)), .val (.int (0 : Int32)), .val (.ref r141), .val (.ref r143), .val (.ref r145), .unset, .unset, .unset, .unset, .unset, .unset, .unset, .unset, .unset, .unset] [])) _
          refine st147 _ ?_
          refine XS.dup X147.here hx rfl (hb hby at_69) rfl rfl ?_
          refine XS.lload X147.here hx rfl (hb hby at_70) rfl ?_
          refine st159.trans ?_
          refine XS.astore X159.here hx rfl (hb hby at_75) rfl rfl (l' := #[.val (.long z0), .second, .val (.int p1), .val (.int p2), .val (.int p3), .val (.int p4), .val (.long z0), .second, .val (.int (0 : Int32)), .val (.int (0 : Int32)), .val (.ref r141), .val (.ref r143), .val (.ref r145), .val (.ref b147), .unset, .unset, .unset, .unset, .unset, .unset, .unset, .unset, .unset]) rfl ?_
          refine XS.iload X159.here hx rfl (hb hby at_77) rfl ?_
          show Steps p.tables e below (T159.setTop (mkF m 79 #[.val (.long z0), .second, .val (.int p1), .val (.int p2), .val (.int p3), .val (.int p4), .val (.long z0), .second, .val (.int (0 : Int32)), .val (.int (0 : Int32)), .val (.ref r141), .val (.ref r143), .val (.ref r145), .val (.ref b147), .unset, .unset, .unset, .unset, .unset, .unset, .unset, .unset, .unset] [(.int (0 : Int32))])) _
          refine XS.ifYes X159.here hx rfl (pc0 := 79) (pc' := 89) rfl (hb hby at_79) rfl ((if0 _ _).trans (teq (by decide : (0 : Int32) = (0 : Int32))).1) (by decide) (by decide) ?_
          refine XS.aload X159.here hx rfl (hb hby at_89) rfl rfl ?_
          refine XS.aload X159.here hx rfl (hb hby at_91) rfl rfl ?_
          refine st162.trans ?_
          refine XS.iload X162.here hx rfl (hb hby at_96) rfl ?_
          refine XS.ifYes X162.here hx rfl (pc0 := 98) (pc' := 107) rfl (hb hby at_98) rfl ((if0 _ _).trans (teq (by decide : (0 : Int32) = (0 : Int32))).1) (by decide) (by decide) ?_
          show Steps p.tables e below (T162.setTop (mkF m 107 #[.val (.long z0), .second, .val (.int p1), .val (.int p2), .val (.int p3), .val (.int p4), .val (.long z0), .second, .val (.int (0 : Int32)), .val (.int (0 : Int32)), .val (.ref r141), .val (.ref r143), .val (.ref r145), .val (.ref b147), .unset, .unset, .unset, .unset, .unset, .unset, .unset, .unset, .unset] [])) _
          refine XS.aload X162.here hx rfl (hb hby at_107) rfl rfl ?_
          refine XS.aload X162.here hx rfl (hb hby at_109) rfl rfl ?_
          refine st165.trans ?_
          refine XS.iload X165.here hx rfl (hb hby at_114) rfl ?_
          refine XS.ifYes X165.here hx rfl (pc0 := 116) (pc' := 123) rfl (hb hby at_116) rfl ((if0 _ _).trans (teq (by decide : (0 : Int32) = (0 : Int32))).1) (by decide) (by decide) ?_
          refine XS.iconst X165.here hx rfl (hb hby at_123) ?_
          show Steps p.tables e below (T165.setTop (mkF m 124 #[.val (.long z0), .second, .val (.int p1), .val (.int p2), .val (.int p3), .val (.int p4), .val (.long z0), .second, .val (.int (0 : Int32)), .val (.int (0 : Int32)), .val (.ref r141), .val (.ref r143), .val (.ref r145), .val (.ref b147), .unset, .unset, .unset, .unset, .unset, .unset, .unset, .unset, .unset] [(.int (0 : Int32))])) _
          refine XS.iconst X165.here hx rfl (hb hby at_124) ?_
          refine XS.iadd X165.here hx rfl (hb hby at_125) rfl ?_
          show Steps p.tables e below (T165.setTop (mkF m 126 #[.val (.long z0), .second, .val (.int p1), .val (.int p2), .val (.int p3), .val (.int p4), .val (.long z0), .second, .val (.int (0 : Int32)), .val (.int (0 : Int32)), .val (.ref r141), .val (.ref r143), .val (.ref r145), .val (.ref b147), .unset, .unset, .unset, .unset, .unset, .unset, .unset, .unset, .unset] [(.int (1 : Int32))])) _
          refine XS.iload X165.here hx rfl (hb hby at_126) rfl ?_
          refine XS.ifYes X165.here hx rfl (pc0 := 128) (pc' := 135) rfl (hb hby at_128) rfl ((if0 _ _).trans (teq (by decide : (0 : Int32) = (0 : Int32))).1) (by decide) (by decide) ?_
          refine XS.iconst X165.here hx rfl (hb hby at_135) ?_
          refine XS.isub X165.here hx rfl (hb hby at_136) rfl ?_
          show Steps p.tables e below (T165.setTop (mkF m 137 #[.val (.long z0), .second, .val (.int p1), .val (.int p2), .val (.int p3), .val (.int p4), .val (.long z0), .second, .val (.int (0 : Int32)), .val (.int (0 : Int32)), .val (.ref r141), .val (.ref r143), .val (.ref r145), .val (.ref b147), .unset, .unset, .unset, .unset, .unset, .unset, .unset, .unset, .unset] [(.int (1 : Int32))])) _
          refine XS.iconst X165.here hx rfl (hb hby at_137) ?_
          refine XS.iadd X165.here hx rfl (hb hby at_138) rfl ?_
          show Steps p.tables e below (T165.setTop (mkF m 139 #[.val (.long z0), .second, .val (.int p1), .val (.int p2), .val (.int p3), .val (.int p4), .val (.long z0), .second, .val (.int (0 : Int32)), .val (.int (0 : Int32)), .val (.ref r141), .val (.ref r143), .val (.ref r145), .val (.ref b147), .unset, .unset, .unset, .unset, .unset, .unset, .unset, .unset, .unset] [(.int (2 : Int32))])) _
          refine XS.istore X165.here hx rfl (hb hby at_139) rfl (l' := #[.val (.long z0), .second, .val (.int p1), .val (.int p2), .val (.int p3), .val (.int p4), .val (.long z0), .second, .val (.int (0 : Int32)), .val (.int (0 : Int32)), .val (.ref r141), .val (.ref r143), .val (.ref r145), .val (.ref b147), .val (.int (2 : Int32)), .unset, .unset, .unset, .unset, .unset, .unset, .unset, .unset]) rfl ?_
          refine XS.lload X165.here hx rfl (hb hby at_141) rfl ?_
          refine XS.iload X165.here hx rfl (hb hby at_143) rfl ?_
          refine XS.ifYes X165.here hx rfl (pc0 := 145) (pc' := 152) rfl (hb hby at_145) rfl ((if0 _ _).trans (teq (by decide : (0 : Int32) = (0 : Int32))).1) (by decide) (by decide) ?_
          show Steps p.tables e below (T165.setTop (mkF m 152 #[.val (.long z0), .second, .val (.int p1), .val (.int p2), .val (.int p3), .val (.int p4), .val (.long z0), .second, .val (.int (0 : Int32)), .val (.int (0 : Int32)), .val (.ref r141), .val (.ref r143), .val (.ref r145), .val (.ref b147), .val (.int (2 : Int32)), .unset, .unset, .unset, .unset, .unset, .unset, .unset, .unset] [(.long z0)])) _
          refine XS.lconst X165.here hx rfl (hb hby at_152) ?_
          refine XS.ladd X165.here hx rfl (hb hby at_153) rfl ?_
          refine XS.lstore X165.here hx rfl (hb hby at_154) rfl (l' := #[.val (.long z0), .second, .val (.int p1), .val (.int p2), .val (.int p3), .val (.int p4), .val (.long z0), .second, .val (.int (0 : Int32)), .val (.int (0 : Int32)), .val (.ref r141), .val (.ref r143), .val (.ref r145), .val (.ref b147), .val (.int (2 : Int32)), .val (.long (z0 + (0 : Int64))), .second, .unset, .unset, .unset, .unset, .unset, .unset]) rfl ?_
          refine XS.lload X165.here hx rfl (hb hby at_156) rfl ?_
          refine XS.iload X165.here hx rfl (hb hby at_158) rfl ?_
          refine XS.ifYes X165.here hx rfl (pc0 := 160) (pc' := 169) rfl (hb hby at_160) rfl ((if0 _ _).trans (teq (by decide : (0 : Int32) = (0 : Int32))).1) (by decide) (by decide) ?_
          show Steps p.tables e below (T165.setTop (mkF m 169 #[.val (.long z0), .second, .val (.int p1), .val (.int p2), .val (.int p3), .val (.int p4), .val (.long z0), .second, .val (.int (0 : Int32)), .val (.int (0 : Int32)), .val (.ref r141), .val (.ref r143), .val (.ref r145), .val (.ref b147), .val (.int (2 : Int32)), .val (.long (z0 + (0 : Int64))), .second, .unset, .unset, .unset, .unset, .unset, .unset] [(.long z0)])) _
          refine XS.lconst X165.here hx rfl (hb hby at_169) ?_
          refine XS.ladd X165.here hx rfl (hb hby at_170) rfl ?_
          refine XS.lstore X165.here hx rfl (hb hby at_171) rfl (l' := #[.val (.long z0), .second, .val (.int p1), .val (.int p2), .val (.int p3), .val (.int p4), .val (.long z0), .second, .val (.int (0 : Int32)), .val (.int (0 : Int32)), .val (.ref r141), .val (.ref r143), .val (.ref r145), .val (.ref b147), .val (.int (2 : Int32)), .val (.long (z0 + (0 : Int64))), .second, .val (.long (z0 + (1 : Int64))), .second, .unset, .unset, .unset, .unset]) rfl ?_
          refine XS.lload X165.here hx rfl (hb hby at_173) rfl ?_
          refine XS.lconst X165.here hx rfl (hb hby at_175) ?_
          refine XS.lsub X165.here hx rfl (hb hby at_176) rfl ?_
          show Steps p.tables e below (T165.setTop (mkF m 177 #[.val (.long z0), .second, .val (.int p1), .val (.int p2), .val (.int p3), .val (.int p4), .val (.long z0), .second, .val (.int (0 : Int32)), .val (.int (0 : Int32)), .val (.ref r141), .val (.ref r143), .val (.ref r145), .val (.ref b147), .val (.int (2 : Int32)), .val (.long (z0 + (0 : Int64))), .second, .val (.long (z0 + (1 : Int64))), .second, .unset, .unset, .unset, .unset] [(.long ((z0 + (1 : Int64)) - (1 : Int64)))])) _
          refine XS.lstore X165.here hx rfl (hb hby at_177) rfl (l' := #[.val (.long z0), .second, .val (.int p1), .val (.int p2), .val (.int p3), .val (.int p4), .val (.long z0), .second, .val (.int (0 : Int32)), .val (.int (0 : Int32)), .val (.ref r141), .val (.ref r143), .val (.ref r145), .val (.ref b147), .val (.int (2 : Int32)), .val (.long (z0 + (0 : Int64))), .second, .val (.long (z0 + (1 : Int64))), .second, .val (.long ((z0 + (1 : Int64)) - (1 : Int64))), .second, .unset, .unset]) rfl ?_
          refine XS.iload X165.here hx rfl (hb hby at_179) rfl ?_
          refine XS.ifYes X165.here hx rfl (pc0 := 181) (pc' := 193) rfl (hb hby at_181) rfl ((if0 _ _).trans (teq (by decide : (0 : Int32) = (0 : Int32))).1) (by decide) (by decide) ?_
          refine XS.aload X165.here hx rfl (hb hby at_193) rfl rfl ?_
          refine XS.astore X165.here hx rfl (hb hby at_195) rfl rfl (l' := #[.val (.long z0), .second, .val (.int p1), .val (.int p2), .val (.int p3), .val (.int p4), .val (.long z0), .second, .val (.int (0 : Int32)), .val (.int (0 : Int32)), .val (.ref r141), .val (.ref r143), .val (.ref r145), .val (.ref b147), .val (.int (2 : Int32)), .val (.long (z0 + (0 : Int64))), .second, .val (.long (z0 + (1 : Int64))), .second, .val (.long ((z0 + (1 : Int64)) - (1 : Int64))), .second, .val (.ref r143), .unset]) rfl ?_
          refine XS.aload X165.here hx rfl (hb hby at_197) rfl rfl ?_
          show Steps p.tables e below (T165.setTop (mkF m 199 #[.val (.long z0), .second, .val (.int p1), .val (.int p2), .val (.int p3), .val (.int p4), .val (.long z0), .second, .val (.int (0 : Int32)), .val (.int (0 : Int32)), .val (.ref r141), .val (.ref r143), .val (.ref r145), .val (.ref b147), .val (.int (2 : Int32)), .val (.long (z0 + (0 : Int64))), .second, .val (.long (z0 + (1 : Int64))), .second, .val (.long ((z0 + (1 : Int64)) - (1 : Int64))), .second, .val (.ref r143), .unset] [(.ref b147)])) _
          refine st167.trans ?_
          refine XS.iload X167.here hx rfl (hb hby at_202) rfl ?_
          refine XS.icmpNo X167.here hx rfl (hb hby at_204) rfl (teq (by decide : (2 : Int32) = (2 : Int32))).2 ?_
          refine XS.iconst X167.here hx rfl (hb hby at_207) ?_
          refine XS.goto X167.here hx rfl (pc0 := 208) (pc' := 212) rfl (hb hby at_208) (by decide) (by decide) ?_
          refine XS.istore X167.here hx rfl (hb hby at_212) rfl (l' := #[.val (.long z0), .second, .val (.int p1), .val (.int p2), .val (.int p3), .val (.int p4), .val (.long z0), .second, .val (.int (0 : Int32)), .val (.int (0 : Int32)), .val (.ref r141), .val (.ref r143), .val (.ref r145), .val (.ref b147), .val (.int (2 : Int32)), .val (.long (z0 + (0 : Int64))), .second, .val (.long (z0 + (1 : Int64))), .second, .val (.long ((z0 + (1 : Int64)) - (1 : Int64))), .second, .val (.ref r143), .val (.int (1 : Int32))]) rfl ?_
          show Steps p.tables e below (T167.setTop (mkF m 214 #[.val (.long z0), .second, .val (.int p1), .val (.int p2), .val (.int p3), .val (.int p4), .val (.long z0), .second, .val (.int (0 : Int32)), .val (.int (0 : Int32)), .val (.ref r141), .val (.ref r143), .val (.ref r145), .val (.ref b147), .val (.int (2 : Int32)), .val (.long (z0 + (0 : Int64))), .second, .val (.long (z0 + (1 : Int64))), .second, .val (.long ((z0 + (1 : Int64)) - (1 : Int64))), .second, .val (.ref r143), .val (.int (1 : Int32))] [])) _
          refine XS.iload X167.here hx rfl (hb hby at_214) rfl ?_
          refine XS.ifNo X167.here hx rfl (hb hby at_216) rfl ((if0 _ _).trans (feq (by decide : ¬ ((1 : Int32) = (0 : Int32)))).1) ?_
          refine XS.aload X167.here hx rfl (hb hby at_219) rfl rfl ?_
          refine st168.trans ?_
          refine XS.lload X168.here hx rfl (hb hby at_224) rfl ?_
          refine XS.lcmp X168.here hx rfl (hb hby at_226) rfl ?_
          show Steps p.tables e below (T168.setTop (mkF m 227 #[.val (.long z0), .second, .val (.int p1), .val (.int p2), .val (.int p3), .val (.int p4), .val (.long z0), .second, .val (.int (0 : Int32)), .val (.int (0 : Int32)), .val (.ref r141), .val (.ref r143), .val (.ref r145), .val (.ref b147), .val (.int (2 : Int32)), .val (.long (z0 + (0 : Int64))), .second, .val (.long (z0 + (1 : Int64))), .second, .val (.long ((z0 + (1 : Int64)) - (1 : Int64))), .second, .val (.ref r143), .val (.int (1 : Int32))] [(.int (lcmpW z0 (z0 + (0 : Int64))))])) _
          refine XS.ifNo X168.here hx rfl (hb hby at_227) rfl ((if0 _ _).trans (teq ((lw_eq _ _).mpr (own_f0 _).symm)).2) ?_
          refine XS.iconst X168.here hx rfl (hb hby at_230) ?_
          refine XS.goto X168.here hx rfl (pc0 := 231) (pc' := 235) rfl (hb hby at_231) (by decide) (by decide) ?_
          refine XS.istore X168.here hx rfl (hb hby at_235) rfl (l' := #[.val (.long z0), .second, .val (.int p1), .val (.int p2), .val (.int p3), .val (.int p4), .val (.long z0), .second, .val (.int (0 : Int32)), .val (.int (0 : Int32)), .val (.ref r141), .val (.ref r143), .val (.ref r145), .val (.ref b147), .val (.int (2 : Int32)), .val (.long (z0 + (0 : Int64))), .second, .val (.long (z0 + (1 : Int64))), .second, .val (.long ((z0 + (1 : Int64)) - (1 : Int64))), .second, .val (.ref r143), .val (.int (1 : Int32))]) rfl ?_
          refine XS.iload X168.here hx rfl (hb hby at_237) rfl ?_
          refine XS.ifNo X168.here hx rfl (hb hby at_239) rfl ((if0 _ _).trans (feq (by decide : ¬ ((1 : Int32) = (0 : Int32)))).1) ?_
          show Steps p.tables e below (T168.setTop (mkF m 242 #[.val (.long z0), .second, .val (.int p1), .val (.int p2), .val (.int p3), .val (.int p4), .val (.long z0), .second, .val (.int (0 : Int32)), .val (.int (0 : Int32)), .val (.ref r141), .val (.ref r143), .val (.ref r145), .val (.ref b147), .val (.int (2 : Int32)), .val (.long (z0 + (0 : Int64))), .second, .val (.long (z0 + (1 : Int64))), .second, .val (.long ((z0 + (1 : Int64)) - (1 : Int64))), .second, .val (.ref r143), .val (.int (1 : Int32))] [])) _
          refine XS.aload X168.here hx rfl (hb hby at_242) rfl rfl ?_
          refine XS.lload X168.here hx rfl (hb hby at_244) rfl ?_
          refine st169.trans ?_
          refine XS.aload X169.here hx rfl (hb hby at_249) rfl rfl ?_
          refine Jvm.RoadKit.acmp (g := (mkF m 251 #[.val (.long z0), .second, .val (.int p1), .val (.int p2), .val (.int p3), .val (.int p4), .val (.long z0), .second, .val (.int (0 : Int32)), .val (.int (0 : Int32)), .val (.ref r141), .val (.ref r143), .val (.ref r145), .val (.ref b147), .val (.int (2 : Int32)), .val (.long (z0 + (0 : Int64))), .second, .val (.long (z0 + (1 : Int64))), .second, .val (.long ((z0 + (1 : Int64)) - (1 : Int64))), .second, .val (.ref r143), .val (.int (1 : Int32))] [(.ref r145), (.ref r145)])) X169 hx rfl rfl rfl (pc0 := 251) (pc' := 254) (same := true) rfl (hb hby at_251) rfl (decide_eq_true rfl) (by decide) (by decide) ?_
          refine XS.iconst X169.here hx rfl (hb hby at_254) ?_
          show Steps p.tables e below (T169.setTop (mkF m 255 #[.val (.long z0), .second, .val (.int p1), .val (.int p2), .val (.int p3), .val (.int p4), .val (.long z0), .second, .val (.int (0 : Int32)), .val (.int (0 : Int32)), .val (.ref r141), .val (.ref r143), .val (.ref r145), .val (.ref b147), .val (.int (2 : Int32)), .val (.long (z0 + (0 : Int64))), .second, .val (.long (z0 + (1 : Int64))), .second, .val (.long ((z0 + (1 : Int64)) - (1 : Int64))), .second, .val (.ref r143), .val (.int (1 : Int32))] [(.int (1 : Int32))])) _
          refine XS.goto X169.here hx rfl (pc0 := 255) (pc' := 259) rfl (hb hby at_255) (by decide) (by decide) ?_
          refine XS.istore X169.here hx rfl (hb hby at_259) rfl (l' := #[.val (.long z0), .second, .val (.int p1), .val (.int p2), .val (.int p3), .val (.int p4), .val (.long z0), .second, .val (.int (0 : Int32)), .val (.int (0 : Int32)), .val (.ref r141), .val (.ref r143), .val (.ref r145), .val (.ref b147), .val (.int (2 : Int32)), .val (.long (z0 + (0 : Int64))), .second, .val (.long (z0 + (1 : Int64))), .second, .val (.long ((z0 + (1 : Int64)) - (1 : Int64))), .second, .val (.ref r143), .val (.int (1 : Int32))]) rfl ?_
          refine XS.iload X169.here hx rfl (hb hby at_261) rfl ?_
          refine XS.ifNo X169.here hx rfl (hb hby at_263) rfl ((if0 _ _).trans (feq (by decide : ¬ ((1 : Int32) = (0 : Int32)))).1) ?_
          refine XS.aload X169.here hx rfl (hb hby at_266) rfl rfl ?_
          refine XS.lload X169.here hx rfl (hb hby at_268) rfl ?_
          show Steps p.tables e below (T169.setTop (mkF m 270 #[.val (.long z0), .second, .val (.int p1), .val (.int p2), .val (.int p3), .val (.int p4), .val (.long z0), .second, .val (.int (0 : Int32)), .val (.int (0 : Int32)), .val (.ref r141), .val (.ref r143), .val (.ref r145), .val (.ref b147), .val (.int (2 : Int32)), .val (.long (z0 + (0 : Int64))), .second, .val (.long (z0 + (1 : Int64))), .second, .val (.long ((z0 + (1 : Int64)) - (1 : Int64))), .second, .val (.ref r143), .val (.int (1 : Int32))] [(.long ((z0 + (1 : Int64)) - (1 : Int64))), (.ref b147)])) _
          refine st170.trans ?_
          refine XS.aload X170.here hx rfl (hb hby at_273) rfl rfl ?_
          refine Jvm.RoadKit.acmp (g := (mkF m 275 #[.val (.long z0), .second, .val (.int p1), .val (.int p2), .val (.int p3), .val (.int p4), .val (.long z0), .second, .val (.int (0 : Int32)), .val (.int (0 : Int32)), .val (.ref r141), .val (.ref r143), .val (.ref r145), .val (.ref b147), .val (.int (2 : Int32)), .val (.long (z0 + (0 : Int64))), .second, .val (.long (z0 + (1 : Int64))), .second, .val (.long ((z0 + (1 : Int64)) - (1 : Int64))), .second, .val (.ref r143), .val (.int (1 : Int32))] [(.ref r143), (.ref r143)])) X170 hx rfl rfl rfl (pc0 := 275) (pc' := 278) (same := true) rfl (hb hby at_275) rfl (decide_eq_true rfl) (by decide) (by decide) ?_
          refine XS.iconst X170.here hx rfl (hb hby at_278) ?_
          refine XS.goto X170.here hx rfl (pc0 := 279) (pc' := 283) rfl (hb hby at_279) (by decide) (by decide) ?_
          refine XS.istore X170.here hx rfl (hb hby at_283) rfl (l' := #[.val (.long z0), .second, .val (.int p1), .val (.int p2), .val (.int p3), .val (.int p4), .val (.long z0), .second, .val (.int (0 : Int32)), .val (.int (0 : Int32)), .val (.ref r141), .val (.ref r143), .val (.ref r145), .val (.ref b147), .val (.int (2 : Int32)), .val (.long (z0 + (0 : Int64))), .second, .val (.long (z0 + (1 : Int64))), .second, .val (.long ((z0 + (1 : Int64)) - (1 : Int64))), .second, .val (.ref r143), .val (.int (1 : Int32))]) rfl ?_
          show Steps p.tables e below (T170.setTop (mkF m 285 #[.val (.long z0), .second, .val (.int p1), .val (.int p2), .val (.int p3), .val (.int p4), .val (.long z0), .second, .val (.int (0 : Int32)), .val (.int (0 : Int32)), .val (.ref r141), .val (.ref r143), .val (.ref r145), .val (.ref b147), .val (.int (2 : Int32)), .val (.long (z0 + (0 : Int64))), .second, .val (.long (z0 + (1 : Int64))), .second, .val (.long ((z0 + (1 : Int64)) - (1 : Int64))), .second, .val (.ref r143), .val (.int (1 : Int32))] [])) _
          refine XS.iload X170.here hx rfl (hb hby at_285) rfl ?_
          refine XS.ifNo X170.here hx rfl (hb hby at_287) rfl ((if0 _ _).trans (feq (by decide : ¬ ((1 : Int32) = (0 : Int32)))).1) ?_
          refine XS.aload X170.here hx rfl (hb hby at_290) rfl rfl ?_
          refine XS.lload X170.here hx rfl (hb hby at_292) rfl ?_
          refine XS.lconst X170.here hx rfl (hb hby at_294) ?_
          refine XS.ladd X170.here hx rfl (hb hby at_295) rfl ?_
          show Steps p.tables e below (T170.setTop (mkF m 296 #[.val (.long z0), .second, .val (.int p1), .val (.int p2), .val (.int p3), .val (.int p4), .val (.long z0), .second, .val (.int (0 : Int32)), .val (.int (0 : Int32)), .val (.ref r141), .val (.ref r143), .val (.ref r145), .val (.ref b147), .val (.int (2 : Int32)), .val (.long (z0 + (0 : Int64))), .second, .val (.long (z0 + (1 : Int64))), .second, .val (.long ((z0 + (1 : Int64)) - (1 : Int64))), .second, .val (.ref r143), .val (.int (1 : Int32))] [(.long ((z0 + (1 : Int64)) + (1 : Int64))), (.ref b147)])) _
          refine st171.trans ?_
          refine XS.ifnonnullNo X171.here hx rfl (hb hby at_299) rfl ?_
          refine XS.iconst X171.here hx rfl (hb hby at_302) ?_
          refine XS.goto X171.here hx rfl (pc0 := 303) (pc' := 307) rfl (hb hby at_303) (by decide) (by decide) ?_
          refine XS.istore X171.here hx rfl (hb hby at_307) rfl (l' := #[.val (.long z0), .second, .val (.int p1), .val (.int p2), .val (.int p3), .val (.int p4), .val (.long z0), .second, .val (.int (0 : Int32)), .val (.int (0 : Int32)), .val (.ref r141), .val (.ref r143), .val (.ref r145), .val (.ref b147), .val (.int (2 : Int32)), .val (.long (z0 + (0 : Int64))), .second, .val (.long (z0 + (1 : Int64))), .second, .val (.long ((z0 + (1 : Int64)) - (1 : Int64))), .second, .val (.ref r143), .val (.int (1 : Int32))]) rfl ?_
          refine XS.iload X171.here hx rfl (hb hby at_309) rfl ?_
          show Steps p.tables e below (T171.setTop (mkF m 311 #[.val (.long z0), .second, .val (.int p1), .val (.int p2), .val (.int p3), .val (.int p4), .val (.long z0), .second, .val (.int (0 : Int32)), .val (.int (0 : Int32)), .val (.ref r141), .val (.ref r143), .val (.ref r145), .val (.ref b147), .val (.int (2 : Int32)), .val (.long (z0 + (0 : Int64))), .second, .val (.long (z0 + (1 : Int64))), .second, .val (.long ((z0 + (1 : Int64)) - (1 : Int64))), .second, .val (.ref r143), .val (.int (1 : Int32))] [(.int (1 : Int32))])) _
          exact retN X171 hx (t := .boolean) Bd.returns (by simp) (hb hby at_311) hr
        · show Q0 n0 _ T171.heap _
          rw [e171]
          exact ⟨rfl, N171⟩
      · obtain ⟨_, _, ⟨T172, L172, k172, n172⟩, -, X172, ⟨Lc172, hQ172, l172, y172, z172⟩, st172⟩ := Jvm.LawKit.callS X0 hx (y := my_2) hown (mvT hZ (wq hw 1 rfl)) (mvT hZ (wq hw 2 rfl)) (mvT hZ (wq hw 3 rfl)) (mvT hZ (wq hw 4 rfl)) (by decide) (backOf (W := 0) (rm_val l Z a0 hw [] ca cc hL p1 h0 n0 O0) hZ (wq hw 4 rfl) (wq hw 3 rfl) (by decide) (by decide)) (g := (mkF m 48 #[.val (.long z0), .second, .val (.int p1), .val (.int p2), .val (.int p3), .val (.int p4), .val (.long z0), .second, .val (.int (0 : Int32)), .val (.int (1 : Int32)), .unset, .unset, .unset, .unset, .unset, .unset, .unset, .unset, .unset, .unset, .unset, .unset, .unset] [(.int p1)])) rfl (by rw [hml]; rfl) (argsL := [(.int p1)]) (rest := []) (lenOf pd_2 rfl) rfl (by show 2 * 0 + _ ≤ _; exact Nat.le_of_eq rfl) (hb hby at_48) (fun _ _ => ⟨rfl, e0, (by decide : 0 + 1 ≤ _), (by decide : 0 + 1 ≤ _)⟩)
        dsimp only [Pt.U, Pt.locs, Pt.cells, Pt.slots] at X172 l172 y172 z172 st172 hQ172
        have X172 := own_to X172 l172 y172 z172
        obtain ⟨r172, rfl, N172q, K172, E172q⟩ := hQ172
        have N172 := Fr.app N0 N172q
        have O173 : Old Z n0 T172.heap := Old.keep O0 K172 all0
        obtain ⟨_, _, ⟨T174, L174, k174, n174⟩, -, X174, ⟨Lc174, hQ174, l174, y174, z174⟩, st174⟩ := Jvm.LawKit.callS X172 hx (y := my_2) hown (mvT hZ (wq hw 1 rfl)) (mvT hZ (wq hw 2 rfl)) (mvT hZ (wq hw 3 rfl)) (mvT hZ (wq hw 4 rfl)) (by decide) (backOf (W := 0) (rm_val l Z a0 hw [] ca cc hL p2 T172.heap n0 O173) hZ (wq hw 4 rfl) (wq hw 3 rfl) (by decide) (by decide)) (g := (mkF m 54 #[.val (.long z0), .second, .val (.int p1), .val (.int p2), .val (.int p3), .val (.int p4), .val (.long z0), .second, .val (.int (0 : Int32)), .val (.int (1 : Int32)), .val (.ref r172), .unset, .unset, .unset, .unset, .unset, .unset, .unset, .unset, .unset, .unset, .unset, .unset] [(.int p2)])) rfl (by rw [hml]; rfl) (argsL := [(.int p2)]) (rest := []) (lenOf pd_2 rfl) rfl (by show 2 * 0 + _ ≤ _; exact Nat.le_of_eq rfl) (hb hby at_54) (fun _ _ => ⟨rfl, rfl, (by decide : 1 + 1 ≤ _), (by decide : 1 + 1 ≤ _)⟩)
        dsimp only [Pt.U, Pt.locs, Pt.cells, Pt.slots] at X174 l174 y174 z174 st174 hQ174
        have X174 := own_to X174 l174 y174 z174
        obtain ⟨r174, rfl, N174q, K174, E174q⟩ := hQ174
        have N174 := Fr.app N172 N174q
        have O175 : Old Z n0 T174.heap := Old.keep O173 K174 all0
        obtain ⟨_, _, ⟨T176, L176, k176, n176⟩, -, X176, ⟨Lc176, hQ176, l176, y176, z176⟩, st176⟩ := Jvm.LawKit.callS X174 hx (y := my_2) hown (mvT hZ (wq hw 1 rfl)) (mvT hZ (wq hw 2 rfl)) (mvT hZ (wq hw 3 rfl)) (mvT hZ (wq hw 4 rfl)) (by decide) (backOf (W := 0) (rm_val l Z a0 hw [] ca cc hL p3 T174.heap n0 O175) hZ (wq hw 4 rfl) (wq hw 3 rfl) (by decide) (by decide)) (g := (mkF m 61 #[.val (.long z0), .second, .val (.int p1), .val (.int p2), .val (.int p3), .val (.int p4), .val (.long z0), .second, .val (.int (0 : Int32)), .val (.int (1 : Int32)), .val (.ref r172), .val (.ref r174), .unset, .unset, .unset, .unset, .unset, .unset, .unset, .unset, .unset, .unset, .unset] [(.int p3)])) rfl (by rw [hml]; rfl) (argsL := [(.int p3)]) (rest := []) (lenOf pd_2 rfl) rfl (by show 2 * 0 + _ ≤ _; exact Nat.le_of_eq rfl) (hb hby at_61) (fun _ _ => ⟨rfl, rfl, (by decide : 2 + 1 ≤ _), (by decide : 2 + 1 ≤ _)⟩)
        dsimp only [Pt.U, Pt.locs, Pt.cells, Pt.slots] at X176 l176 y176 z176 st176 hQ176
        have X176 := own_to X176 l176 y176 z176
        obtain ⟨r176, rfl, N176q, K176, E176q⟩ := hQ176
        have N176 := Fr.app N174 N176q
        have O177 : Old Z n0 T176.heap := Old.keep O175 K176 all0
        obtain ⟨T178, h178, X178, e178, E178, A178, D178, -, st178⟩ := newO X176 hx hZ hown (wq hw 8 rfl) (wq hw 9 rfl) (wq hw 10 rfl) rfl (g := (mkF m 66 #[.val (.long z0), .second, .val (.int p1), .val (.int p2), .val (.int p3), .val (.int p4), .val (.long z0), .second, .val (.int (0 : Int32)), .val (.int (1 : Int32)), .val (.ref r172), .val (.ref r174), .val (.ref r176), .unset, .unset, .unset, .unset, .unset, .unset, .unset, .unset, .unset, .unset] [])) rfl (hb hby at_66) (by decide) (by decide)
        obtain ⟨b178, gb178⟩ : ∃ z, z = T176.heap.size := ⟨_, rfl⟩
        rw [← gb178] at A178 D178 st178
        have t179 : Exa Z T176.heap r172 nIntege_0 := ((E172q.keep K174).keep K176)
        have ne180 : r172 ≠ b178 := Nat.ne_of_lt (Nat.lt_of_lt_of_le t179.lt (Nat.le_of_eq gb178.symm))
        have t181 : Exa Z T176.heap r174 nIntege_0 := (E174q.keep K176)
        have ne182 : r174 ≠ b178 := Nat.ne_of_lt (Nat.lt_of_lt_of_le t181.lt (Nat.le_of_eq gb178.symm))
        have ne183 : r176 ≠ b178 := Nat.ne_of_lt (Nat.lt_of_lt_of_le E176q.lt (Nat.le_of_eq gb178.symm))
        have g184 : n0 ≤ b178 := Nat.le_trans (Nat.le_of_eq O177.1.symm) (Nat.le_trans O177.2.1 (Nat.le_of_eq gb178.symm))
        have O185 : Old Z n0 h178 := Old.ext O177 E178
        have f186 : Fld Z h178 b178 nConsec_1 "values" "[Ljava/lang/Object;" .null := D178 (Or.inl (wq hw 20 rfl)) (ty := (.array (.object nObject_2))) (by decide)
        have f187 : Fld Z h178 b178 nConsec_1 "first" "J" (.long (0 : Int64)) := D178 (Or.inl (wq hw 22 rfl)) (ty := .long) (by decide)
        have f188 : Fld Z h178 b178 nConsec_1 "size" "I" (.int (0 : Int32)) := D178 (Or.inl (wq hw 29 rfl)) (ty := .int) (by decide)
        have f189 : Fld Z h178 b178 nConsec_1 "head" "I" (.int (0 : Int32)) := D178 (Or.inl (wq hw 31 rfl)) (ty := .int) (by decide)
        obtain ⟨_, _, ⟨T190, L190, k190, n190⟩, -, X190, ⟨Lc190, hQ190, l190, y190, z190⟩, st190⟩ := X178.specialBack hx (y := my_3) rfl hown (mvT hZ (wq hw 11 rfl)) (mvT hZ (wq hw 12 rfl)) (mvT hZ (wq hw 13 rfl)) (by decide) (backOf (W := 1) (rm_rin l Z a0 hw [] b178 z0 h178 n0 O185 g184 A178 f186 f188 f189 f187) hZ (wq hw 13 rfl) (wq hw 10 rfl) (by decide) (by decide)) (g := (mkF m 72 #[.val (.long z0), .second, .val (.int p1), .val (.int p2), .val (.int p3), .val (.int p4), .val (.long z0), .second, .val (.int (0 : Int32)), .val (.int (1 : Int32)), .val (.ref r172), .val (.ref r174), .val (.ref r176), .unset, .unset, .unset, .unset, .unset, .unset, .unset, .unset, .unset, .unset] [(.long z0), (.ref b178), (.ref b178)])) rfl (by rw [hml]; rfl) (Steps.refl _) (a := b178) (argsL := [(.long z0)]) (rest := [(.ref b178)]) (lenOf pd_3 rfl) rfl (by show 2 * 0 + _ ≤ _; exact Nat.le_of_eq rfl) (hb hby at_72) (fun _ _ => ⟨rfl, e178, (by decide : 4 + 1 ≤ _), (by decide : 7 + 16 ≤ _)⟩)
        dsimp only [Pt.U, Pt.locs, Pt.cells, Pt.slots] at X190 l190 y190 z190 st190 hQ190
        have X190 := own_to X190 l190 y190 z190
        obtain ⟨bb190, kk190, rfl, N190q, K190, R190⟩ := hQ190
        have N190 := Fr.app N176 N190q
        have O191 : Old Z n0 T190.heap := Old.keep O185 K190 (allS g184 all0)
        obtain ⟨ER190, FV190, FS190, FH190, FF190, VV190, OV190, ga190, gbb190⟩ := (id R190)
        have t192 : Exa Z T190.heap r174 nIntege_0 := ((t181.ext E178).keep K190)
        obtain ⟨cq193, kq193, q193a, q193b, q193c⟩ := isOf hZ rfl (ER190)
        obtain ⟨_, _, ⟨T193, L193, k193, n193⟩, -, X193, ⟨Lc193, hQ193, l193, y193, z193⟩, st193⟩ := X190.virtualBack hx (y := my_6) (z := my_6) hown (mvT hZ (wq hw 23 rfl)) (mvT hZ (wq hw 24 rfl)) (notFace_of_selects (args := #[]) (mvT hZ (wq hw 26 rfl))) (mvT hZ (wq hw 26 rfl)) (mvT hZ (wq hw 25 rfl)) (by decide) (backOf (W := 0) (rm_add_0_0_NNN l Z a0 hw [] b178 bb190 kk190  z0 T190.heap n0 O191 R190 r174 t192) hZ (wq hw 27 rfl) (wq hw 10 rfl) (by decide) (by decide)) q193a q193c (g := (mkF m 93 #[.val (.long z0), .second, .val (.int p1), .val (.int p2), .val (.int p3), .val (.int p4), .val (.long z0), .second, .val (.int (0 : Int32)), .val (.int (1 : Int32)), .val (.ref r172), .val (.ref r174), .val (.ref r176), .val (.ref b178), .unset, .unset, .unset, .unset, .unset, .unset, .unset, .unset, .unset] [(.ref r174), (.ref b178)])) rfl (by rw [hml]; rfl) (Steps.refl _) (argsL := [(.ref r174)]) (rest := []) (lenOf pd_4 rfl) rfl (by show 2 * 0 + _ ≤ _; exact Nat.le_of_eq rfl) (hb hby at_93) (fun _ _ => ⟨rfl, rfl, (by decide : 5 + 0 ≤ _), (by decide : 23 + 0 ≤ _)⟩)
        dsimp only [Pt.U, Pt.locs, Pt.cells, Pt.slots] at X193 l193 y193 z193 st193 hQ193
        have X193 := own_to X193 l193 y193 z193
        obtain ⟨rfl, N193q, K193, R193⟩ := hQ193
        have N193 := Fr.app N190 N193q
        have O194 : Old Z n0 T193.heap := Old.keep O191 K193 (allS g184 (allS gbb190 all0))
        have ER193 := R193.1
        obtain ⟨cq195, kq195, q195a, q195b, q195c⟩ := isOf hZ rfl (ER193)
        obtain ⟨_, _, ⟨T195, L195, k195, n195⟩, -, X195, ⟨Lc195, hQ195, l195, y195, z195⟩, st195⟩ := X193.virtualBack hx (y := my_9) (z := my_9) hown (mvT hZ (wq hw 33 rfl)) (mvT hZ (wq hw 34 rfl)) (notFace_of_selects (args := #[]) (mvT hZ (wq hw 36 rfl))) (mvT hZ (wq hw 36 rfl)) (mvT hZ (wq hw 35 rfl)) (by decide) (backOf (W := 0) (rm_rem_1_0_RNN l Z a0 hw [] b178 bb190 kk190 r174 z0 T193.heap n0 O194 R193) hZ (wq hw 37 rfl) (wq hw 10 rfl) (by decide) (by decide)) q195a q195c (g := (mkF m 103 #[.val (.long z0), .second, .val (.int p1), .val (.int p2), .val (.int p3), .val (.int p4), .val (.long z0), .second, .val (.int (0 : Int32)), .val (.int (1 : Int32)), .val (.ref r172), .val (.ref r174), .val (.ref r176), .val (.ref b178), .unset, .unset, .unset, .unset, .unset, .unset, .unset, .unset, .unset] [(.ref b178)])) rfl (by rw [hml]; rfl) (Steps.refl _) (argsL := []) (rest := []) (lenOf pd_8 rfl) rfl (by show 2 * 0 + _ ≤ _; exact Nat.le_of_eq rfl) (hb hby at_103) (fun _ _ => ⟨rfl, rfl, (by decide : 5 + 0 ≤ _), (by decide : 23 + 0 ≤ _)⟩)
        dsimp only [Pt.U, Pt.locs, Pt.cells, Pt.slots] at X195 l195 y195 z195 st195 hQ195
        have X195 := own_to X195 l195 y195 z195
        obtain ⟨rfl, N195q, K195, R195⟩ := hQ195
        have N195 := Fr.app N193 N195q
        have O196 : Old Z n0 T195.heap := Old.keep O194 K195 (allS g184 (allS gbb190 all0))
        have ER195 := R195.1
        have t197 : Exa Z T195.heap r176 nIntege_0 := ((((E176q.ext E178).keep K190).keep K193).keep K195)
        obtain ⟨cq198, kq198, q198a, q198b, q198c⟩ := isOf hZ rfl (ER195)
        obtain ⟨_, _, ⟨T198, L198, k198, n198⟩, -, X198, ⟨Lc198, hQ198, l198, y198, z198⟩, st198⟩ := X195.virtualBack hx (y := my_6) (z := my_6) hown (mvT hZ (wq hw 23 rfl)) (mvT hZ (wq hw 24 rfl)) (notFace_of_selects (args := #[]) (mvT hZ (wq hw 26 rfl))) (mvT hZ (wq hw 26 rfl)) (mvT hZ (wq hw 25 rfl)) (by decide) (backOf (W := 0) (rm_add_0_1_NNN l Z a0 hw [] b178 bb190 kk190  (z0 + (1 : Int64)) T195.heap n0 O196 R195 r176 t197) hZ (wq hw 27 rfl) (wq hw 10 rfl) (by decide) (by decide)) q198a q198c (g := (mkF m 111 #[.val (.long z0), .second, .val (.int p1), .val (.int p2), .val (.int p3), .val (.int p4), .val (.long z0), .second, .val (.int (0 : Int32)), .val (.int (1 : Int32)), .val (.ref r172), .val (.ref r174), .val (.ref r176), .val (.ref b178), .unset, .unset, .unset, .unset, .unset, .unset, .unset, .unset, .unset] [(.ref r176), (.ref b178)])) rfl (by rw [hml]; rfl) (Steps.refl _) (argsL := [(.ref r176)]) (rest := []) (lenOf pd_4 rfl) rfl (by show 2 * 0 + _ ≤ _; exact Nat.le_of_eq rfl) (hb hby at_111) (fun _ _ => ⟨rfl, rfl, (by decide : 5 + 0 ≤ _), (by decide : 23 + 0 ≤ _)⟩)
        dsimp only [Pt.U, Pt.locs, Pt.cells, Pt.slots] at X198 l198 y198 z198 st198 hQ198
        have X198 := own_to X198 l198 y198 z198
        obtain ⟨rfl, N198q, K198, R198⟩ := hQ198
        have N198 := Fr.app N195 N198q
        have O199 : Old Z n0 T198.heap := Old.keep O196 K198 (allS g184 (allS gbb190 all0))
        have ER198 := R198.1
        obtain ⟨cq200, kq200, q200a, q200b, q200c⟩ := isOf hZ rfl (ER198)
        obtain ⟨_, _, ⟨T200, L200, k200, n200⟩, -, X200, ⟨Lc200, hQ200, l200, y200, z200⟩, st200⟩ := X198.virtualBack hx (y := my_4) (z := my_4) hown (mvT hZ (wq hw 49 rfl)) (mvT hZ (wq hw 50 rfl)) (notFace_of_selects (args := #[]) (mvT hZ (wq hw 52 rfl))) (mvT hZ (wq hw 52 rfl)) (mvT hZ (wq hw 51 rfl)) (by decide) (backOf (W := 0) (rm_siz l Z a0 hw [] b178 (1 : Int32) T198.heap n0 R198.2.2.1) hZ (wq hw 53 rfl) (wq hw 10 rfl) (by decide) (by decide)) q200a q200c (g := (mkF m 199 #[.val (.long z0), .second, .val (.int p1), .val (.int p2), .val (.int p3), .val (.int p4), .val (.long z0), .second, .val (.int (0 : Int32)), .val (.int (1 : Int32)), .val (.ref r172), .val (.ref r174), .val (.ref r176), .val (.ref b178), .val (.int (1 : Int32)), .val (.long (z0 + (1 : Int64))), .second, .val (.long (z0 + (1 : Int64))), .second, .val (.long ((z0 + (1 : Int64)) - (1 : Int64))), .second, .val .null, .unset] [(.ref b178)])) rfl (by rw [hml]; rfl) (Steps.refl _) (argsL := []) (rest := []) (lenOf pd_5 rfl) rfl (by show 2 * 0 + _ ≤ _; exact Nat.le_of_eq rfl) (hb hby at_199) (fun _ _ => ⟨rfl, rfl, (by decide : 5 + 0 ≤ _), (by decide : 23 + 0 ≤ _)⟩)
        dsimp only [Pt.U, Pt.locs, Pt.cells, Pt.slots] at X200 l200 y200 z200 st200 hQ200
        have X200 := own_to X200 l200 y200 z200
        obtain ⟨rfl, N200q, e200⟩ := hQ200
        have N200 := Fr.app N198 N200q
        obtain ⟨cq201, kq201, q201a, q201b, q201c⟩ := isOf hZ e200 (ER198)
        obtain ⟨_, _, ⟨T201, L201, k201, n201⟩, -, X201, ⟨Lc201, hQ201, l201, y201, z201⟩, st201⟩ := X200.virtualBack hx (y := my_5) (z := my_5) hown (mvT hZ (wq hw 54 rfl)) (mvT hZ (wq hw 55 rfl)) (notFace_of_selects (args := #[]) (mvT hZ (wq hw 57 rfl))) (mvT hZ (wq hw 57 rfl)) (mvT hZ (wq hw 56 rfl)) (by decide) (backOf (W := 0) (rm_fnu l Z a0 hw [] b178 (z0 + (1 : Int64)) T198.heap n0 R198.2.2.2.2.1) hZ (wq hw 58 rfl) (wq hw 10 rfl) (by decide) (by decide)) q201a q201c (g := (mkF m 221 #[.val (.long z0), .second, .val (.int p1), .val (.int p2), .val (.int p3), .val (.int p4), .val (.long z0), .second, .val (.int (0 : Int32)), .val (.int (1 : Int32)), .val (.ref r172), .val (.ref r174), .val (.ref r176), .val (.ref b178), .val (.int (1 : Int32)), .val (.long (z0 + (1 : Int64))), .second, .val (.long (z0 + (1 : Int64))), .second, .val (.long ((z0 + (1 : Int64)) - (1 : Int64))), .second, .val .null, .val (.int (1 : Int32))] [(.ref b178)])) rfl (by rw [hml]; rfl) (Steps.refl _) (argsL := []) (rest := []) (lenOf pd_6 rfl) rfl (by show 2 * 0 + _ ≤ _; exact Nat.le_of_eq rfl) (hb hby at_221) (fun _ _ => ⟨rfl, e200, (by decide : 5 + 0 ≤ _), (by decide : 23 + 0 ≤ _)⟩)
        dsimp only [Pt.U, Pt.locs, Pt.cells, Pt.slots] at X201 l201 y201 z201 st201 hQ201
        have X201 := own_to X201 l201 y201 z201
        obtain ⟨rfl, N201q, e201⟩ := hQ201
        have N201 := Fr.app N200 N201q
        have he246 : (z0 + (1 : Int64)) = (z0 + (1 : Int64)) := rfl
        have hg246 : (z0 + (1 : Int64)) = (z0 + (1 : Int64)) := rfl
        obtain ⟨cq202, kq202, q202a, q202b, q202c⟩ := isOf hZ e201 (ER198)
        obtain ⟨_, _, ⟨T202, L202, k202, n202⟩, -, X202, ⟨Lc202, hQ202, l202, y202, z202⟩, st202⟩ := X201.virtualBack hx (y := my_7) (z := my_7) hown (mvT hZ (wq hw 59 rfl)) (mvT hZ (wq hw 44 rfl)) (notFace_of_selects (args := #[]) (mvT hZ (wq hw 46 rfl))) (mvT hZ (wq hw 46 rfl)) (mvT hZ (wq hw 45 rfl)) (by decide) (backOf (W := 0) (rm_get_1_1_NRN_0 l Z a0 hw [] b178 bb190 kk190 r176 (z0 + (1 : Int64)) T198.heap n0 O199 R198 (z0 + (1 : Int64)) (own_ge2 he246 hg246 hf (by decide) (by decide)) (own_sub2 he246 hg246 (by decide))) hZ (wq hw 47 rfl) (wq hw 10 rfl) (by decide) (by decide)) q202a q202c (g := (mkF m 246 #[.val (.long z0), .second, .val (.int p1), .val (.int p2), .val (.int p3), .val (.int p4), .val (.long z0), .second, .val (.int (0 : Int32)), .val (.int (1 : Int32)), .val (.ref r172), .val (.ref r174), .val (.ref r176), .val (.ref b178), .val (.int (1 : Int32)), .val (.long (z0 + (1 : Int64))), .second, .val (.long (z0 + (1 : Int64))), .second, .val (.long ((z0 + (1 : Int64)) - (1 : Int64))), .second, .val .null, .val (.int (1 : Int32))] [(.long (z0 + (1 : Int64))), (.ref b178)])) rfl (by rw [hml]; rfl) (Steps.refl _) (argsL := [(.long (z0 + (1 : Int64)))]) (rest := []) (lenOf pd_7 rfl) rfl (by show 2 * 0 + _ ≤ _; exact Nat.le_of_eq rfl) (hb hby at_246) (fun _ _ => ⟨rfl, e201, (by decide : 5 + 0 ≤ _), (by decide : 23 + 0 ≤ _)⟩)
        dsimp only [Pt.U, Pt.locs, Pt.cells, Pt.slots] at X202 l202 y202 z202 st202 hQ202
        have X202 := own_to X202 l202 y202 z202
        obtain ⟨rfl, N202q, e202⟩ := hQ202
        have N202 := Fr.app N201 N202q
        have he270 : ((z0 + (1 : Int64)) - (1 : Int64)) = (z0 + (0 : Int64)) := (own_f1 _ _ _ _ (by decide))
        have hg270 : (z0 + (1 : Int64)) = (z0 + (1 : Int64)) := rfl
        obtain ⟨cq203, kq203, q203a, q203b, q203c⟩ := isOf hZ e202 (ER198)
        obtain ⟨_, _, ⟨T203, L203, k203, n203⟩, -, X203, ⟨Lc203, hQ203, l203, y203, z203⟩, st203⟩ := X202.virtualBack hx (y := my_7) (z := my_7) hown (mvT hZ (wq hw 59 rfl)) (mvT hZ (wq hw 44 rfl)) (notFace_of_selects (args := #[]) (mvT hZ (wq hw 46 rfl))) (mvT hZ (wq hw 46 rfl)) (mvT hZ (wq hw 45 rfl)) (by decide) (backOf (W := 0) (rm_get_1_1_NRN_lo l Z a0 hw [] b178 bb190 kk190 r176 (z0 + (1 : Int64)) T198.heap n0 O199 R198 ((z0 + (1 : Int64)) - (1 : Int64)) (own_lt2 he270 hg270 hf (by decide) (by decide))) hZ (wq hw 47 rfl) (wq hw 10 rfl) (by decide) (by decide)) q203a q203c (g := (mkF m 270 #[.val (.long z0), .second, .val (.int p1), .val (.int p2), .val (.int p3), .val (.int p4), .val (.long z0), .second, .val (.int (0 : Int32)), .val (.int (1 : Int32)), .val (.ref r172), .val (.ref r174), .val (.ref r176), .val (.ref b178), .val (.int (1 : Int32)), .val (.long (z0 + (1 : Int64))), .second, .val (.long (z0 + (1 : Int64))), .second, .val (.long ((z0 + (1 : Int64)) - (1 : Int64))), .second, .val .null, .val (.int (1 : Int32))] [(.long ((z0 + (1 : Int64)) - (1 : Int64))), (.ref b178)])) rfl (by rw [hml]; rfl) (Steps.refl _) (argsL := [(.long ((z0 + (1 : Int64)) - (1 : Int64)))]) (rest := []) (lenOf pd_7 rfl) rfl (by show 2 * 0 + _ ≤ _; exact Nat.le_of_eq rfl) (hb hby at_270) (fun _ _ => ⟨rfl, e202, (by decide : 5 + 0 ≤ _), (by decide : 23 + 0 ≤ _)⟩)
        dsimp only [Pt.U, Pt.locs, Pt.cells, Pt.slots] at X203 l203 y203 z203 st203 hQ203
        have X203 := own_to X203 l203 y203 z203
        obtain ⟨rfl, N203q, e203⟩ := hQ203
        have N203 := Fr.app N202 N203q
        have he296 : ((z0 + (1 : Int64)) + (1 : Int64)) = (z0 + (2 : Int64)) := (own_f2 _ _ _ _ (by decide))
        have hg296 : (z0 + (1 : Int64)) = (z0 + (1 : Int64)) := rfl
        obtain ⟨cq204, kq204, q204a, q204b, q204c⟩ := isOf hZ e203 (ER198)
        obtain ⟨_, _, ⟨T204, L204, k204, n204⟩, -, X204, ⟨Lc204, hQ204, l204, y204, z204⟩, st204⟩ := X203.virtualBack hx (y := my_7) (z := my_7) hown (mvT hZ (wq hw 59 rfl)) (mvT hZ (wq hw 44 rfl)) (notFace_of_selects (args := #[]) (mvT hZ (wq hw 46 rfl))) (mvT hZ (wq hw 46 rfl)) (mvT hZ (wq hw 45 rfl)) (by decide) (backOf (W := 0) (rm_get_1_1_NRN_hi l Z a0 hw [] b178 bb190 kk190 r176 (z0 + (1 : Int64)) T198.heap n0 O199 R198 ((z0 + (1 : Int64)) + (1 : Int64)) (own_ge2 he296 hg296 hf (by decide) (by decide)) (own_sub2 he296 hg296 (by decide))) hZ (wq hw 47 rfl) (wq hw 10 rfl) (by decide) (by decide)) q204a q204c (g := (mkF m 296 #[.val (.long z0), .second, .val (.int p1), .val (.int p2), .val (.int p3), .val (.int p4), .val (.long z0), .second, .val (.int (0 : Int32)), .val (.int (1 : Int32)), .val (.ref r172), .val (.ref r174), .val (.ref r176), .val (.ref b178), .val (.int (1 : Int32)), .val (.long (z0 + (1 : Int64))), .second, .val (.long (z0 + (1 : Int64))), .second, .val (.long ((z0 + (1 : Int64)) - (1 : Int64))), .second, .val .null, .val (.int (1 : Int32))] [(.long ((z0 + (1 : Int64)) + (1 : Int64))), (.ref b178)])) rfl (by rw [hml]; rfl) (Steps.refl _) (argsL := [(.long ((z0 + (1 : Int64)) + (1 : Int64)))]) (rest := []) (lenOf pd_7 rfl) rfl (by show 2 * 0 + _ ≤ _; exact Nat.le_of_eq rfl) (hb hby at_296) (fun _ _ => ⟨rfl, e203, (by decide : 5 + 0 ≤ _), (by decide : 23 + 0 ≤ _)⟩)
        dsimp only [Pt.U, Pt.locs, Pt.cells, Pt.slots] at X204 l204 y204 z204 st204 hQ204
        have X204 := own_to X204 l204 y204 z204
        obtain ⟨rfl, N204q, e204⟩ := hQ204
        have N204 := Fr.app N203 N204q
        obtain ⟨fs, hr, hrun, hended, hW, hsame⟩ := X204.leave (v := (some (.int (1 : Int32)))) (fun h => by rw [Bd.returns] at h; cases h)
        refine ⟨_, _, gp140 _ ?_, hrun, hended, _, _, rfl, ?_, ⟨_, rfl⟩, hW, hsame.mono (by decide) (by decide)⟩
        · refine XS.ifNo X0.here hx rfl (hb hby at_37) rfl ((if0 _ _).trans (feq hc37).1) ?_
          refine XS.iconst X0.here hx rfl (hb hby at_40) ?_
          refine XS.goto X0.here hx rfl (pc0 := 41) (pc' := 45) rfl (hb hby at_41) (by decide) (by decide) ?_
          refine XS.istore X0.here hx rfl (hb hby at_45) rfl (l' := #[.val (.long z0), .second, .val (.int p1), .val (.int p2), .val (.int p3), .val (.int p4), .val (.long z0), .second, .val (.int (0 : Int32)), .val (.int (1 : Int32)), .unset, .unset, .unset, .unset, .unset, .unset, .unset, .unset, .unset, .unset, .unset, .unset, .unset]) rfl ?_
          refine XS.iloadN X0.here hx rfl (hb hby at_47) rfl ?_
          refine st172 _ ?_
          show Steps p.tables e below (T172.setTop (mkF m 51 #[.val (.long z0), .second, .val (.int p1), .val (.int p2), .val (.int p3), .val (.int p4), .val (.long z0), .second, .val (.int (0 : Int32)), .val (.int (1 : Int32)), .unset, .unset, .unset, .unset, .unset, .unset, .unset, .unset, .unset, .unset, .unset, .unset, .unset] [(.ref r172)])) _
          refine XS.astore X172.here hx rfl (hb hby at_51) rfl rfl (l' := #[.val (.long z0), .second, .val (.int p1), .val (.int p2), .val (.int p3), .val (.int p4), .val (.long z0), .second, .val (.int (0 : Int32)), .val (.int (1 : Int32)), .val (.ref r172), .unset, .unset, .unset, .unset, .unset, .unset, .unset, .unset, .unset, .unset, .unset, .unset]) rfl ?_
          refine XS.iloadN X172.here hx rfl (hb hby at_53) rfl ?_
          refine st174 _ ?_
          refine XS.astore X174.here hx rfl (hb hby at_57) rfl rfl (l' := #[.val (.long z0), .second, .val (.int p1), .val (.int p2), .val (.int p3), .val (.int p4), .val (.long z0), .second, .val (.int (0 : Int32)), .val (.int (1 : Int32)), .val (.ref r172), .val (.ref r174), .unset, .unset, .unset, .unset, .unset, .unset, .unset, .unset, .unset, .unset, .unset]) rfl ?_
          refine XS.iload X174.here hx rfl (hb hby at_59) rfl ?_
          refine st176 _ ?_
          show Steps p.tables e below (T176.setTop (mkF m 64 #[.val (.long z0), .second, .val (.int p1), .val (.int p2), .val (.int p3), .val (.int p4), .val (.long z0), .second, .val (.int (0 : Int32)), .val (.int (1 : Int32)), .val (.ref r172), .val (.ref r174), .unset, .unset, .unset, .unset, .unset, .unset, .unset, .unset, .unset, .unset, .unset] [(.ref r176)])) _
          refine XS.astore X176.here hx rfl (hb hby at_64) rfl rfl (l' := #[.val (.long z0), .second, .val (.int p1), .val (.int p2), .val (.int p3), .val (.int p4), .val (.long z0), .second, .val (.int (0 : Int32)), .val (.int (1 : Int32)), .val (.ref r172), .val (.ref r174), .val (.ref r176), .unset, .unset, .unset, .unset, .unset, .unset, .unset, .unset, .unset, .unset]) rfl ?_
          refine st178 _ ?_
          refine XS.dup X178.here hx rfl (hb hby at_69) rfl rfl ?_
          refine XS.lload X178.here hx rfl (hb hby at_70) rfl ?_
          refine st190.trans ?_
          refine XS.astore X190.here hx rfl (hb hby at_75) rfl rfl (l' := #[.val (.long z0), .second, .val (.int p1), .val (.int p2), .val (.int p3), .val (.int p4), .val (.long z0), .second, .val (.int (0 : Int32)), .val (.int (1 : Int32)), .val (.ref r172), .val (.ref r174), .val (.ref r176), .val (.ref b178), .unset, .unset, .unset, .unset, .unset, .unset, .unset, .unset, .unset]) rfl ?_
          show Steps p.tables e below (T190.setTop (mkF m 77 #[.val (.long z0), .second, .val (.int p1), .val (.int p2), .val (.int p3), .val (.int p4), .val (.long z0), .second, .val (.int (0 : Int32)), .val (.int (1 : Int32)), .val (.ref r172), .val (.ref r174), .val (.ref r176), .val (.ref b178), .unset, .unset, .unset, .unset, .unset, .unset, .unset, .unset, .unset] [])) _
          refine XS.iload X190.here hx rfl (hb hby at_77) rfl ?_
          refine XS.ifYes X190.here hx rfl (pc0 := 79) (pc' := 89) rfl (hb hby at_79) rfl ((if0 _ _).trans (teq (by decide : (0 : Int32) = (0 : Int32))).1) (by decide) (by decide) ?_
          refine XS.aload X190.here hx rfl (hb hby at_89) rfl rfl ?_
          refine XS.aload X190.here hx rfl (hb hby at_91) rfl rfl ?_
          refine st193.trans ?_
          refine XS.iload X193.here hx rfl (hb hby at_96) rfl ?_
          show Steps p.tables e below (T193.setTop (mkF m 98 #[.val (.long z0), .second, .val (.int p1), .val (.int p2), .val (.int p3), .val (.int p4), .val (.long z0), .second, .val (.int (0 : Int32)), .val (.int (1 : Int32)), .val (.ref r172), .val (.ref r174), .val (.ref r176), .val (.ref b178), .unset, .unset, .unset, .unset, .unset, .unset, .unset, .unset, .unset] [(.int (1 : Int32))])) _
          refine XS.ifNo X193.here hx rfl (hb hby at_98) rfl ((if0 _ _).trans (feq (by decide : ¬ ((1 : Int32) = (0 : Int32)))).1) ?_
          refine XS.aload X193.here hx rfl (hb hby at_101) rfl rfl ?_
          refine st195.trans ?_
          refine XS.pop X195.here hx rfl (hb hby at_106) rfl rfl ?_
          refine XS.aload X195.here hx rfl (hb hby at_107) rfl rfl ?_
          refine XS.aload X195.here hx rfl (hb hby at_109) rfl rfl ?_
          show Steps p.tables e below (T195.setTop (mkF m 111 #[.val (.long z0), .second, .val (.int p1), .val (.int p2), .val (.int p3), .val (.int p4), .val (.long z0), .second, .val (.int (0 : Int32)), .val (.int (1 : Int32)), .val (.ref r172), .val (.ref r174), .val (.ref r176), .val (.ref b178), .unset, .unset, .unset, .unset, .unset, .unset, .unset, .unset, .unset] [(.ref r176), (.ref b178)])) _
          refine st198.trans ?_
          refine XS.iload X198.here hx rfl (hb hby at_114) rfl ?_
          refine XS.ifYes X198.here hx rfl (pc0 := 116) (pc' := 123) rfl (hb hby at_116) rfl ((if0 _ _).trans (teq (by decide : (0 : Int32) = (0 : Int32))).1) (by decide) (by decide) ?_
          refine XS.iconst X198.here hx rfl (hb hby at_123) ?_
          refine XS.iconst X198.here hx rfl (hb hby at_124) ?_
          refine XS.iadd X198.here hx rfl (hb hby at_125) rfl ?_
          show Steps p.tables e below (T198.setTop (mkF m 126 #[.val (.long z0), .second, .val (.int p1), .val (.int p2), .val (.int p3), .val (.int p4), .val (.long z0), .second, .val (.int (0 : Int32)), .val (.int (1 : Int32)), .val (.ref r172), .val (.ref r174), .val (.ref r176), .val (.ref b178), .unset, .unset, .unset, .unset, .unset, .unset, .unset, .unset, .unset] [(.int (1 : Int32))])) _
          refine XS.iload X198.here hx rfl (hb hby at_126) rfl ?_
          refine XS.ifNo X198.here hx rfl (hb hby at_128) rfl ((if0 _ _).trans (feq (by decide : ¬ ((1 : Int32) = (0 : Int32)))).1) ?_
          refine XS.iconst X198.here hx rfl (hb hby at_131) ?_
          refine XS.goto X198.here hx rfl (pc0 := 132) (pc' := 136) rfl (hb hby at_132) (by decide) (by decide) ?_
          refine XS.isub X198.here hx rfl (hb hby at_136) rfl ?_
          show Steps p.tables e below (T198.setTop (mkF m 137 #[.val (.long z0), .second, .val (.int p1), .val (.int p2), .val (.int p3), .val (.int p4), .val (.long z0), .second, .val (.int (0 : Int32)), .val (.int (1 : Int32)), .val (.ref r172), .val (.ref r174), .val (.ref r176), .val (.ref b178), .unset, .unset, .unset, .unset, .unset, .unset, .unset, .unset, .unset] [(.int (0 : Int32))])) _
          refine XS.iconst X198.here hx rfl (hb hby at_137) ?_
          show Steps p.tables e below (T198.setTop (mkF m 138 #[.val (.long z0), .second, .val (.int p1), .val (.int p2), .val (.int p3), .val (.int p4), .val (.long z0), .second, .val (.int (0 : Int32)), .val (.int (1 : Int32)), .val (.ref r172), .val (.ref r174), .val (.ref r176), .val (.ref b178), .unset, .unset, .unset, .unset, .unset, .unset, .unset, .unset, .unset] [(.int (1 : Int32)), (.int (0 : Int32))])) _
          refine XS.iadd X198.here hx rfl (hb hby at_138) rfl ?_
          show Steps p.tables e below (T198.setTop (mkF m 139 #[.val (.long z0), .second, .val (.int p1), .val (.int p2), .val (.int p3), .val (.int p4), .val (.long z0), .second, .val (.int (0 : Int32)), .val (.int (1 : Int32)), .val (.ref r172), .val (.ref r174), .val (.ref r176), .val (.ref b178), .unset, .unset, .unset, .unset, .unset, .unset, .unset, .unset, .unset] [(.int (1 : Int32))])) _
          refine XS.istore X198.here hx rfl (hb hby at_139) rfl (l' := #[.val (.long z0), .second, .val (.int p1), .val (.int p2), .val (.int p3), .val (.int p4), .val (.long z0), .second, .val (.int (0 : Int32)), .val (.int (1 : Int32)), .val (.ref r172), .val (.ref r174), .val (.ref r176), .val (.ref b178), .val (.int (1 : Int32)), .unset, .unset, .unset, .unset, .unset, .unset, .unset, .unset]) rfl ?_
          refine XS.lload X198.here hx rfl (hb hby at_141) rfl ?_
          refine XS.iload X198.here hx rfl (hb hby at_143) rfl ?_
          refine XS.ifNo X198.here hx rfl (hb hby at_145) rfl ((if0 _ _).trans (feq (by decide : ¬ ((1 : Int32) = (0 : Int32)))).1) ?_
          refine XS.lconst X198.here hx rfl (hb hby at_148) ?_
          show Steps p.tables e below (T198.setTop (mkF m 149 #[.val (.long z0), .second, .val (.int p1), .val (.int p2), .val (.int p3), .val (.int p4), .val (.long z0), .second, .val (.int (0 : Int32)), .val (.int (1 : Int32)), .val (.ref r172), .val (.ref r174), .val (.ref r176), .val (.ref b178), .val (.int (1 : Int32)), .unset, .unset, .unset, .unset, .unset, .unset, .unset, .unset] [(.long (1 : Int64)), (.long z0)])) _
          refine XS.goto X198.here hx rfl (pc0 := 149) (pc' := 153) rfl (hb hby at_149) (by decide) (by decide) ?_
          refine XS.ladd X198.here hx rfl (hb hby at_153) rfl ?_
          refine XS.lstore X198.here hx rfl (hb hby at_154) rfl (l' := #[.val (.long z0), .second, .val (.int p1), .val (.int p2), .val (.int p3), .val (.int p4), .val (.long z0), .second, .val (.int (0 : Int32)), .val (.int (1 : Int32)), .val (.ref r172), .val (.ref r174), .val (.ref r176), .val (.ref b178), .val (.int (1 : Int32)), .val (.long (z0 + (1 : Int64))), .second, .unset, .unset, .unset, .unset, .unset, .unset]) rfl ?_
          refine XS.lload X198.here hx rfl (hb hby at_156) rfl ?_
          refine XS.iload X198.here hx rfl (hb hby at_158) rfl ?_
          refine XS.ifYes X198.here hx rfl (pc0 := 160) (pc' := 169) rfl (hb hby at_160) rfl ((if0 _ _).trans (teq (by decide : (0 : Int32) = (0 : Int32))).1) (by decide) (by decide) ?_
          show Steps p.tables e below (T198.setTop (mkF m 169 #[.val (.long z0), .second, .val (.int p1), .val (.int p2), .val (.int p3), .val (.int p4), .val (.long z0), .second, .val (.int (0 : Int32)), .val (.int (1 : Int32)), .val (.ref r172), .val (.ref r174), .val (.ref r176), .val (.ref b178), .val (.int (1 : Int32)), .val (.long (z0 + (1 : Int64))), .second, .unset, .unset, .unset, .unset, .unset, .unset] [(.long z0)])) _
          refine XS.lconst X198.here hx rfl (hb hby at_169) ?_
          refine XS.ladd X198.here hx rfl (hb hby at_170) rfl ?_
          refine XS.lstore X198.here hx rfl (hb hby at_171) rfl (l' := #[.val (.long z0), .second, .val (.int p1), .val (.int p2), .val (.int p3), .val (.int p4), .val (.long z0), .second, .val (.int (0 : Int32)), .val (.int (1 : Int32)), .val (.ref r172), .val (.ref r174), .val (.ref r176), .val (.ref b178), .val (.int (1 : Int32)), .val (.long (z0 + (1 : Int64))), .second, .val (.long (z0 + (1 : Int64))), .second, .unset, .unset, .unset, .unset]) rfl ?_
          refine XS.lload X198.here hx rfl (hb hby at_173) rfl ?_
          refine XS.lconst X198.here hx rfl (hb hby at_175) ?_
          refine XS.lsub X198.here hx rfl (hb hby at_176) rfl ?_
          show Steps p.tables e below (T198.setTop (mkF m 177 #[.val (.long z0), .second, .val (.int p1), .val (.int p2), .val (.int p3), .val (.int p4), .val (.long z0), .second, .val (.int (0 : Int32)), .val (.int (1 : Int32)), .val (.ref r172), .val (.ref r174), .val (.ref r176), .val (.ref b178), .val (.int (1 : Int32)), .val (.long (z0 + (1 : Int64))), .second, .val (.long (z0 + (1 : Int64))), .second, .unset, .unset, .unset, .unset] [(.long ((z0 + (1 : Int64)) - (1 : Int64)))])) _
          refine XS.lstore X198.here hx rfl (hb hby at_177) rfl (l' := #[.val (.long z0), .second, .val (.int p1), .val (.int p2), .val (.int p3), .val (.int p4), .val (.long z0), .second, .val (.int (0 : Int32)), .val (.int (1 : Int32)), .val (.ref r172), .val (.ref r174), .val (.ref r176), .val (.ref b178), .val (.int (1 : Int32)), .val (.long (z0 + (1 : Int64))), .second, .val (.long (z0 + (1 : Int64))), .second, .val (.long ((z0 + (1 : Int64)) - (1 : Int64))), .second, .unset, .unset]) rfl ?_
          refine XS.iload X198.here hx rfl (hb hby at_179) rfl ?_
          refine XS.ifNo X198.here hx rfl (hb hby at_181) rfl ((if0 _ _).trans (feq (by decide : ¬ ((1 : Int32) = (0 : Int32)))).1) ?_
          refine XS.iload X198.here hx rfl (hb hby at_184) rfl ?_
          refine XS.ifNo X198.here hx rfl (hb hby at_186) rfl ((if0 _ _).trans (teq (by decide : (0 : Int32) = (0 : Int32))).2) ?_
          refine XS.aconstNull X198.here hx rfl (hb hby at_189) ?_
          show Steps p.tables e below (T198.setTop (mkF m 190 #[.val (.long z0), .second, .val (.int p1), .val (.int p2), .val (.int p3), .val (.int p4), .val (.long z0), .second, .val (.int (0 : Int32)), .val (.int (1 : Int32)), .val (.ref r172), .val (.ref r174), .val (.ref r176), .val (.ref b178), .val (.int (1 : Int32)), .val (.long (z0 + (1 : Int64))), .second, .val (.long (z0 + (1 : Int64))), .second, .val (.long ((z0 + (1 : Int64)) - (1 : Int64))), .second, .unset, .unset] [.null])) _
          refine XS.goto X198.here hx rfl (pc0 := 190) (pc' := 195) rfl (hb hby at_190) (by decide) (by decide) ?_
          refine XS.astore X198.here hx rfl (hb hby at_195) rfl rfl (l' := #[.val (.long z0), .second, .val (.int p1), .val (.int p2), .val (.int p3), .val (.int p4), .val (.long z0), .second, .val (.int (0 : Int32)), .val (.int (1 : Int32)), .val (.ref r172), .val (.ref r174), .val (.ref r176), .val (.ref b178), .val (.int (1 : Int32)), .val (.long (z0 + (1 : Int64))), .second, .val (.long (z0 + (1 : Int64))), .second, .val (.long ((z0 + (1 : Int64)) - (1 : Int64))), .second, .val .null, .unset]) rfl ?_
          refine XS.aload X198.here hx rfl (hb hby at_197) rfl rfl ?_
          refine st200.trans ?_
          refine XS.iload X200.here hx rfl (hb hby at_202) rfl ?_
          refine XS.icmpNo X200.here hx rfl (hb hby at_204) rfl (teq (by decide : (1 : Int32) = (1 : Int32))).2 ?_
          show Steps p.tables e below (T200.setTop (mkF m 207 #[.val (.long z0), .second, .val (.int p1), .val (.int p2), .val (.int p3), .val (.int p4), .val (.long z0), .second, .val (.int (0 : Int32)), .val (.int (1 : Int32)), .val (.ref r172), .val (.ref r174), .val (.ref r176), .val (.ref b178), .val (.int (1 : Int32)), .val (.long (z0 + (1 : Int64))), .second, .val (.long (z0 + (1 : Int64))), .second, .val (.long ((z0 + (1 : Int64)) - (1 : Int64))), .second, .val .null, .unset] [])) _
          refine XS.iconst X200.here hx rfl (hb hby at_207) ?_
          refine XS.goto X200.here hx rfl (pc0 := 208) (pc' := 212) rfl (hb hby at_208) (by decide) (by decide) ?_
          refine XS.istore X200.here hx rfl (hb hby at_212) rfl (l' := #[.val (.long z0), .second, .val (.int p1), .val (.int p2), .val (.int p3), .val (.int p4), .val (.long z0), .second, .val (.int (0 : Int32)), .val (.int (1 : Int32)), .val (.ref r172), .val (.ref r174), .val (.ref r176), .val (.ref b178), .val (.int (1 : Int32)), .val (.long (z0 + (1 : Int64))), .second, .val (.long (z0 + (1 : Int64))), .second, .val (.long ((z0 + (1 : Int64)) - (1 : Int64))), .second, .val .null, .val (.int (1 : Int32))]) rfl ?_
          refine XS.iload X200.here hx rfl (hb hby at_214) rfl ?_
          refine XS.ifNo X200.here hx rfl (hb hby at_216) rfl ((if0 _ _).trans (feq (by decide : ¬ ((1 : Int32) = (0 : Int32)))).1) ?_
          refine XS.aload X200.here hx rfl (hb hby at_219) rfl rfl ?_
          show Steps p.tables e below (T200.setTop (mkF m 221 #[.val (.long z0), .second, .val (.int p1), .val (.int p2), .val (.int p3), .val (.int p4), .val (.long z0), .second, .val (.int (0 : Int32)), .val (.int (1 : Int32)), .val (.ref r172), .val (.ref r174), .val (.ref r176), .val (.ref b178), .val (.int (1 : Int32)), .val (.long (z0 + (1 : Int64))), .second, .val (.long (z0 + (1 : Int64))), .second, .val (.long ((z0 + (1 : Int64)) - (1 : Int64))), .second, .val .null, .val (.int (1 : Int32))] [(.ref b178)])) _
          refine st201.trans ?_
          refine XS.lload X201.here hx rfl (hb hby at_224) rfl ?_
          refine XS.lcmp X201.here hx rfl (hb hby at_226) rfl ?_
          refine XS.ifNo X201.here hx rfl (hb hby at_227) rfl ((if0 _ _).trans (teq ((lw_eq _ _).mpr rfl)).2) ?_
          refine XS.iconst X201.here hx rfl (hb hby at_230) ?_
          refine XS.goto X201.here hx rfl (pc0 := 231) (pc' := 235) rfl (hb hby at_231) (by decide) (by decide) ?_
          show Steps p.tables e below (T201.setTop (mkF m 235 #[.val (.long z0), .second, .val (.int p1), .val (.int p2), .val (.int p3), .val (.int p4), .val (.long z0), .second, .val (.int (0 : Int32)), .val (.int (1 : Int32)), .val (.ref r172), .val (.ref r174), .val (.ref r176), .val (.ref b178), .val (.int (1 : Int32)), .val (.long (z0 + (1 : Int64))), .second, .val (.long (z0 + (1 : Int64))), .second, .val (.long ((z0 + (1 : Int64)) - (1 : Int64))), .second, .val .null, .val (.int (1 : Int32))] [(.int (1 : Int32))])) _
          refine XS.istore X201.here hx rfl (hb hby at_235) rfl (l' := #[.val (.long z0), .second, .val (.int p1), .val (.int p2), .val (.int p3), .val (.int p4), .val (.long z0), .second, .val (.int (0 : Int32)), .val (.int (1 : Int32)), .val (.ref r172), .val (.ref r174), .val (.ref r176), .val (.ref b178), .val (.int (1 : Int32)), .val (.long (z0 + (1 : Int64))), .second, .val (.long (z0 + (1 : Int64))), .second, .val (.long ((z0 + (1 : Int64)) - (1 : Int64))), .second, .val .null, .val (.int (1 : Int32))]) rfl ?_
          refine XS.iload X201.here hx rfl (hb hby at_237) rfl ?_
          refine XS.ifNo X201.here hx rfl (hb hby at_239) rfl ((if0 _ _).trans (feq (by decide : ¬ ((1 : Int32) = (0 : Int32)))).1) ?_
          refine XS.aload X201.here hx rfl (hb hby at_242) rfl rfl ?_
          refine XS.lload X201.here hx rfl (hb hby at_244) rfl ?_
          refine st202.trans ?_
          show Steps p.tables e below (T202.setTop (mkF m 249 #[.val (.long z0), .second, .val (.int p1), .val (.int p2), .val (.int p3), .val (.int p4), .val (.long z0), .second, .val (.int (0 : Int32)), .val (.int (1 : Int32)), .val (.ref r172), .val (.ref r174), .val (.ref r176), .val (.ref b178), .val (.int (1 : Int32)), .val (.long (z0 + (1 : Int64))), .second, .val (.long (z0 + (1 : Int64))), .second, .val (.long ((z0 + (1 : Int64)) - (1 : Int64))), .second, .val .null, .val (.int (1 : Int32))] [(.ref r176)])) _
          refine XS.aload X202.here hx rfl (hb hby at_249) rfl rfl ?_
          refine Jvm.RoadKit.acmp (g := (mkF m 251 #[.val (.long z0), .second, .val (.int p1), .val (.int p2), .val (.int p3), .val (.int p4), .val (.long z0), .second, .val (.int (0 : Int32)), .val (.int (1 : Int32)), .val (.ref r172), .val (.ref r174), .val (.ref r176), .val (.ref b178), .val (.int (1 : Int32)), .val (.long (z0 + (1 : Int64))), .second, .val (.long (z0 + (1 : Int64))), .second, .val (.long ((z0 + (1 : Int64)) - (1 : Int64))), .second, .val .null, .val (.int (1 : Int32))] [(.ref r176), (.ref r176)])) X202 hx rfl rfl rfl (pc0 := 251) (pc' := 254) (same := true) rfl (hb hby at_251) rfl (decide_eq_true rfl) (by decide) (by decide) ?_
          refine XS.iconst X202.here hx rfl (hb hby at_254) ?_
          refine XS.goto X202.here hx rfl (pc0 := 255) (pc' := 259) rfl (hb hby at_255) (by decide) (by decide) ?_
          refine XS.istore X202.here hx rfl (hb hby at_259) rfl (l' := #[.val (.long z0), .second, .val (.int p1), .val (.int p2), .val (.int p3), .val (.int p4), .val (.long z0), .second, .val (.int (0 : Int32)), .val (.int (1 : Int32)), .val (.ref r172), .val (.ref r174), .val (.ref r176), .val (.ref b178), .val (.int (1 : Int32)), .val (.long (z0 + (1 : Int64))), .second, .val (.long (z0 + (1 : Int64))), .second, .val (.long ((z0 + (1 : Int64)) - (1 : Int64))), .second, .val .null, .val (.int (1 : Int32))]) rfl ?_
          refine XS.iload X202.here hx rfl (hb hby at_261) rfl ?_
          show Steps p.tables e below (T202.setTop (mkF m 263 #[.val (.long z0), .second, .val (.int p1), .val (.int p2), .val (.int p3), .val (.int p4), .val (.long z0), .second, .val (.int (0 : Int32)), .val (.int (1 : Int32)), .val (.ref r172), .val (.ref r174), .val (.ref r176), .val (.ref b178), .val (.int (1 : Int32)), .val (.long (z0 + (1 : Int64))), .second, .val (.long (z0 + (1 : Int64))), .second, .val (.long ((z0 + (1 : Int64)) - (1 : Int64))), .second, .val .null, .val (.int (1 : Int32))] [(.int (1 : Int32))])) _
          refine XS.ifNo X202.here hx rfl (hb hby at_263) rfl ((if0 _ _).trans (feq (by decide : ¬ ((1 : Int32) = (0 : Int32)))).1) ?_
          refine XS.aload X202.here hx rfl (hb hby at_266) rfl rfl ?_
          refine XS.lload X202.here hx rfl (hb hby at_268) rfl ?_
          refine st203.trans ?_
          refine XS.aload X203.here hx rfl (hb hby at_273) rfl rfl ?_
          refine Jvm.RoadKit.acmp (g := (mkF m 275 #[.val (.long z0), .second, .val (.int p1), .val (.int p2), .val (.int p3), .val (.int p4), .val (.long z0), .second, .val (.int (0 : Int32)), .val (.int (1 : Int32)), .val (.ref r172), .val (.ref r174), .val (.ref r176), .val (.ref b178), .val (.int (1 : Int32)), .val (.long (z0 + (1 : Int64))), .second, .val (.long (z0 + (1 : Int64))), .second, .val (.long ((z0 + (1 : Int64)) - (1 : Int64))), .second, .val .null, .val (.int (1 : Int32))] [.null, .null])) X203 hx rfl rfl rfl (pc0 := 275) (pc' := 278) (same := true) rfl (hb hby at_275) rfl (decide_eq_true rfl) (by decide) (by decide) ?_
          show Steps p.tables e below (T203.setTop (mkF m 278 #[.val (.long z0), .second, .val (.int p1), .val (.int p2), .val (.int p3), .val (.int p4), .val (.long z0), .second, .val (.int (0 : Int32)), .val (.int (1 : Int32)), .val (.ref r172), .val (.ref r174), .val (.ref r176), .val (.ref b178), .val (.int (1 : Int32)), .val (.long (z0 + (1 : Int64))), .second, .val (.long (z0 + (1 : Int64))), .second, .val (.long ((z0 + (1 : Int64)) - (1 : Int64))), .second, .val .null, .val (.int (1 : Int32))] [])) _
          refine XS.iconst X203.here hx rfl (hb hby at_278) ?_
          refine XS.goto X203.here hx rfl (pc0 := 279) (pc' := 283) rfl (hb hby at_279) (by decide) (by decide) ?_
          refine XS.istore X203.here hx rfl (hb hby at_283) rfl (l' := #[.val (.long z0), .second, .val (.int p1), .val (.int p2), .val (.int p3), .val (.int p4), .val (.long z0), .second, .val (.int (0 : Int32)), .val (.int (1 : Int32)), .val (.ref r172), .val (.ref r174), .val (.ref r176), .val (.ref b178), .val (.int (1 : Int32)), .val (.long (z0 + (1 : Int64))), .second, .val (.long (z0 + (1 : Int64))), .second, .val (.long ((z0 + (1 : Int64)) - (1 : Int64))), .second, .val .null, .val (.int (1 : Int32))]) rfl ?_
          refine XS.iload X203.here hx rfl (hb hby at_285) rfl ?_
          refine XS.ifNo X203.here hx rfl (hb hby at_287) rfl ((if0 _ _).trans (feq (by decide : ¬ ((1 : Int32) = (0 : Int32)))).1) ?_
          refine XS.aload X203.here hx rfl (hb hby at_290) rfl rfl ?_
          show Steps p.tables e below (T203.setTop (mkF m 292 #[.val (.long z0), .second, .val (.int p1), .val (.int p2), .val (.int p3), .val (.int p4), .val (.long z0), .second, .val (.int (0 : Int32)), .val (.int (1 : Int32)), .val (.ref r172), .val (.ref r174), .val (.ref r176), .val (.ref b178), .val (.int (1 : Int32)), .val (.long (z0 + (1 : Int64))), .second, .val (.long (z0 + (1 : Int64))), .second, .val (.long ((z0 + (1 : Int64)) - (1 : Int64))), .second, .val .null, .val (.int (1 : Int32))] [(.ref b178)])) _
          refine XS.lload X203.here hx rfl (hb hby at_292) rfl ?_
          refine XS.lconst X203.here hx rfl (hb hby at_294) ?_
          refine XS.ladd X203.here hx rfl (hb hby at_295) rfl ?_
          refine st204.trans ?_
          refine XS.ifnonnullNo X204.here hx rfl (hb hby at_299) rfl ?_
          refine XS.iconst X204.here hx rfl (hb hby at_302) ?_
          show Steps p.tables e below (T204.setTop (mkF m 303 #[.val (.long z0), .second, .val (.int p1), .val (.int p2), .val (.int p3), .val (.int p4), .val (.long z0), .second, .val (.int (0 : Int32)), .val (.int (1 : Int32)), .val (.ref r172), .val (.ref r174), .val (.ref r176), .val (.ref b178), .val (.int (1 : Int32)), .val (.long (z0 + (1 : Int64))), .second, .val (.long (z0 + (1 : Int64))), .second, .val (.long ((z0 + (1 : Int64)) - (1 : Int64))), .second, .val .null, .val (.int (1 : Int32))] [(.int (1 : Int32))])) _
          refine XS.goto X204.here hx rfl (pc0 := 303) (pc' := 307) rfl (hb hby at_303) (by decide) (by decide) ?_
          refine XS.istore X204.here hx rfl (hb hby at_307) rfl (l' := #[.val (.long z0), .second, .val (.int p1), .val (.int p2), .val (.int p3), .val (.int p4), .val (.long z0), .second, .val (.int (0 : Int32)), .val (.int (1 : Int32)), .val (.ref r172), .val (.ref r174), .val (.ref r176), .val (.ref b178), .val (.int (1 : Int32)), .val (.long (z0 + (1 : Int64))), .second, .val (.long (z0 + (1 : Int64))), .second, .val (.long ((z0 + (1 : Int64)) - (1 : Int64))), .second, .val .null, .val (.int (1 : Int32))]) rfl ?_
          refine XS.iload X204.here hx rfl (hb hby at_309) rfl ?_
          exact retN X204 hx (t := .boolean) Bd.returns (by simp) (hb hby at_311) hr
        · show Q0 n0 _ T204.heap _
          rw [e204]
          exact ⟨rfl, N204⟩
    · have gp205 : Go p e below s₁ f₀ s₁ (mkF m 37 #[.val (.long z0), .second, .val (.int p1), .val (.int p2), .val (.int p3), .val (.int p4), .val (.long z0), .second, .val (.int (1 : Int32)), .unset, .unset, .unset, .unset, .unset, .unset, .unset, .unset, .unset, .unset, .unset, .unset, .unset, .unset] [(.int (p4 &&& (2 : Int32)))]) := fun t kt => gp139 t (by
        refine XS.ifNo X0.here hx rfl (hb hby at_23) rfl ((if0 _ _).trans (feq hc23).1) ?_
        refine XS.iconst X0.here hx rfl (hb hby at_26) ?_
        refine XS.goto X0.here hx rfl (pc0 := 27) (pc' := 31) rfl (hb hby at_27) (by decide) (by decide) ?_
        show Steps p.tables e below (s₁.setTop (mkF m 31 #[.val (.long z0), .second, .val (.int p1), .val (.int p2), .val (.int p3), .val (.int p4), .val (.long z0), .second, .unset, .unset, .unset, .unset, .unset, .unset, .unset, .unset, .unset, .unset, .unset, .unset, .unset, .unset, .unset] [(.int (1 : Int32))])) _
        refine XS.istore X0.here hx rfl (hb hby at_31) rfl (l' := #[.val (.long z0), .second, .val (.int p1), .val (.int p2), .val (.int p3), .val (.int p4), .val (.long z0), .second, .val (.int (1 : Int32)), .unset, .unset, .unset, .unset, .unset, .unset, .unset, .unset, .unset, .unset, .unset, .unset, .unset, .unset]) rfl ?_
        refine XS.iload X0.here hx rfl (hb hby at_33) rfl ?_
        refine XS.iconst X0.here hx rfl (hb hby at_35) ?_
        refine XS.iand X0.here hx rfl (hb hby at_36) rfl ?_
        exact kt)
      by_cases hc37 : (p4 &&& (2 : Int32)) = (0 : Int32)
      · obtain ⟨_, _, ⟨T206, L206, k206, n206⟩, -, X206, ⟨Lc206, hQ206, l206, y206, z206⟩, st206⟩ := Jvm.LawKit.callS X0 hx (y := my_2) hown (mvT hZ (wq hw 1 rfl)) (mvT hZ (wq hw 2 rfl)) (mvT hZ (wq hw 3 rfl)) (mvT hZ (wq hw 4 rfl)) (by decide) (backOf (W := 0) (rm_val l Z a0 hw [] ca cc hL p1 h0 n0 O0) hZ (wq hw 4 rfl) (wq hw 3 rfl) (by decide) (by decide)) (g := (mkF m 48 #[.val (.long z0), .second, .val (.int p1), .val (.int p2), .val (.int p3), .val (.int p4), .val (.long z0), .second, .val (.int (1 : Int32)), .val (.int (0 : Int32)), .unset, .unset, .unset, .unset, .unset, .unset, .unset, .unset, .unset, .unset, .unset, .unset, .unset] [(.int p1)])) rfl (by rw [hml]; rfl) (argsL := [(.int p1)]) (rest := []) (lenOf pd_2 rfl) rfl (by show 2 * 0 + _ ≤ _; exact Nat.le_of_eq rfl) (hb hby at_48) (fun _ _ => ⟨rfl, e0, (by decide : 0 + 1 ≤ _), (by decide : 0 + 1 ≤ _)⟩)
        dsimp only [Pt.U, Pt.locs, Pt.cells, Pt.slots] at X206 l206 y206 z206 st206 hQ206
        have X206 := own_to X206 l206 y206 z206
        obtain ⟨r206, rfl, N206q, K206, E206q⟩ := hQ206
        have N206 := Fr.app N0 N206q
        have O207 : Old Z n0 T206.heap := Old.keep O0 K206 all0
        obtain ⟨_, _, ⟨T208, L208, k208, n208⟩, -, X208, ⟨Lc208, hQ208, l208, y208, z208⟩, st208⟩ := Jvm.LawKit.callS X206 hx (y := my_2) hown (mvT hZ (wq hw 1 rfl)) (mvT hZ (wq hw 2 rfl)) (mvT hZ (wq hw 3 rfl)) (mvT hZ (wq hw 4 rfl)) (by decide) (backOf (W := 0) (rm_val l Z a0 hw [] ca cc hL p2 T206.heap n0 O207) hZ (wq hw 4 rfl) (wq hw 3 rfl) (by decide) (by decide)) (g := (mkF m 54 #[.val (.long z0), .second, .val (.int p1), .val (.int p2), .val (.int p3), .val (.int p4), .val (.long z0), .second, .val (.int (1 : Int32)), .val (.int (0 : Int32)), .val (.ref r206), .unset, .unset, .unset, .unset, .unset, .unset, .unset, .unset, .unset, .unset, .unset, .unset] [(.int p2)])) rfl (by rw [hml]; rfl) (argsL := [(.int p2)]) (rest := []) (lenOf pd_2 rfl) rfl (by show 2 * 0 + _ ≤ _; exact Nat.le_of_eq rfl) (hb hby at_54) (fun _ _ => ⟨rfl, rfl, (by decide : 1 + 1 ≤ _), (by decide : 1 + 1 ≤ _)⟩)
        dsimp only [Pt.U, Pt.locs, Pt.cells, Pt.slots] at X208 l208 y208 z208 st208 hQ208
        have X208 := own_to X208 l208 y208 z208
        obtain ⟨r208, rfl, N208q, K208, E208q⟩ := hQ208
        have N208 := Fr.app N206 N208q
        have O209 : Old Z n0 T208.heap := Old.keep O207 K208 all0
        obtain ⟨_, _, ⟨T210, L210, k210, n210⟩, -, X210, ⟨Lc210, hQ210, l210, y210, z210⟩, st210⟩ := Jvm.LawKit.callS X208 hx (y := my_2) hown (mvT hZ (wq hw 1 rfl)) (mvT hZ (wq hw 2 rfl)) (mvT hZ (wq hw 3 rfl)) (mvT hZ (wq hw 4 rfl)) (by decide) (backOf (W := 0) (rm_val l Z a0 hw [] ca cc hL p3 T208.heap n0 O209) hZ (wq hw 4 rfl) (wq hw 3 rfl) (by decide) (by decide)) (g := (mkF m 61 #[.val (.long z0), .second, .val (.int p1), .val (.int p2), .val (.int p3), .val (.int p4), .val (.long z0), .second, .val (.int (1 : Int32)), .val (.int (0 : Int32)), .val (.ref r206), .val (.ref r208), .unset, .unset, .unset, .unset, .unset, .unset, .unset, .unset, .unset, .unset, .unset] [(.int p3)])) rfl (by rw [hml]; rfl) (argsL := [(.int p3)]) (rest := []) (lenOf pd_2 rfl) rfl (by show 2 * 0 + _ ≤ _; exact Nat.le_of_eq rfl) (hb hby at_61) (fun _ _ => ⟨rfl, rfl, (by decide : 2 + 1 ≤ _), (by decide : 2 + 1 ≤ _)⟩)
        dsimp only [Pt.U, Pt.locs, Pt.cells, Pt.slots] at X210 l210 y210 z210 st210 hQ210
        have X210 := own_to X210 l210 y210 z210
        obtain ⟨r210, rfl, N210q, K210, E210q⟩ := hQ210
        have N210 := Fr.app N208 N210q
        have O211 : Old Z n0 T210.heap := Old.keep O209 K210 all0
        obtain ⟨T212, h212, X212, e212, E212, A212, D212, -, st212⟩ := newO X210 hx hZ hown (wq hw 8 rfl) (wq hw 9 rfl) (wq hw 10 rfl) rfl (g := (mkF m 66 #[.val (.long z0), .second, .val (.int p1), .val (.int p2), .val (.int p3), .val (.int p4), .val (.long z0), .second, .val (.int (1 : Int32)), .val (.int (0 : Int32)), .val (.ref r206), .val (.ref r208), .val (.ref r210), .unset, .unset, .unset, .unset, .unset, .unset, .unset, .unset, .unset, .unset] [])) rfl (hb hby at_66) (by decide) (by decide)
        obtain ⟨b212, gb212⟩ : ∃ z, z = T210.heap.size := ⟨_, rfl⟩
        rw [← gb212] at A212 D212 st212
        have t213 : Exa Z T210.heap r206 nIntege_0 := ((E206q.keep K208).keep K210)
        have ne214 : r206 ≠ b212 := Nat.ne_of_lt (Nat.lt_of_lt_of_le t213.lt (Nat.le_of_eq gb212.symm))
        have t215 : Exa Z T210.heap r208 nIntege_0 := (E208q.keep K210)
        have ne216 : r208 ≠ b212 := Nat.ne_of_lt (Nat.lt_of_lt_of_le t215.lt (Nat.le_of_eq gb212.symm))
        have ne217 : r210 ≠ b212 := Nat.ne_of_lt (Nat.lt_of_lt_of_le E210q.lt (Nat.le_of_eq gb212.symm))
        have g218 : n0 ≤ b212 := Nat.le_trans (Nat.le_of_eq O211.1.symm) (Nat.le_trans O211.2.1 (Nat.le_of_eq gb212.symm))
        have O219 : Old Z n0 h212 := Old.ext O211 E212
        have f220 : Fld Z h212 b212 nConsec_1 "values" "[Ljava/lang/Object;" .null := D212 (Or.inl (wq hw 20 rfl)) (ty := (.array (.object nObject_2))) (by decide)
        have f221 : Fld Z h212 b212 nConsec_1 "first" "J" (.long (0 : Int64)) := D212 (Or.inl (wq hw 22 rfl)) (ty := .long) (by decide)
        have f222 : Fld Z h212 b212 nConsec_1 "size" "I" (.int (0 : Int32)) := D212 (Or.inl (wq hw 29 rfl)) (ty := .int) (by decide)
        have f223 : Fld Z h212 b212 nConsec_1 "head" "I" (.int (0 : Int32)) := D212 (Or.inl (wq hw 31 rfl)) (ty := .int) (by decide)
        obtain ⟨_, _, ⟨T224, L224, k224, n224⟩, -, X224, ⟨Lc224, hQ224, l224, y224, z224⟩, st224⟩ := X212.specialBack hx (y := my_3) rfl hown (mvT hZ (wq hw 11 rfl)) (mvT hZ (wq hw 12 rfl)) (mvT hZ (wq hw 13 rfl)) (by decide) (backOf (W := 1) (rm_rin l Z a0 hw [] b212 z0 h212 n0 O219 g218 A212 f220 f222 f223 f221) hZ (wq hw 13 rfl) (wq hw 10 rfl) (by decide) (by decide)) (g := (mkF m 72 #[.val (.long z0), .second, .val (.int p1), .val (.int p2), .val (.int p3), .val (.int p4), .val (.long z0), .second, .val (.int (1 : Int32)), .val (.int (0 : Int32)), .val (.ref r206), .val (.ref r208), .val (.ref r210), .unset, .unset, .unset, .unset, .unset, .unset, .unset, .unset, .unset, .unset] [(.long z0), (.ref b212), (.ref b212)])) rfl (by rw [hml]; rfl) (Steps.refl _) (a := b212) (argsL := [(.long z0)]) (rest := [(.ref b212)]) (lenOf pd_3 rfl) rfl (by show 2 * 0 + _ ≤ _; exact Nat.le_of_eq rfl) (hb hby at_72) (fun _ _ => ⟨rfl, e212, (by decide : 4 + 1 ≤ _), (by decide : 7 + 16 ≤ _)⟩)
        dsimp only [Pt.U, Pt.locs, Pt.cells, Pt.slots] at X224 l224 y224 z224 st224 hQ224
        have X224 := own_to X224 l224 y224 z224
        obtain ⟨bb224, kk224, rfl, N224q, K224, R224⟩ := hQ224
        have N224 := Fr.app N210 N224q
        have O225 : Old Z n0 T224.heap := Old.keep O219 K224 (allS g218 all0)
        obtain ⟨ER224, FV224, FS224, FH224, FF224, VV224, OV224, ga224, gbb224⟩ := (id R224)
        have t226 : Exa Z T224.heap r206 nIntege_0 := ((t213.ext E212).keep K224)
        obtain ⟨cq227, kq227, q227a, q227b, q227c⟩ := isOf hZ rfl (ER224)
        obtain ⟨_, _, ⟨T227, L227, k227, n227⟩, -, X227, ⟨Lc227, hQ227, l227, y227, z227⟩, st227⟩ := X224.virtualBack hx (y := my_6) (z := my_6) hown (mvT hZ (wq hw 23 rfl)) (mvT hZ (wq hw 24 rfl)) (notFace_of_selects (args := #[]) (mvT hZ (wq hw 26 rfl))) (mvT hZ (wq hw 26 rfl)) (mvT hZ (wq hw 25 rfl)) (by decide) (backOf (W := 0) (rm_add_0_0_NNN l Z a0 hw [] b212 bb224 kk224  z0 T224.heap n0 O225 R224 r206 t226) hZ (wq hw 27 rfl) (wq hw 10 rfl) (by decide) (by decide)) q227a q227c (g := (mkF m 86 #[.val (.long z0), .second, .val (.int p1), .val (.int p2), .val (.int p3), .val (.int p4), .val (.long z0), .second, .val (.int (1 : Int32)), .val (.int (0 : Int32)), .val (.ref r206), .val (.ref r208), .val (.ref r210), .val (.ref b212), .unset, .unset, .unset, .unset, .unset, .unset, .unset, .unset, .unset] [(.ref r206), (.ref b212)])) rfl (by rw [hml]; rfl) (Steps.refl _) (argsL := [(.ref r206)]) (rest := []) (lenOf pd_4 rfl) rfl (by show 2 * 0 + _ ≤ _; exact Nat.le_of_eq rfl) (hb hby at_86) (fun _ _ => ⟨rfl, rfl, (by decide : 5 + 0 ≤ _), (by decide : 23 + 0 ≤ _)⟩)
        dsimp only [Pt.U, Pt.locs, Pt.cells, Pt.slots] at X227 l227 y227 z227 st227 hQ227
        have X227 := own_to X227 l227 y227 z227
        obtain ⟨rfl, N227q, K227, R227⟩ := hQ227
        have N227 := Fr.app N224 N227q
        have O228 : Old Z n0 T227.heap := Old.keep O225 K227 (allS g218 (allS gbb224 all0))
        have ER227 := R227.1
        have t229 : Exa Z T227.heap r208 nIntege_0 := (((t215.ext E212).keep K224).keep K227)
        obtain ⟨cq230, kq230, q230a, q230b, q230c⟩ := isOf hZ rfl (ER227)
        obtain ⟨_, _, ⟨T230, L230, k230, n230⟩, -, X230, ⟨Lc230, hQ230, l230, y230, z230⟩, st230⟩ := X227.virtualBack hx (y := my_6) (z := my_6) hown (mvT hZ (wq hw 23 rfl)) (mvT hZ (wq hw 24 rfl)) (notFace_of_selects (args := #[]) (mvT hZ (wq hw 26 rfl))) (mvT hZ (wq hw 26 rfl)) (mvT hZ (wq hw 25 rfl)) (by decide) (backOf (W := 0) (rm_add_1_0_RNN l Z a0 hw [] b212 bb224 kk224 r206 z0 T227.heap n0 O228 R227 r208 t229) hZ (wq hw 27 rfl) (wq hw 10 rfl) (by decide) (by decide)) q230a q230c (g := (mkF m 93 #[.val (.long z0), .second, .val (.int p1), .val (.int p2), .val (.int p3), .val (.int p4), .val (.long z0), .second, .val (.int (1 : Int32)), .val (.int (0 : Int32)), .val (.ref r206), .val (.ref r208), .val (.ref r210), .val (.ref b212), .unset, .unset, .unset, .unset, .unset, .unset, .unset, .unset, .unset] [(.ref r208), (.ref b212)])) rfl (by rw [hml]; rfl) (Steps.refl _) (argsL := [(.ref r208)]) (rest := []) (lenOf pd_4 rfl) rfl (by show 2 * 0 + _ ≤ _; exact Nat.le_of_eq rfl) (hb hby at_93) (fun _ _ => ⟨rfl, rfl, (by decide : 5 + 0 ≤ _), (by decide : 23 + 0 ≤ _)⟩)
        dsimp only [Pt.U, Pt.locs, Pt.cells, Pt.slots] at X230 l230 y230 z230 st230 hQ230
        have X230 := own_to X230 l230 y230 z230
        obtain ⟨rfl, N230q, K230, R230⟩ := hQ230
        have N230 := Fr.app N227 N230q
        have O231 : Old Z n0 T230.heap := Old.keep O228 K230 (allS g218 (allS gbb224 all0))
        have ER230 := R230.1
        have t232 : Exa Z T230.heap r210 nIntege_0 := ((((E210q.ext E212).keep K224).keep K227).keep K230)
        obtain ⟨cq233, kq233, q233a, q233b, q233c⟩ := isOf hZ rfl (ER230)
        obtain ⟨_, _, ⟨T233, L233, k233, n233⟩, -, X233, ⟨Lc233, hQ233, l233, y233, z233⟩, st233⟩ := X230.virtualBack hx (y := my_6) (z := my_6) hown (mvT hZ (wq hw 23 rfl)) (mvT hZ (wq hw 24 rfl)) (notFace_of_selects (args := #[]) (mvT hZ (wq hw 26 rfl))) (mvT hZ (wq hw 26 rfl)) (mvT hZ (wq hw 25 rfl)) (by decide) (backOf (W := 0) (rm_add_2_0_RRN l Z a0 hw [] b212 bb224 kk224 r206 r208 z0 T230.heap n0 O231 R230 r210 t232) hZ (wq hw 27 rfl) (wq hw 10 rfl) (by decide) (by decide)) q233a q233c (g := (mkF m 111 #[.val (.long z0), .second, .val (.int p1), .val (.int p2), .val (.int p3), .val (.int p4), .val (.long z0), .second, .val (.int (1 : Int32)), .val (.int (0 : Int32)), .val (.ref r206), .val (.ref r208), .val (.ref r210), .val (.ref b212), .unset, .unset, .unset, .unset, .unset, .unset, .unset, .unset, .unset] [(.ref r210), (.ref b212)])) rfl (by rw [hml]; rfl) (Steps.refl _) (argsL := [(.ref r210)]) (rest := []) (lenOf pd_4 rfl) rfl (by show 2 * 0 + _ ≤ _; exact Nat.le_of_eq rfl) (hb hby at_111) (fun _ _ => ⟨rfl, rfl, (by decide : 5 + 0 ≤ _), (by decide : 23 + 0 ≤ _)⟩)
        dsimp only [Pt.U, Pt.locs, Pt.cells, Pt.slots] at X233 l233 y233 z233 st233 hQ233
        have X233 := own_to X233 l233 y233 z233
        obtain ⟨rfl, N233q, K233, R233⟩ := hQ233
        have N233 := Fr.app N230 N233q
        have O234 : Old Z n0 T233.heap := Old.keep O231 K233 (allS g218 (allS gbb224 all0))
        have ER233 := R233.1
        obtain ⟨cq235, kq235, q235a, q235b, q235c⟩ := isOf hZ rfl (ER233)
        obtain ⟨_, _, ⟨T235, L235, k235, n235⟩, -, X235, ⟨Lc235, hQ235, l235, y235, z235⟩, st235⟩ := X233.virtualBack hx (y := my_4) (z := my_4) hown (mvT hZ (wq hw 49 rfl)) (mvT hZ (wq hw 50 rfl)) (notFace_of_selects (args := #[]) (mvT hZ (wq hw 52 rfl))) (mvT hZ (wq hw 52 rfl)) (mvT hZ (wq hw 51 rfl)) (by decide) (backOf (W := 0) (rm_siz l Z a0 hw [] b212 (3 : Int32) T233.heap n0 R233.2.2.1) hZ (wq hw 53 rfl) (wq hw 10 rfl) (by decide) (by decide)) q235a q235c (g := (mkF m 199 #[.val (.long z0), .second, .val (.int p1), .val (.int p2), .val (.int p3), .val (.int p4), .val (.long z0), .second, .val (.int (1 : Int32)), .val (.int (0 : Int32)), .val (.ref r206), .val (.ref r208), .val (.ref r210), .val (.ref b212), .val (.int (3 : Int32)), .val (.long (z0 + (0 : Int64))), .second, .val (.long (z0 + (2 : Int64))), .second, .val (.long ((z0 + (2 : Int64)) - (1 : Int64))), .second, .val (.ref r208), .unset] [(.ref b212)])) rfl (by rw [hml]; rfl) (Steps.refl _) (argsL := []) (rest := []) (lenOf pd_5 rfl) rfl (by show 2 * 0 + _ ≤ _; exact Nat.le_of_eq rfl) (hb hby at_199) (fun _ _ => ⟨rfl, rfl, (by decide : 5 + 0 ≤ _), (by decide : 23 + 0 ≤ _)⟩)
        dsimp only [Pt.U, Pt.locs, Pt.cells, Pt.slots] at X235 l235 y235 z235 st235 hQ235
        have X235 := own_to X235 l235 y235 z235
        obtain ⟨rfl, N235q, e235⟩ := hQ235
        have N235 := Fr.app N233 N235q
        obtain ⟨cq236, kq236, q236a, q236b, q236c⟩ := isOf hZ e235 (ER233)
        obtain ⟨_, _, ⟨T236, L236, k236, n236⟩, -, X236, ⟨Lc236, hQ236, l236, y236, z236⟩, st236⟩ := X235.virtualBack hx (y := my_5) (z := my_5) hown (mvT hZ (wq hw 54 rfl)) (mvT hZ (wq hw 55 rfl)) (notFace_of_selects (args := #[]) (mvT hZ (wq hw 57 rfl))) (mvT hZ (wq hw 57 rfl)) (mvT hZ (wq hw 56 rfl)) (by decide) (backOf (W := 0) (rm_fnu l Z a0 hw [] b212 z0 T233.heap n0 R233.2.2.2.2.1) hZ (wq hw 58 rfl) (wq hw 10 rfl) (by decide) (by decide)) q236a q236c (g := (mkF m 221 #[.val (.long z0), .second, .val (.int p1), .val (.int p2), .val (.int p3), .val (.int p4), .val (.long z0), .second, .val (.int (1 : Int32)), .val (.int (0 : Int32)), .val (.ref r206), .val (.ref r208), .val (.ref r210), .val (.ref b212), .val (.int (3 : Int32)), .val (.long (z0 + (0 : Int64))), .second, .val (.long (z0 + (2 : Int64))), .second, .val (.long ((z0 + (2 : Int64)) - (1 : Int64))), .second, .val (.ref r208), .val (.int (1 : Int32))] [(.ref b212)])) rfl (by rw [hml]; rfl) (Steps.refl _) (argsL := []) (rest := []) (lenOf pd_6 rfl) rfl (by show 2 * 0 + _ ≤ _; exact Nat.le_of_eq rfl) (hb hby at_221) (fun _ _ => ⟨rfl, e235, (by decide : 5 + 0 ≤ _), (by decide : 23 + 0 ≤ _)⟩)
        dsimp only [Pt.U, Pt.locs, Pt.cells, Pt.slots] at X236 l236 y236 z236 st236 hQ236
        have X236 := own_to X236 l236 y236 z236
        obtain ⟨rfl, N236q, e236⟩ := hQ236
        have N236 := Fr.app N235 N236q
        have he246 : (z0 + (2 : Int64)) = (z0 + (2 : Int64)) := rfl
        have hg246 : (z0 + (0 : Int64)) = z0 := (own_f0 _)
        obtain ⟨cq237, kq237, q237a, q237b, q237c⟩ := isOf hZ e236 (ER233)
        obtain ⟨_, _, ⟨T237, L237, k237, n237⟩, -, X237, ⟨Lc237, hQ237, l237, y237, z237⟩, st237⟩ := X236.virtualBack hx (y := my_7) (z := my_7) hown (mvT hZ (wq hw 59 rfl)) (mvT hZ (wq hw 44 rfl)) (notFace_of_selects (args := #[]) (mvT hZ (wq hw 46 rfl))) (mvT hZ (wq hw 46 rfl)) (mvT hZ (wq hw 45 rfl)) (by decide) (backOf (W := 0) (rm_get_3_0_RRR_2 l Z a0 hw [] b212 bb224 kk224 r206 r208 r210 z0 T233.heap n0 O234 R233 (z0 + (2 : Int64)) (own_ge2 he246 hg246 hf (by decide) (by decide)) (own_sub2 he246 hg246 (by decide))) hZ (wq hw 47 rfl) (wq hw 10 rfl) (by decide) (by decide)) q237a q237c (g := (mkF m 246 #[.val (.long z0), .second, .val (.int p1), .val (.int p2), .val (.int p3), .val (.int p4), .val (.long z0), .second, .val (.int (1 : Int32)), .val (.int (0 : Int32)), .val (.ref r206), .val (.ref r208), .val (.ref r210), .val (.ref b212), .val (.int (3 : Int32)), .val (.long (z0 + (0 : Int64))), .second, .val (.long (z0 + (2 : Int64))), .second, .val (.long ((z0 + (2 : Int64)) - (1 : Int64))), .second, .val (.ref r208), .val (.int (1 : Int32))] [(.long (z0 + (2 : Int64))), (.ref b212)])) rfl (by rw [hml]; rfl) (Steps.refl _) (argsL := [(.long (z0 + (2 : Int64)))]) (rest := []) (lenOf pd_7 rfl) rfl (by show 2 * 0 + _ ≤ _; exact Nat.le_of_eq rfl) (hb hby at_246) (fun _ _ => ⟨rfl, e236, (by decide : 5 + 0 ≤ _), (by decide : 23 + 0 ≤ _)⟩)
        dsimp only [Pt.U, Pt.locs, Pt.cells, Pt.slots] at X237 l237 y237 z237 st237 hQ237
        have X237 := own_to X237 l237 y237 z237
        obtain ⟨rfl, N237q, e237⟩ := hQ237
        have N237 := Fr.app N236 N237q
        have he270 : ((z0 + (2 : Int64)) - (1 : Int64)) = (z0 + (1 : Int64)) := (own_f1 _ _ _ _ (by decide))
        have hg270 : (z0 + (0 : Int64)) = z0 := (own_f0 _)
        obtain ⟨cq238, kq238, q238a, q238b, q238c⟩ := isOf hZ e237 (ER233)
        obtain ⟨_, _, ⟨T238, L238, k238, n238⟩, -, X238, ⟨Lc238, hQ238, l238, y238, z238⟩, st238⟩ := X237.virtualBack hx (y := my_7) (z := my_7) hown (mvT hZ (wq hw 59 rfl)) (mvT hZ (wq hw 44 rfl)) (notFace_of_selects (args := #[]) (mvT hZ (wq hw 46 rfl))) (mvT hZ (wq hw 46 rfl)) (mvT hZ (wq hw 45 rfl)) (by decide) (backOf (W := 0) (rm_get_3_0_RRR_1 l Z a0 hw [] b212 bb224 kk224 r206 r208 r210 z0 T233.heap n0 O234 R233 ((z0 + (2 : Int64)) - (1 : Int64)) (own_ge2 he270 hg270 hf (by decide) (by decide)) (own_sub2 he270 hg270 (by decide))) hZ (wq hw 47 rfl) (wq hw 10 rfl) (by decide) (by decide)) q238a q238c (g := (mkF m 270 #[.val (.long z0), .second, .val (.int p1), .val (.int p2), .val (.int p3), .val (.int p4), .val (.long z0), .second, .val (.int (1 : Int32)), .val (.int (0 : Int32)), .val (.ref r206), .val (.ref r208), .val (.ref r210), .val (.ref b212), .val (.int (3 : Int32)), .val (.long (z0 + (0 : Int64))), .second, .val (.long (z0 + (2 : Int64))), .second, .val (.long ((z0 + (2 : Int64)) - (1 : Int64))), .second, .val (.ref r208), .val (.int (1 : Int32))] [(.long ((z0 + (2 : Int64)) - (1 : Int64))), (.ref b212)])) rfl (by rw [hml]; rfl) (Steps.refl _) (argsL := [(.long ((z0 + (2 : Int64)) - (1 : Int64)))]) (rest := []) (lenOf pd_7 rfl) rfl (by show 2 * 0 + _ ≤ _; exact Nat.le_of_eq rfl) (hb hby at_270) (fun _ _ => ⟨rfl, e237, (by decide : 5 + 0 ≤ _), (by decide : 23 + 0 ≤ _)⟩)
        dsimp only [Pt.U, Pt.locs, Pt.cells, Pt.slots] at X238 l238 y238 z238 st238 hQ238
        have X238 := own_to X238 l238 y238 z238
        obtain ⟨rfl, N238q, e238⟩ := hQ238
        have N238 := Fr.app N237 N238q
        have he296 : ((z0 + (2 : Int64)) + (1 : Int64)) = (z0 + (3 : Int64)) := (own_f2 _ _ _ _ (by decide))
        have hg296 : (z0 + (0 : Int64)) = z0 := (own_f0 _)
        obtain ⟨cq239, kq239, q239a, q239b, q239c⟩ := isOf hZ e238 (ER233)
        obtain ⟨_, _, ⟨T239, L239, k239, n239⟩, -, X239, ⟨Lc239, hQ239, l239, y239, z239⟩, st239⟩ := X238.virtualBack hx (y := my_7) (z := my_7) hown (mvT hZ (wq hw 59 rfl)) (mvT hZ (wq hw 44 rfl)) (notFace_of_selects (args := #[]) (mvT hZ (wq hw 46 rfl))) (mvT hZ (wq hw 46 rfl)) (mvT hZ (wq hw 45 rfl)) (by decide) (backOf (W := 0) (rm_get_3_0_RRR_hi l Z a0 hw [] b212 bb224 kk224 r206 r208 r210 z0 T233.heap n0 O234 R233 ((z0 + (2 : Int64)) + (1 : Int64)) (own_ge2 he296 hg296 hf (by decide) (by decide)) (own_sub2 he296 hg296 (by decide))) hZ (wq hw 47 rfl) (wq hw 10 rfl) (by decide) (by decide)) q239a q239c (g := (mkF m 296 #[.val (.long z0), .second, .val (.int p1), .val (.int p2), .val (.int p3), .val (.int p4), .val (.long z0), .second, .val (.int (1 : Int32)), .val (.int (0 : Int32)), .val (.ref r206), .val (.ref r208), .val (.ref r210), .val (.ref b212), .val (.int (3 : Int32)), .val (.long (z0 + (0 : Int64))), .second, .val (.long (z0 + (2 : Int64))), .second, .val (.long ((z0 + (2 : Int64)) - (1 : Int64))), .second, .val (.ref r208), .val (.int (1 : Int32))] [(.long ((z0 + (2 : Int64)) + (1 : Int64))), (.ref b212)])) rfl (by rw [hml]; rfl) (Steps.refl _) (argsL := [(.long ((z0 + (2 : Int64)) + (1 : Int64)))]) (rest := []) (lenOf pd_7 rfl) rfl (by show 2 * 0 + _ ≤ _; exact Nat.le_of_eq rfl) (hb hby at_296) (fun _ _ => ⟨rfl, e238, (by decide : 5 + 0 ≤ _), (by decide : 23 + 0 ≤ _)⟩)
        dsimp only [Pt.U, Pt.locs, Pt.cells, Pt.slots] at X239 l239 y239 z239 st239 hQ239
        have X239 := own_to X239 l239 y239 z239
        obtain ⟨rfl, N239q, e239⟩ := hQ239
        have N239 := Fr.app N238 N239q
        obtain ⟨fs, hr, hrun, hended, hW, hsame⟩ := X239.leave (v := (some (.int (1 : Int32)))) (fun h => by rw [Bd.returns] at h; cases h)
        refine ⟨_, _, gp205 _ ?_, hrun, hended, _, _, rfl, ?_, ⟨_, rfl⟩, hW, hsame.mono (by decide) (by decide)⟩
        · refine XS.ifYes X0.here hx rfl (pc0 := 37) (pc' := 44) rfl (hb hby at_37) rfl ((if0 _ _).trans (teq hc37).1) (by decide) (by decide) ?_
          refine XS.iconst X0.here hx rfl (hb hby at_44) ?_
          show Steps p.tables e below (s₁.setTop (mkF m 45 #[.val (.long z0), .second, .val (.int p1), .val (.int p2), .val (.int p3), .val (.int p4), .val (.long z0), .second, .val (.int (1 : Int32)), .unset, .unset, .unset, .unset, .unset, .unset, .unset, .unset, .unset, .unset, .unset, .unset, .unset, .unset] [(.int (0 : Int32))])) _
          refine XS.istore X0.here hx rfl (hb hby at_45) rfl (l' := #[.val (.long z0), .second, .val (.int p1), .val (.int p2), .val (.int p3), .val (.int p4), .val (.long z0), .second, .val (.int (1 : Int32)), .val (.int (0 : Int32)), .unset, .unset, .unset, .unset, .unset, .unset, .unset, .unset, .unset, .unset, .unset, .unset, .unset]) rfl ?_
          refine XS.iloadN X0.here hx rfl (hb hby at_47) rfl ?_
          refine st206 _ ?_
          refine XS.astore X206.here hx rfl (hb hby at_51) rfl rfl (l' := #[.val (.long z0), .second, .val (.int p1), .val (.int p2), .val (.int p3), .val (.int p4), .val (.long z0), .second, .val (.int (1 : Int32)), .val (.int (0 : Int32)), .val (.ref r206), .unset, .unset, .unset, .unset, .unset, .unset, .unset, .unset, .unset, .unset, .unset, .unset]) rfl ?_
          refine XS.iloadN X206.here hx rfl (hb hby at_53) rfl ?_
          refine st208 _ ?_
          show Steps p.tables e below (T208.setTop (mkF m 57 #[.val (.long z0), .second, .val (.int p1), .val (.int p2), .val (.int p3), .val (.int p4), .val (.long z0), .second, .val (.int (1 : Int32)), .val (.int (0 : Int32)), .val (.ref r206), .unset, .unset, .unset, .unset, .unset, .unset, .unset, .unset, .unset, .unset, .unset, .unset] [(.ref r208)])) _
          refine XS.astore X208.here hx rfl (hb hby at_57) rfl rfl (l' := #[.val (.long z0), .second, .val (.int p1), .val (.int p2), .val (.int p3), .val (.int p4), .val (.long z0), .second, .val (.int (1 : Int32)), .val (.int (0 : Int32)), .val (.ref r206), .val (.ref r208), .unset, .unset, .unset, .unset, .unset, .unset, .unset, .unset, .unset, .unset, .unset]) rfl ?_
          refine XS.iload X208.here hx rfl (hb hby at_59) rfl ?_
          refine st210 _ ?_
          refine XS.astore X210.here hx rfl (hb hby at_64) rfl rfl (l' := #[.val (.long z0), .second, .val (.int p1), .val (.int p2), .val (.int p3), .val (.int p4), .val (.long z0), .second, .val (.int (1 : Int32)), .val (.int (0 : Int32)), .val (.ref r206), .val (.ref r208), .val (.ref r210), .unset, .unset, .unset, .unset, .unset, .unset, .unset, .unset, .unset, .unset]) rfl ?_
          refine st212 _ ?_
          refine XS.dup X212.here hx rfl (hb hby at_69) rfl rfl ?_
          show Steps p.tables e below (T212.setTop (mkF m 70 #[.val (.long z0), .second, .val (.int p1), .val (.int p2), .val (.int p3), .val (.int p4), .val (.long z0), .second, .val (.int (1 : Int32)), .val (.int (0 : Int32)), .val (.ref r206), .val (.ref r208), .val (.ref r210), .unset, .unset, .unset, .unset, .unset, .unset, .unset, .unset, .unset, .unset] [(.ref b212), (.ref b212)])) _
          refine XS.lload X212.here hx rfl (hb hby at_70) rfl ?_
          refine st224.trans ?_
          refine XS.astore X224.here hx rfl (hb hby at_75) rfl rfl (l' := #[.val (.long z0), .second, .val (.int p1), .val (.int p2), .val (.int p3), .val (.int p4), .val (.long z0), .second, .val (.int (1 : Int32)), .val (.int (0 : Int32)), .val (.ref r206), .val (.ref r208), .val (.ref r210), .val (.ref b212), .unset, .unset, .unset, .unset, .unset, .unset, .unset, .unset, .unset]) rfl ?_
          refine XS.iload X224.here hx rfl (hb hby at_77) rfl ?_
          refine XS.ifNo X224.here hx rfl (hb hby at_79) rfl ((if0 _ _).trans (feq (by decide : ¬ ((1 : Int32) = (0 : Int32)))).1) ?_
          refine XS.aload X224.here hx rfl (hb hby at_82) rfl rfl ?_
          show Steps p.tables e below (T224.setTop (mkF m 84 #[.val (.long z0), .second, .val (.int p1), .val (.int p2), .val (.int p3), .val (.int p4), .val (.long z0), .second, .val (.int (1 : Int32)), .val (.int (0 : Int32)), .val (.ref r206), .val (.ref r208), .val (.ref r210), .val (.ref b212), .unset, .unset, .unset, .unset, .unset, .unset, .unset, .unset, .unset] [(.ref b212)])) _
          refine XS.aload X224.here hx rfl (hb hby at_84) rfl rfl ?_
          refine st227.trans ?_
          refine XS.aload X227.here hx rfl (hb hby at_89) rfl rfl ?_
          refine XS.aload X227.here hx rfl (hb hby at_91) rfl rfl ?_
          refine st230.trans ?_
          refine XS.iload X230.here hx rfl (hb hby at_96) rfl ?_
          show Steps p.tables e below (T230.setTop (mkF m 98 #[.val (.long z0), .second, .val (.int p1), .val (.int p2), .val (.int p3), .val (.int p4), .val (.long z0), .second, .val (.int (1 : Int32)), .val (.int (0 : Int32)), .val (.ref r206), .val (.ref r208), .val (.ref r210), .val (.ref b212), .unset, .unset, .unset, .unset, .unset, .unset, .unset, .unset, .unset] [(.int (0 : Int32))])) _
          refine XS.ifYes X230.here hx rfl (pc0 := 98) (pc' := 107) rfl (hb hby at_98) rfl ((if0 _ _).trans (teq (by decide : (0 : Int32) = (0 : Int32))).1) (by decide) (by decide) ?_
          refine XS.aload X230.here hx rfl (hb hby at_107) rfl rfl ?_
          refine XS.aload X230.here hx rfl (hb hby at_109) rfl rfl ?_
          refine st233.trans ?_
          refine XS.iload X233.here hx rfl (hb hby at_114) rfl ?_
          refine XS.ifNo X233.here hx rfl (hb hby at_116) rfl ((if0 _ _).trans (feq (by decide : ¬ ((1 : Int32) = (0 : Int32)))).1) ?_
          show Steps p.tables e below (T233.setTop (mkF m 119 #[.val (.long z0), .second, .val (.int p1), .val (.int p2), .val (.int p3), .val (.int p4), .val (.long z0), .second, .val (.int (1 : Int32)), .val (.int (0 : Int32)), .val (.ref r206), .val (.ref r208), .val (.ref r210), .val (.ref b212), .unset, .unset, .unset, .unset, .unset, .unset, .unset, .unset, .unset] [])) _
          refine XS.iconst X233.here hx rfl (hb hby at_119) ?_
          refine XS.goto X233.here hx rfl (pc0 := 120) (pc' := 124) rfl (hb hby at_120) (by decide) (by decide) ?_
          refine XS.iconst X233.here hx rfl (hb hby at_124) ?_
          refine XS.iadd X233.here hx rfl (hb hby at_125) rfl ?_
          show Steps p.tables e below (T233.setTop (mkF m 126 #[.val (.long z0), .second, .val (.int p1), .val (.int p2), .val (.int p3), .val (.int p4), .val (.long z0), .second, .val (.int (1 : Int32)), .val (.int (0 : Int32)), .val (.ref r206), .val (.ref r208), .val (.ref r210), .val (.ref b212), .unset, .unset, .unset, .unset, .unset, .unset, .unset, .unset, .unset] [(.int (2 : Int32))])) _
          refine XS.iload X233.here hx rfl (hb hby at_126) rfl ?_
          refine XS.ifYes X233.here hx rfl (pc0 := 128) (pc' := 135) rfl (hb hby at_128) rfl ((if0 _ _).trans (teq (by decide : (0 : Int32) = (0 : Int32))).1) (by decide) (by decide) ?_
          show Steps p.tables e below (T233.setTop (mkF m 135 #[.val (.long z0), .second, .val (.int p1), .val (.int p2), .val (.int p3), .val (.int p4), .val (.long z0), .second, .val (.int (1 : Int32)), .val (.int (0 : Int32)), .val (.ref r206), .val (.ref r208), .val (.ref r210), .val (.ref b212), .unset, .unset, .unset, .unset, .unset, .unset, .unset, .unset, .unset] [(.int (2 : Int32))])) _
          refine XS.iconst X233.here hx rfl (hb hby at_135) ?_
          refine XS.isub X233.here hx rfl (hb hby at_136) rfl ?_
          show Steps p.tables e below (T233.setTop (mkF m 137 #[.val (.long z0), .second, .val (.int p1), .val (.int p2), .val (.int p3), .val (.int p4), .val (.long z0), .second, .val (.int (1 : Int32)), .val (.int (0 : Int32)), .val (.ref r206), .val (.ref r208), .val (.ref r210), .val (.ref b212), .unset, .unset, .unset, .unset, .unset, .unset, .unset, .unset, .unset] [(.int (2 : Int32))])) _
          refine XS.iconst X233.here hx rfl (hb hby at_137) ?_
          refine XS.iadd X233.here hx rfl (hb hby at_138) rfl ?_
          show Steps p.tables e below (T233.setTop (mkF m 139 #[.val (.long z0), .second, .val (.int p1), .val (.int p2), .val (.int p3), .val (.int p4), .val (.long z0), .second, .val (.int (1 : Int32)), .val (.int (0 : Int32)), .val (.ref r206), .val (.ref r208), .val (.ref r210), .val (.ref b212), .unset, .unset, .unset, .unset, .unset, .unset, .unset, .unset, .unset] [(.int (3 : Int32))])) _
          refine XS.istore X233.here hx rfl (hb hby at_139) rfl (l' := #[.val (.long z0), .second, .val (.int p1), .val (.int p2), .val (.int p3), .val (.int p4), .val (.long z0), .second, .val (.int (1 : Int32)), .val (.int (0 : Int32)), .val (.ref r206), .val (.ref r208), .val (.ref r210), .val (.ref b212), .val (.int (3 : Int32)), .unset, .unset, .unset, .unset, .unset, .unset, .unset, .unset]) rfl ?_
          refine XS.lload X233.here hx rfl (hb hby at_141) rfl ?_
          show Steps p.tables e below (T233.setTop (mkF m 143 #[.val (.long z0), .second, .val (.int p1), .val (.int p2), .val (.int p3), .val (.int p4), .val (.long z0), .second, .val (.int (1 : Int32)), .val (.int (0 : Int32)), .val (.ref r206), .val (.ref r208), .val (.ref r210), .val (.ref b212), .val (.int (3 : Int32)), .unset, .unset, .unset, .unset, .unset, .unset, .unset, .unset] [(.long z0)])) _
          refine XS.iload X233.here hx rfl (hb hby at_143) rfl ?_
          refine XS.ifYes X233.here hx rfl (pc0 := 145) (pc' := 152) rfl (hb hby at_145) rfl ((if0 _ _).trans (teq (by decide : (0 : Int32) = (0 : Int32))).1) (by decide) (by decide) ?_
          refine XS.lconst X233.here hx rfl (hb hby at_152) ?_
          refine XS.ladd X233.here hx rfl (hb hby at_153) rfl ?_
          refine XS.lstore X233.here hx rfl (hb hby at_154) rfl (l' := #[.val (.long z0), .second, .val (.int p1), .val (.int p2), .val (.int p3), .val (.int p4), .val (.long z0), .second, .val (.int (1 : Int32)), .val (.int (0 : Int32)), .val (.ref r206), .val (.ref r208), .val (.ref r210), .val (.ref b212), .val (.int (3 : Int32)), .val (.long (z0 + (0 : Int64))), .second, .unset, .unset, .unset, .unset, .unset, .unset]) rfl ?_
          refine XS.lload X233.here hx rfl (hb hby at_156) rfl ?_
          show Steps p.tables e below (T233.setTop (mkF m 158 #[.val (.long z0), .second, .val (.int p1), .val (.int p2), .val (.int p3), .val (.int p4), .val (.long z0), .second, .val (.int (1 : Int32)), .val (.int (0 : Int32)), .val (.ref r206), .val (.ref r208), .val (.ref r210), .val (.ref b212), .val (.int (3 : Int32)), .val (.long (z0 + (0 : Int64))), .second, .unset, .unset, .unset, .unset, .unset, .unset] [(.long z0)])) _
          refine XS.iload X233.here hx rfl (hb hby at_158) rfl ?_
          refine XS.ifNo X233.here hx rfl (hb hby at_160) rfl ((if0 _ _).trans (feq (by decide : ¬ ((1 : Int32) = (0 : Int32)))).1) ?_
          refine X233.ldc2Long hx hown (mvT hZ (wq hw 48 rfl)) (g := (mkF m 163 #[.val (.long z0), .second, .val (.int p1), .val (.int p2), .val (.int p3), .val (.int p4), .val (.long z0), .second, .val (.int (1 : Int32)), .val (.int (0 : Int32)), .val (.ref r206), .val (.ref r208), .val (.ref r210), .val (.ref b212), .val (.int (3 : Int32)), .val (.long (z0 + (0 : Int64))), .second, .unset, .unset, .unset, .unset, .unset, .unset] [(.long z0)])) rfl (hb hby at_163) _ ?_
          refine XS.goto X233.here hx rfl (pc0 := 166) (pc' := 170) rfl (hb hby at_166) (by decide) (by decide) ?_
          refine XS.ladd X233.here hx rfl (hb hby at_170) rfl ?_
          refine XS.lstore X233.here hx rfl (hb hby at_171) rfl (l' := #[.val (.long z0), .second, .val (.int p1), .val (.int p2), .val (.int p3), .val (.int p4), .val (.long z0), .second, .val (.int (1 : Int32)), .val (.int (0 : Int32)), .val (.ref r206), .val (.ref r208), .val (.ref r210), .val (.ref b212), .val (.int (3 : Int32)), .val (.long (z0 + (0 : Int64))), .second, .val (.long (z0 + (2 : Int64))), .second, .unset, .unset, .unset, .unset]) rfl ?_
          show Steps p.tables e below (T233.setTop (mkF m 173 #[.val (.long z0), .second, .val (.int p1), .val (.int p2), .val (.int p3), .val (.int p4), .val (.long z0), .second, .val (.int (1 : Int32)), .val (.int (0 : Int32)), .val (.ref r206), .val (.ref r208), .val (.ref r210), .val (.ref b212), .val (.int (3 : Int32)), .val (.long (z0 + (0 : Int64))), .second, .val (.long (z0 + (2 : Int64))), .second, .unset, .unset, .unset, .unset] [])) _
          refine XS.lload X233.here hx rfl (hb hby at_173) rfl ?_
          refine XS.lconst X233.here hx rfl (hb hby at_175) ?_
          refine XS.lsub X233.here hx rfl (hb hby at_176) rfl ?_
          refine XS.lstore X233.here hx rfl (hb hby at_177) rfl (l' := #[.val (.long z0), .second, .val (.int p1), .val (.int p2), .val (.int p3), .val (.int p4), .val (.long z0), .second, .val (.int (1 : Int32)), .val (.int (0 : Int32)), .val (.ref r206), .val (.ref r208), .val (.ref r210), .val (.ref b212), .val (.int (3 : Int32)), .val (.long (z0 + (0 : Int64))), .second, .val (.long (z0 + (2 : Int64))), .second, .val (.long ((z0 + (2 : Int64)) - (1 : Int64))), .second, .unset, .unset]) rfl ?_
          refine XS.iload X233.here hx rfl (hb hby at_179) rfl ?_
          refine XS.ifYes X233.here hx rfl (pc0 := 181) (pc' := 193) rfl (hb hby at_181) rfl ((if0 _ _).trans (teq (by decide : (0 : Int32) = (0 : Int32))).1) (by decide) (by decide) ?_
          show Steps p.tables e below (T233.setTop (mkF m 193 #[.val (.long z0), .second, .val (.int p1), .val (.int p2), .val (.int p3), .val (.int p4), .val (.long z0), .second, .val (.int (1 : Int32)), .val (.int (0 : Int32)), .val (.ref r206), .val (.ref r208), .val (.ref r210), .val (.ref b212), .val (.int (3 : Int32)), .val (.long (z0 + (0 : Int64))), .second, .val (.long (z0 + (2 : Int64))), .second, .val (.long ((z0 + (2 : Int64)) - (1 : Int64))), .second, .unset, .unset] [])) _
          refine XS.aload X233.here hx rfl (hb hby at_193) rfl rfl ?_
          refine XS.astore X233.here hx rfl (hb hby at_195) rfl rfl (l' := #[.val (.long z0), .second, .val (.int p1), .val (.int p2), .val (.int p3), .val (.int p4), .val (.long z0), .second, .val (.int (1 : Int32)), .val (.int (0 : Int32)), .val (.ref r206), .val (.ref r208), .val (.ref r210), .val (.ref b212), .val (.int (3 : Int32)), .val (.long (z0 + (0 : Int64))), .second, .val (.long (z0 + (2 : Int64))), .second, .val (.long ((z0 + (2 : Int64)) - (1 : Int64))), .second, .val (.ref r208), .unset]) rfl ?_
          refine XS.aload X233.here hx rfl (hb hby at_197) rfl rfl ?_
          refine st235.trans ?_
          refine XS.iload X235.here hx rfl (hb hby at_202) rfl ?_
          refine XS.icmpNo X235.here hx rfl (hb hby at_204) rfl (teq (by decide : (3 : Int32) = (3 : Int32))).2 ?_
          show Steps p.tables e below (T235.setTop (mkF m 207 #[.val (.long z0), .second, .val (.int p1), .val (.int p2), .val (.int p3), .val (.int p4), .val (.long z0), .second, .val (.int (1 : Int32)), .val (.int (0 : Int32)), .val (.ref r206), .val (.ref r208), .val (.ref r210), .val (.ref b212), .val (.int (3 : Int32)), .val (.long (z0 + (0 : Int64))), .second, .val (.long (z0 + (2 : Int64))), .second, .val (.long ((z0 + (2 : Int64)) - (1 : Int64))), .second, .val (.ref r208), .unset] [])) _
          refine XS.iconst X235.here hx rfl (hb hby at_207) ?_
          refine XS.goto X235.here hx rfl (pc0 := 208) (pc' := 212) rfl (hb hby at_208) (by decide) (by decide) ?_
          refine XS.istore X235.here hx rfl (hb hby at_212) rfl (l' := #[.val (.long z0), .second, .val (.int p1), .val (.int p2), .val (.int p3), .val (.int p4), .val (.long z0), .second, .val (.int (1 : Int32)), .val (.int (0 : Int32)), .val (.ref r206), .val (.ref r208), .val (.ref r210), .val (.ref b212), .val (.int (3 : Int32)), .val (.long (z0 + (0 : Int64))), .second, .val (.long (z0 + (2 : Int64))), .second, .val (.long ((z0 + (2 : Int64)) - (1 : Int64))), .second, .val (.ref r208), .val (.int (1 : Int32))]) rfl ?_
          refine XS.iload X235.here hx rfl (hb hby at_214) rfl ?_
          refine XS.ifNo X235.here hx rfl (hb hby at_216) rfl ((if0 _ _).trans (feq (by decide : ¬ ((1 : Int32) = (0 : Int32)))).1) ?_
          refine XS.aload X235.here hx rfl (hb hby at_219) rfl rfl ?_
          show Steps p.tables e below (T235.setTop (mkF m 221 #[.val (.long z0), .second, .val (.int p1), .val (.int p2), .val (.int p3), .val (.int p4), .val (.long z0), .second, .val (.int (1 : Int32)), .val (.int (0 : Int32)), .val (.ref r206), .val (.ref r208), .val (.ref r210), .val (.ref b212), .val (.int (3 : Int32)), .val (.long (z0 + (0 : Int64))), .second, .val (.long (z0 + (2 : Int64))), .second, .val (.long ((z0 + (2 : Int64)) - (1 : Int64))), .second, .val (.ref r208), .val (.int (1 : Int32))] [(.ref b212)])) _
          refine st236.trans ?_
          refine XS.lload X236.here hx rfl (hb hby at_224) rfl ?_
          refine XS.lcmp X236.here hx rfl (hb hby at_226) rfl ?_
          refine XS.ifNo X236.here hx rfl (hb hby at_227) rfl ((if0 _ _).trans (teq ((lw_eq _ _).mpr (own_f0 _).symm)).2) ?_
          refine XS.iconst X236.here hx rfl (hb hby at_230) ?_
          refine XS.goto X236.here hx rfl (pc0 := 231) (pc' := 235) rfl (hb hby at_231) (by decide) (by decide) ?_
          show Steps p.tables e below (T236.setTop (mkF m 235 #[.val (.long z0), .second, .val (.int p1), .val (.int p2), .val (.int p3), .val (.int p4), .val (.long z0), .second, .val (.int (1 : Int32)), .val (.int (0 : Int32)), .val (.ref r206), .val (.ref r208), .val (.ref r210), .val (.ref b212), .val (.int (3 : Int32)), .val (.long (z0 + (0 : Int64))), .second, .val (.long (z0 + (2 : Int64))), .second, .val (.long ((z0 + (2 : Int64)) - (1 : Int64))), .second, .val (.ref r208), .val (.int (1 : Int32))] [(.int (1 : Int32))])) _
          refine XS.istore X236.here hx rfl (hb hby at_235) rfl (l' := #[.val (.long z0), .second, .val (.int p1), .val (.int p2), .val (.int p3), .val (.int p4), .val (.long z0), .second, .val (.int (1 : Int32)), .val (.int (0 : Int32)), .val (.ref r206), .val (.ref r208), .val (.ref r210), .val (.ref b212), .val (.int (3 : Int32)), .val (.long (z0 + (0 : Int64))), .second, .val (.long (z0 + (2 : Int64))), .second, .val (.long ((z0 + (2 : Int64)) - (1 : Int64))), .second, .val (.ref r208), .val (.int (1 : Int32))]) rfl ?_
          refine XS.iload X236.here hx rfl (hb hby at_237) rfl ?_
          refine XS.ifNo X236.here hx rfl (hb hby at_239) rfl ((if0 _ _).trans (feq (by decide : ¬ ((1 : Int32) = (0 : Int32)))).1) ?_
          refine XS.aload X236.here hx rfl (hb hby at_242) rfl rfl ?_
          refine XS.lload X236.here hx rfl (hb hby at_244) rfl ?_
          refine st237.trans ?_
          show Steps p.tables e below (T237.setTop (mkF m 249 #[.val (.long z0), .second, .val (.int p1), .val (.int p2), .val (.int p3), .val (.int p4), .val (.long z0), .second, .val (.int (1 : Int32)), .val (.int (0 : Int32)), .val (.ref r206), .val (.ref r208), .val (.ref r210), .val (.ref b212), .val (.int (3 : Int32)), .val (.long (z0 + (0 : Int64))), .second, .val (.long (z0 + (2 : Int64))), .second, .val (.long ((z0 + (2 : Int64)) - (1 : Int64))), .second, .val (.ref r208), .val (.int (1 : Int32))] [(.ref r210)])) _
          refine XS.aload X237.here hx rfl (hb hby at_249) rfl rfl ?_
          refine Jvm.RoadKit.acmp (g := (mkF m 251 #[.val (.long z0), .second, .val (.int p1), .val (.int p2), .val (.int p3), .val (.int p4), .val (.long z0), .second, .val (.int (1 : Int32)), .val (.int (0 : Int32)), .val (.ref r206), .val (.ref r208), .val (.ref r210), .val (.ref b212), .val (.int (3 : Int32)), .val (.long (z0 + (0 : Int64))), .second, .val (.long (z0 + (2 : Int64))), .second, .val (.long ((z0 + (2 : Int64)) - (1 : Int64))), .second, .val (.ref r208), .val (.int (1 : Int32))] [(.ref r210), (.ref r210)])) X237 hx rfl rfl rfl (pc0 := 251) (pc' := 254) (same := true) rfl (hb hby at_251) rfl (decide_eq_true rfl) (by decide) (by decide) ?_
          refine XS.iconst X237.here hx rfl (hb hby at_254) ?_
          refine XS.goto X237.here hx rfl (pc0 := 255) (pc' := 259) rfl (hb hby at_255) (by decide) (by decide) ?_
          refine XS.istore X237.here hx rfl (hb hby at_259) rfl (l' := #[.val (.long z0), .second, .val (.int p1), .val (.int p2), .val (.int p3), .val (.int p4), .val (.long z0), .second, .val (.int (1 : Int32)), .val (.int (0 : Int32)), .val (.ref r206), .val (.ref r208), .val (.ref r210), .val (.ref b212), .val (.int (3 : Int32)), .val (.long (z0 + (0 : Int64))), .second, .val (.long (z0 + (2 : Int64))), .second, .val (.long ((z0 + (2 : Int64)) - (1 : Int64))), .second, .val (.ref r208), .val (.int (1 : Int32))]) rfl ?_
          refine XS.iload X237.here hx rfl (hb hby at_261) rfl ?_
          show Steps p.tables e below (T237.setTop (mkF m 263 #[.val (.long z0), .second, .val (.int p1), .val (.int p2), .val (.int p3), .val (.int p4), .val (.long z0), .second, .val (.int (1 : Int32)), .val (.int (0 : Int32)), .val (.ref r206), .val (.ref r208), .val (.ref r210), .val (.ref b212), .val (.int (3 : Int32)), .val (.long (z0 + (0 : Int64))), .second, .val (.long (z0 + (2 : Int64))), .second, .val (.long ((z0 + (2 : Int64)) - (1 : Int64))), .second, .val (.ref r208), .val (.int (1 : Int32))] [(.int (1 : Int32))])) _
          refine XS.ifNo X237.here hx rfl (hb hby at_263) rfl ((if0 _ _).trans (feq (by decide : ¬ ((1 : Int32) = (0 : Int32)))).1) ?_
          refine XS.aload X237.here hx rfl (hb hby at_266) rfl rfl ?_
          refine XS.lload X237.here hx rfl (hb hby at_268) rfl ?_
          refine st238.trans ?_
          refine XS.aload X238.here hx rfl (hb hby at_273) rfl rfl ?_
          refine Jvm.RoadKit.acmp (g := (mkF m 275 #[.val (.long z0), .second, .val (.int p1), .val (.int p2), .val (.int p3), .val (.int p4), .val (.long z0), .second, .val (.int (1 : Int32)), .val (.int (0 : Int32)), .val (.ref r206), .val (.ref r208), .val (.ref r210), .val (.ref b212), .val (.int (3 : Int32)), .val (.long (z0 + (0 : Int64))), .second, .val (.long (z0 + (2 : Int64))), .second, .val (.long ((z0 + (2 : Int64)) - (1 : Int64))), .second, .val (.ref r208), .val (.int (1 : Int32))] [(.ref r208), (.ref r208)])) X238 hx rfl rfl rfl (pc0 := 275) (pc' := 278) (same := true) rfl (hb hby at_275) rfl (decide_eq_true rfl) (by decide) (by decide) ?_
          show Steps p.tables e below (T238.setTop (mkF m 278 #[.val (.long z0), .second, .val (.int p1), .val (.int p2), .val (.int p3), .val (.int p4), .val (.long z0), .second, .val (.int (1 : Int32)), .val (.int (0 : Int32)), .val (.ref r206), .val (.ref r208), .val (.ref r210), .val (.ref b212), .val (.int (3 : Int32)), .val (.long (z0 + (0 : Int64))), .second, .val (.long (z0 + (2 : Int64))), .second, .val (.long ((z0 + (2 : Int64)) - (1 : Int64))), .second, .val (.ref r208), .val (.int (1 : Int32))] [])) _
          refine XS.iconst X238.here hx rfl (hb hby at_278) ?_
          refine XS.goto X238.here hx rfl (pc0 := 279) (pc' := 283) rfl (hb hby at_279) (by decide) (by decide) ?_
          refine XS.istore X238.here hx rfl (hb hby at_283) rfl (l' := #[.val (.long z0), .second, .val (.int p1), .val (.int p2), .val (.int p3), .val (.int p4), .val (.long z0), .second, .val (.int (1 : Int32)), .val (.int (0 : Int32)), .val (.ref r206), .val (.ref r208), .val (.ref r210), .val (.ref b212), .val (.int (3 : Int32)), .val (.long (z0 + (0 : Int64))), .second, .val (.long (z0 + (2 : Int64))), .second, .val (.long ((z0 + (2 : Int64)) - (1 : Int64))), .second, .val (.ref r208), .val (.int (1 : Int32))]) rfl ?_
          refine XS.iload X238.here hx rfl (hb hby at_285) rfl ?_
          refine XS.ifNo X238.here hx rfl (hb hby at_287) rfl ((if0 _ _).trans (feq (by decide : ¬ ((1 : Int32) = (0 : Int32)))).1) ?_
          refine XS.aload X238.here hx rfl (hb hby at_290) rfl rfl ?_
          show Steps p.tables e below (T238.setTop (mkF m 292 #[.val (.long z0), .second, .val (.int p1), .val (.int p2), .val (.int p3), .val (.int p4), .val (.long z0), .second, .val (.int (1 : Int32)), .val (.int (0 : Int32)), .val (.ref r206), .val (.ref r208), .val (.ref r210), .val (.ref b212), .val (.int (3 : Int32)), .val (.long (z0 + (0 : Int64))), .second, .val (.long (z0 + (2 : Int64))), .second, .val (.long ((z0 + (2 : Int64)) - (1 : Int64))), .second, .val (.ref r208), .val (.int (1 : Int32))] [(.ref b212)])) _
          refine XS.lload X238.here hx rfl (hb hby at_292) rfl ?_
          refine XS.lconst X238.here hx rfl (hb hby at_294) ?_
          refine XS.ladd X238.here hx rfl (hb hby at_295) rfl ?_
          refine st239.trans ?_
          refine XS.ifnonnullNo X239.here hx rfl (hb hby at_299) rfl ?_
          refine XS.iconst X239.here hx rfl (hb hby at_302) ?_
          show Steps p.tables e below (T239.setTop (mkF m 303 #[.val (.long z0), .second, .val (.int p1), .val (.int p2), .val (.int p3), .val (.int p4), .val (.long z0), .second, .val (.int (1 : Int32)), .val (.int (0 : Int32)), .val (.ref r206), .val (.ref r208), .val (.ref r210), .val (.ref b212), .val (.int (3 : Int32)), .val (.long (z0 + (0 : Int64))), .second, .val (.long (z0 + (2 : Int64))), .second, .val (.long ((z0 + (2 : Int64)) - (1 : Int64))), .second, .val (.ref r208), .val (.int (1 : Int32))] [(.int (1 : Int32))])) _
          refine XS.goto X239.here hx rfl (pc0 := 303) (pc' := 307) rfl (hb hby at_303) (by decide) (by decide) ?_
          refine XS.istore X239.here hx rfl (hb hby at_307) rfl (l' := #[.val (.long z0), .second, .val (.int p1), .val (.int p2), .val (.int p3), .val (.int p4), .val (.long z0), .second, .val (.int (1 : Int32)), .val (.int (0 : Int32)), .val (.ref r206), .val (.ref r208), .val (.ref r210), .val (.ref b212), .val (.int (3 : Int32)), .val (.long (z0 + (0 : Int64))), .second, .val (.long (z0 + (2 : Int64))), .second, .val (.long ((z0 + (2 : Int64)) - (1 : Int64))), .second, .val (.ref r208), .val (.int (1 : Int32))]) rfl ?_
          refine XS.iload X239.here hx rfl (hb hby at_309) rfl ?_
          exact retN X239 hx (t := .boolean) Bd.returns (by simp) (hb hby at_311) hr
        · show Q0 n0 _ T239.heap _
          rw [e239]
          exact ⟨rfl, N239⟩
      · obtain ⟨_, _, ⟨T240, L240, k240, n240⟩, -, X240, ⟨Lc240, hQ240, l240, y240, z240⟩, st240⟩ := Jvm.LawKit.callS X0 hx (y := my_2) hown (mvT hZ (wq hw 1 rfl)) (mvT hZ (wq hw 2 rfl)) (mvT hZ (wq hw 3 rfl)) (mvT hZ (wq hw 4 rfl)) (by decide) (backOf (W := 0) (rm_val l Z a0 hw [] ca cc hL p1 h0 n0 O0) hZ (wq hw 4 rfl) (wq hw 3 rfl) (by decide) (by decide)) (g := (mkF m 48 #[.val (.long z0), .second, .val (.int p1), .val (.int p2), .val (.int p3), .val (.int p4), .val (.long z0), .second, .val (.int (1 : Int32)), .val (.int (1 : Int32)), .unset, .unset, .unset, .unset, .unset, .unset, .unset, .unset, .unset, .unset, .unset, .unset, .unset] [(.int p1)])) rfl (by rw [hml]; rfl) (argsL := [(.int p1)]) (rest := []) (lenOf pd_2 rfl) rfl (by show 2 * 0 + _ ≤ _; exact Nat.le_of_eq rfl) (hb hby at_48) (fun _ _ => ⟨rfl, e0, (by decide : 0 + 1 ≤ _), (by decide : 0 + 1 ≤ _)⟩)
        dsimp only [Pt.U, Pt.locs, Pt.cells, Pt.slots] at X240 l240 y240 z240 st240 hQ240
        have X240 := own_to X240 l240 y240 z240
        obtain ⟨r240, rfl, N240q, K240, E240q⟩ := hQ240
        have N240 := Fr.app N0 N240q
        have O241 : Old Z n0 T240.heap := Old.keep O0 K240 all0
        obtain ⟨_, _, ⟨T242, L242, k242, n242⟩, -, X242, ⟨Lc242, hQ242, l242, y242, z242⟩, st242⟩ := Jvm.LawKit.callS X240 hx (y := my_2) hown (mvT hZ (wq hw 1 rfl)) (mvT hZ (wq hw 2 rfl)) (mvT hZ (wq hw 3 rfl)) (mvT hZ (wq hw 4 rfl)) (by decide) (backOf (W := 0) (rm_val l Z a0 hw [] ca cc hL p2 T240.heap n0 O241) hZ (wq hw 4 rfl) (wq hw 3 rfl) (by decide) (by decide)) (g := (mkF m 54 #[.val (.long z0), .second, .val (.int p1), .val (.int p2), .val (.int p3), .val (.int p4), .val (.long z0), .second, .val (.int (1 : Int32)), .val (.int (1 : Int32)), .val (.ref r240), .unset, .unset, .unset, .unset, .unset, .unset, .unset, .unset, .unset, .unset, .unset, .unset] [(.int p2)])) rfl (by rw [hml]; rfl) (argsL := [(.int p2)]) (rest := []) (lenOf pd_2 rfl) rfl (by show 2 * 0 + _ ≤ _; exact Nat.le_of_eq rfl) (hb hby at_54) (fun _ _ => ⟨rfl, rfl, (by decide : 1 + 1 ≤ _), (by decide : 1 + 1 ≤ _)⟩)
        dsimp only [Pt.U, Pt.locs, Pt.cells, Pt.slots] at X242 l242 y242 z242 st242 hQ242
        have X242 := own_to X242 l242 y242 z242
        obtain ⟨r242, rfl, N242q, K242, E242q⟩ := hQ242
        have N242 := Fr.app N240 N242q
        have O243 : Old Z n0 T242.heap := Old.keep O241 K242 all0
        obtain ⟨_, _, ⟨T244, L244, k244, n244⟩, -, X244, ⟨Lc244, hQ244, l244, y244, z244⟩, st244⟩ := Jvm.LawKit.callS X242 hx (y := my_2) hown (mvT hZ (wq hw 1 rfl)) (mvT hZ (wq hw 2 rfl)) (mvT hZ (wq hw 3 rfl)) (mvT hZ (wq hw 4 rfl)) (by decide) (backOf (W := 0) (rm_val l Z a0 hw [] ca cc hL p3 T242.heap n0 O243) hZ (wq hw 4 rfl) (wq hw 3 rfl) (by decide) (by decide)) (g := (mkF m 61 #[.val (.long z0), .second, .val (.int p1), .val (.int p2), .val (.int p3), .val (.int p4), .val (.long z0), .second, .val (.int (1 : Int32)), .val (.int (1 : Int32)), .val (.ref r240), .val (.ref r242), .unset, .unset, .unset, .unset, .unset, .unset, .unset, .unset, .unset, .unset, .unset] [(.int p3)])) rfl (by rw [hml]; rfl) (argsL := [(.int p3)]) (rest := []) (lenOf pd_2 rfl) rfl (by show 2 * 0 + _ ≤ _; exact Nat.le_of_eq rfl) (hb hby at_61) (fun _ _ => ⟨rfl, rfl, (by decide : 2 + 1 ≤ _), (by decide : 2 + 1 ≤ _)⟩)
        dsimp only [Pt.U, Pt.locs, Pt.cells, Pt.slots] at X244 l244 y244 z244 st244 hQ244
        have X244 := own_to X244 l244 y244 z244
        obtain ⟨r244, rfl, N244q, K244, E244q⟩ := hQ244
        have N244 := Fr.app N242 N244q
        have O245 : Old Z n0 T244.heap := Old.keep O243 K244 all0
        obtain ⟨T246, h246, X246, e246, E246, A246, D246, -, st246⟩ := newO X244 hx hZ hown (wq hw 8 rfl) (wq hw 9 rfl) (wq hw 10 rfl) rfl (g := (mkF m 66 #[.val (.long z0), .second, .val (.int p1), .val (.int p2), .val (.int p3), .val (.int p4), .val (.long z0), .second, .val (.int (1 : Int32)), .val (.int (1 : Int32)), .val (.ref r240), .val (.ref r242), .val (.ref r244), .unset, .unset, .unset, .unset, .unset, .unset, .unset, .unset, .unset, .unset] [])) rfl (hb hby at_66) (by decide) (by decide)
        obtain ⟨b246, gb246⟩ : ∃ z, z = T244.heap.size := ⟨_, rfl⟩
        rw [← gb246] at A246 D246 st246
        have t247 : Exa Z T244.heap r240 nIntege_0 := ((E240q.keep K242).keep K244)
        have ne248 : r240 ≠ b246 := Nat.ne_of_lt (Nat.lt_of_lt_of_le t247.lt (Nat.le_of_eq gb246.symm))
        have t249 : Exa Z T244.heap r242 nIntege_0 := (E242q.keep K244)
        have ne250 : r242 ≠ b246 := Nat.ne_of_lt (Nat.lt_of_lt_of_le t249.lt (Nat.le_of_eq gb246.symm))
        have ne251 : r244 ≠ b246 := Nat.ne_of_lt (Nat.lt_of_lt_of_le E244q.lt (Nat.le_of_eq gb246.symm))
        have g252 : n0 ≤ b246 := Nat.le_trans (Nat.le_of_eq O245.1.symm) (Nat.le_trans O245.2.1 (Nat.le_of_eq gb246.symm))
        have O253 : Old Z n0 h246 := Old.ext O245 E246
        have f254 : Fld Z h246 b246 nConsec_1 "values" "[Ljava/lang/Object;" .null := D246 (Or.inl (wq hw 20 rfl)) (ty := (.array (.object nObject_2))) (by decide)
        have f255 : Fld Z h246 b246 nConsec_1 "first" "J" (.long (0 : Int64)) := D246 (Or.inl (wq hw 22 rfl)) (ty := .long) (by decide)
        have f256 : Fld Z h246 b246 nConsec_1 "size" "I" (.int (0 : Int32)) := D246 (Or.inl (wq hw 29 rfl)) (ty := .int) (by decide)
        have f257 : Fld Z h246 b246 nConsec_1 "head" "I" (.int (0 : Int32)) := D246 (Or.inl (wq hw 31 rfl)) (ty := .int) (by decide)
        obtain ⟨_, _, ⟨T258, L258, k258, n258⟩, -, X258, ⟨Lc258, hQ258, l258, y258, z258⟩, st258⟩ := X246.specialBack hx (y := my_3) rfl hown (mvT hZ (wq hw 11 rfl)) (mvT hZ (wq hw 12 rfl)) (mvT hZ (wq hw 13 rfl)) (by decide) (backOf (W := 1) (rm_rin l Z a0 hw [] b246 z0 h246 n0 O253 g252 A246 f254 f256 f257 f255) hZ (wq hw 13 rfl) (wq hw 10 rfl) (by decide) (by decide)) (g := (mkF m 72 #[.val (.long z0), .second, .val (.int p1), .val (.int p2), .val (.int p3), .val (.int p4), .val (.long z0), .second, .val (.int (1 : Int32)), .val (.int (1 : Int32)), .val (.ref r240), .val (.ref r242), .val (.ref r244), .unset, .unset, .unset, .unset, .unset, .unset, .unset, .unset, .unset, .unset] [(.long z0), (.ref b246), (.ref b246)])) rfl (by rw [hml]; rfl) (Steps.refl _) (a := b246) (argsL := [(.long z0)]) (rest := [(.ref b246)]) (lenOf pd_3 rfl) rfl (by show 2 * 0 + _ ≤ _; exact Nat.le_of_eq rfl) (hb hby at_72) (fun _ _ => ⟨rfl, e246, (by decide : 4 + 1 ≤ _), (by decide : 7 + 16 ≤ _)⟩)
        dsimp only [Pt.U, Pt.locs, Pt.cells, Pt.slots] at X258 l258 y258 z258 st258 hQ258
        have X258 := own_to X258 l258 y258 z258
        obtain ⟨bb258, kk258, rfl, N258q, K258, R258⟩ := hQ258
        have N258 := Fr.app N244 N258q
        have O259 : Old Z n0 T258.heap := Old.keep O253 K258 (allS g252 all0)
        obtain ⟨ER258, FV258, FS258, FH258, FF258, VV258, OV258, ga258, gbb258⟩ := (id R258)
        have t260 : Exa Z T258.heap r240 nIntege_0 := ((t247.ext E246).keep K258)
        obtain ⟨cq261, kq261, q261a, q261b, q261c⟩ := isOf hZ rfl (ER258)
        obtain ⟨_, _, ⟨T261, L261, k261, n261⟩, -, X261, ⟨Lc261, hQ261, l261, y261, z261⟩, st261⟩ := X258.virtualBack hx (y := my_6) (z := my_6) hown (mvT hZ (wq hw 23 rfl)) (mvT hZ (wq hw 24 rfl)) (notFace_of_selects (args := #[]) (mvT hZ (wq hw 26 rfl))) (mvT hZ (wq hw 26 rfl)) (mvT hZ (wq hw 25 rfl)) (by decide) (backOf (W := 0) (rm_add_0_0_NNN l Z a0 hw [] b246 bb258 kk258  z0 T258.heap n0 O259 R258 r240 t260) hZ (wq hw 27 rfl) (wq hw 10 rfl) (by decide) (by decide)) q261a q261c (g := (mkF m 86 #[.val (.long z0), .second, .val (.int p1), .val (.int p2), .val (.int p3), .val (.int p4), .val (.long z0), .second, .val (.int (1 : Int32)), .val (.int (1 : Int32)), .val (.ref r240), .val (.ref r242), .val (.ref r244), .val (.ref b246), .unset, .unset, .unset, .unset, .unset, .unset, .unset, .unset, .unset] [(.ref r240), (.ref b246)])) rfl (by rw [hml]; rfl) (Steps.refl _) (argsL := [(.ref r240)]) (rest := []) (lenOf pd_4 rfl) rfl (by show 2 * 0 + _ ≤ _; exact Nat.le_of_eq rfl) (hb hby at_86) (fun _ _ => ⟨rfl, rfl, (by decide : 5 + 0 ≤ _), (by decide : 23 + 0 ≤ _)⟩)
        dsimp only [Pt.U, Pt.locs, Pt.cells, Pt.slots] at X261 l261 y261 z261 st261 hQ261
        have X261 := own_to X261 l261 y261 z261
        obtain ⟨rfl, N261q, K261, R261⟩ := hQ261
        have N261 := Fr.app N258 N261q
        have O262 : Old Z n0 T261.heap := Old.keep O259 K261 (allS g252 (allS gbb258 all0))
        have ER261 := R261.1
        have t263 : Exa Z T261.heap r242 nIntege_0 := (((t249.ext E246).keep K258).keep K261)
        obtain ⟨cq264, kq264, q264a, q264b, q264c⟩ := isOf hZ rfl (ER261)
        obtain ⟨_, _, ⟨T264, L264, k264, n264⟩, -, X264, ⟨Lc264, hQ264, l264, y264, z264⟩, st264⟩ := X261.virtualBack hx (y := my_6) (z := my_6) hown (mvT hZ (wq hw 23 rfl)) (mvT hZ (wq hw 24 rfl)) (notFace_of_selects (args := #[]) (mvT hZ (wq hw 26 rfl))) (mvT hZ (wq hw 26 rfl)) (mvT hZ (wq hw 25 rfl)) (by decide) (backOf (W := 0) (rm_add_1_0_RNN l Z a0 hw [] b246 bb258 kk258 r240 z0 T261.heap n0 O262 R261 r242 t263) hZ (wq hw 27 rfl) (wq hw 10 rfl) (by decide) (by decide)) q264a q264c (g := (mkF m 93 #[.val (.long z0), .second, .val (.int p1), .val (.int p2), .val (.int p3), .val (.int p4), .val (.long z0), .second, .val (.int (1 : Int32)), .val (.int (1 : Int32)), .val (.ref r240), .val (.ref r242), .val (.ref r244), .val (.ref b246), .unset, .unset, .unset, .unset, .unset, .unset, .unset, .unset, .unset] [(.ref r242), (.ref b246)])) rfl (by rw [hml]; rfl) (Steps.refl _) (argsL := [(.ref r242)]) (rest := []) (lenOf pd_4 rfl) rfl (by show 2 * 0 + _ ≤ _; exact Nat.le_of_eq rfl) (hb hby at_93) (fun _ _ => ⟨rfl, rfl, (by decide : 5 + 0 ≤ _), (by decide : 23 + 0 ≤ _)⟩)
        dsimp only [Pt.U, Pt.locs, Pt.cells, Pt.slots] at X264 l264 y264 z264 st264 hQ264
        have X264 := own_to X264 l264 y264 z264
        obtain ⟨rfl, N264q, K264, R264⟩ := hQ264
        have N264 := Fr.app N261 N264q
        have O265 : Old Z n0 T264.heap := Old.keep O262 K264 (allS g252 (allS gbb258 all0))
        have ER264 := R264.1
        obtain ⟨cq266, kq266, q266a, q266b, q266c⟩ := isOf hZ rfl (ER264)
        obtain ⟨_, _, ⟨T266, L266, k266, n266⟩, -, X266, ⟨Lc266, hQ266, l266, y266, z266⟩, st266⟩ := X264.virtualBack hx (y := my_9) (z := my_9) hown (mvT hZ (wq hw 33 rfl)) (mvT hZ (wq hw 34 rfl)) (notFace_of_selects (args := #[]) (mvT hZ (wq hw 36 rfl))) (mvT hZ (wq hw 36 rfl)) (mvT hZ (wq hw 35 rfl)) (by decide) (backOf (W := 0) (rm_rem_2_0_RRN l Z a0 hw [] b246 bb258 kk258 r240 r242 z0 T264.heap n0 O265 R264) hZ (wq hw 37 rfl) (wq hw 10 rfl) (by decide) (by decide)) q266a q266c (g := (mkF m 103 #[.val (.long z0), .second, .val (.int p1), .val (.int p2), .val (.int p3), .val (.int p4), .val (.long z0), .second, .val (.int (1 : Int32)), .val (.int (1 : Int32)), .val (.ref r240), .val (.ref r242), .val (.ref r244), .val (.ref b246), .unset, .unset, .unset, .unset, .unset, .unset, .unset, .unset, .unset] [(.ref b246)])) rfl (by rw [hml]; rfl) (Steps.refl _) (argsL := []) (rest := []) (lenOf pd_8 rfl) rfl (by show 2 * 0 + _ ≤ _; exact Nat.le_of_eq rfl) (hb hby at_103) (fun _ _ => ⟨rfl, rfl, (by decide : 5 + 0 ≤ _), (by decide : 23 + 0 ≤ _)⟩)
        dsimp only [Pt.U, Pt.locs, Pt.cells, Pt.slots] at X266 l266 y266 z266 st266 hQ266
        have X266 := own_to X266 l266 y266 z266
        obtain ⟨rfl, N266q, K266, R266⟩ := hQ266
        have N266 := Fr.app N264 N266q
        have O267 : Old Z n0 T266.heap := Old.keep O265 K266 (allS g252 (allS gbb258 all0))
        have ER266 := R266.1
        have t268 : Exa Z T266.heap r244 nIntege_0 := (((((E244q.ext E246).keep K258).keep K261).keep K264).keep K266)
        obtain ⟨cq269, kq269, q269a, q269b, q269c⟩ := isOf hZ rfl (ER266)
        obtain ⟨_, _, ⟨T269, L269, k269, n269⟩, -, X269, ⟨Lc269, hQ269, l269, y269, z269⟩, st269⟩ := X266.virtualBack hx (y := my_6) (z := my_6) hown (mvT hZ (wq hw 23 rfl)) (mvT hZ (wq hw 24 rfl)) (notFace_of_selects (args := #[]) (mvT hZ (wq hw 26 rfl))) (mvT hZ (wq hw 26 rfl)) (mvT hZ (wq hw 25 rfl)) (by decide) (backOf (W := 0) (rm_add_1_1_NRN l Z a0 hw [] b246 bb258 kk258 r242 (z0 + (1 : Int64)) T266.heap n0 O267 R266 r244 t268) hZ (wq hw 27 rfl) (wq hw 10 rfl) (by decide) (by decide)) q269a q269c (g := (mkF m 111 #[.val (.long z0), .second, .val (.int p1), .val (.int p2), .val (.int p3), .val (.int p4), .val (.long z0), .second, .val (.int (1 : Int32)), .val (.int (1 : Int32)), .val (.ref r240), .val (.ref r242), .val (.ref r244), .val (.ref b246), .unset, .unset, .unset, .unset, .unset, .unset, .unset, .unset, .unset] [(.ref r244), (.ref b246)])) rfl (by rw [hml]; rfl) (Steps.refl _) (argsL := [(.ref r244)]) (rest := []) (lenOf pd_4 rfl) rfl (by show 2 * 0 + _ ≤ _; exact Nat.le_of_eq rfl) (hb hby at_111) (fun _ _ => ⟨rfl, rfl, (by decide : 5 + 0 ≤ _), (by decide : 23 + 0 ≤ _)⟩)
        dsimp only [Pt.U, Pt.locs, Pt.cells, Pt.slots] at X269 l269 y269 z269 st269 hQ269
        have X269 := own_to X269 l269 y269 z269
        obtain ⟨rfl, N269q, K269, R269⟩ := hQ269
        have N269 := Fr.app N266 N269q
        have O270 : Old Z n0 T269.heap := Old.keep O267 K269 (allS g252 (allS gbb258 all0))
        have ER269 := R269.1
        obtain ⟨cq271, kq271, q271a, q271b, q271c⟩ := isOf hZ rfl (ER269)
        obtain ⟨_, _, ⟨T271, L271, k271, n271⟩, -, X271, ⟨Lc271, hQ271, l271, y271, z271⟩, st271⟩ := X269.virtualBack hx (y := my_4) (z := my_4) hown (mvT hZ (wq hw 49 rfl)) (mvT hZ (wq hw 50 rfl)) (notFace_of_selects (args := #[]) (mvT hZ (wq hw 52 rfl))) (mvT hZ (wq hw 52 rfl)) (mvT hZ (wq hw 51 rfl)) (by decide) (backOf (W := 0) (rm_siz l Z a0 hw [] b246 (2 : Int32) T269.heap n0 R269.2.2.1) hZ (wq hw 53 rfl) (wq hw 10 rfl) (by decide) (by decide)) q271a q271c (g := (mkF m 199 #[.val (.long z0), .second, .val (.int p1), .val (.int p2), .val (.int p3), .val (.int p4), .val (.long z0), .second, .val (.int (1 : Int32)), .val (.int (1 : Int32)), .val (.ref r240), .val (.ref r242), .val (.ref r244), .val (.ref b246), .val (.int (2 : Int32)), .val (.long (z0 + (1 : Int64))), .second, .val (.long (z0 + (2 : Int64))), .second, .val (.long ((z0 + (2 : Int64)) - (1 : Int64))), .second, .val (.ref r242), .unset] [(.ref b246)])) rfl (by rw [hml]; rfl) (Steps.refl _) (argsL := []) (rest := []) (lenOf pd_5 rfl) rfl (by show 2 * 0 + _ ≤ _; exact Nat.le_of_eq rfl) (hb hby at_199) (fun _ _ => ⟨rfl, rfl, (by decide : 5 + 0 ≤ _), (by decide : 23 + 0 ≤ _)⟩)
        dsimp only [Pt.U, Pt.locs, Pt.cells, Pt.slots] at X271 l271 y271 z271 st271 hQ271
        have X271 := own_to X271 l271 y271 z271
        obtain ⟨rfl, N271q, e271⟩ := hQ271
        have N271 := Fr.app N269 N271q
        obtain ⟨cq272, kq272, q272a, q272b, q272c⟩ := isOf hZ e271 (ER269)
        obtain ⟨_, _, ⟨T272, L272, k272, n272⟩, -, X272, ⟨Lc272, hQ272, l272, y272, z272⟩, st272⟩ := X271.virtualBack hx (y := my_5) (z := my_5) hown (mvT hZ (wq hw 54 rfl)) (mvT hZ (wq hw 55 rfl)) (notFace_of_selects (args := #[]) (mvT hZ (wq hw 57 rfl))) (mvT hZ (wq hw 57 rfl)) (mvT hZ (wq hw 56 rfl)) (by decide) (backOf (W := 0) (rm_fnu l Z a0 hw [] b246 (z0 + (1 : Int64)) T269.heap n0 R269.2.2.2.2.1) hZ (wq hw 58 rfl) (wq hw 10 rfl) (by decide) (by decide)) q272a q272c (g := (mkF m 221 #[.val (.long z0), .second, .val (.int p1), .val (.int p2), .val (.int p3), .val (.int p4), .val (.long z0), .second, .val (.int (1 : Int32)), .val (.int (1 : Int32)), .val (.ref r240), .val (.ref r242), .val (.ref r244), .val (.ref b246), .val (.int (2 : Int32)), .val (.long (z0 + (1 : Int64))), .second, .val (.long (z0 + (2 : Int64))), .second, .val (.long ((z0 + (2 : Int64)) - (1 : Int64))), .second, .val (.ref r242), .val (.int (1 : Int32))] [(.ref b246)])) rfl (by rw [hml]; rfl) (Steps.refl _) (argsL := []) (rest := []) (lenOf pd_6 rfl) rfl (by show 2 * 0 + _ ≤ _; exact Nat.le_of_eq rfl) (hb hby at_221) (fun _ _ => ⟨rfl, e271, (by decide : 5 + 0 ≤ _), (by decide : 23 + 0 ≤ _)⟩)
        dsimp only [Pt.U, Pt.locs, Pt.cells, Pt.slots] at X272 l272 y272 z272 st272 hQ272
        have X272 := own_to X272 l272 y272 z272
        obtain ⟨rfl, N272q, e272⟩ := hQ272
        have N272 := Fr.app N271 N272q
        have he246 : (z0 + (2 : Int64)) = (z0 + (2 : Int64)) := rfl
        have hg246 : (z0 + (1 : Int64)) = (z0 + (1 : Int64)) := rfl
        obtain ⟨cq273, kq273, q273a, q273b, q273c⟩ := isOf hZ e272 (ER269)
        obtain ⟨_, _, ⟨T273, L273, k273, n273⟩, -, X273, ⟨Lc273, hQ273, l273, y273, z273⟩, st273⟩ := X272.virtualBack hx (y := my_7) (z := my_7) hown (mvT hZ (wq hw 59 rfl)) (mvT hZ (wq hw 44 rfl)) (notFace_of_selects (args := #[]) (mvT hZ (wq hw 46 rfl))) (mvT hZ (wq hw 46 rfl)) (mvT hZ (wq hw 45 rfl)) (by decide) (backOf (W := 0) (rm_get_2_1_NRR_1 l Z a0 hw [] b246 bb258 kk258 r242 r244 (z0 + (1 : Int64)) T269.heap n0 O270 R269 (z0 + (2 : Int64)) (own_ge2 he246 hg246 hf (by decide) (by decide)) (own_sub2 he246 hg246 (by decide))) hZ (wq hw 47 rfl) (wq hw 10 rfl) (by decide) (by decide)) q273a q273c (g := (mkF m 246 #[.val (.long z0), .second, .val (.int p1), .val (.int p2), .val (.int p3), .val (.int p4), .val (.long z0), .second, .val (.int (1 : Int32)), .val (.int (1 : Int32)), .val (.ref r240), .val (.ref r242), .val (.ref r244), .val (.ref b246), .val (.int (2 : Int32)), .val (.long (z0 + (1 : Int64))), .second, .val (.long (z0 + (2 : Int64))), .second, .val (.long ((z0 + (2 : Int64)) - (1 : Int64))), .second, .val (.ref r242), .val (.int (1 : Int32))] [(.long (z0 + (2 : Int64))), (.ref b246)])) rfl (by rw [hml]; rfl) (Steps.refl _) (argsL := [(.long (z0 + (2 : Int64)))]) (rest := []) (lenOf pd_7 rfl) rfl (by show 2 * 0 + _ ≤ _; exact Nat.le_of_eq rfl) (hb hby at_246) (fun _ _ => ⟨rfl, e272, (by decide : 5 + 0 ≤ _), (by decide : 23 + 0 ≤ _)⟩)
        dsimp only [Pt.U, Pt.locs, Pt.cells, Pt.slots] at X273 l273 y273 z273 st273 hQ273
        have X273 := own_to X273 l273 y273 z273
        obtain ⟨rfl, N273q, e273⟩ := hQ273
        have N273 := Fr.app N272 N273q
        have he270 : ((z0 + (2 : Int64)) - (1 : Int64)) = (z0 + (1 : Int64)) := (own_f1 _ _ _ _ (by decide))
        have hg270 : (z0 + (1 : Int64)) = (z0 + (1 : Int64)) := rfl
        obtain ⟨cq274, kq274, q274a, q274b, q274c⟩ := isOf hZ e273 (ER269)
        obtain ⟨_, _, ⟨T274, L274, k274, n274⟩, -, X274, ⟨Lc274, hQ274, l274, y274, z274⟩, st274⟩ := X273.virtualBack hx (y := my_7) (z := my_7) hown (mvT hZ (wq hw 59 rfl)) (mvT hZ (wq hw 44 rfl)) (notFace_of_selects (args := #[]) (mvT hZ (wq hw 46 rfl))) (mvT hZ (wq hw 46 rfl)) (mvT hZ (wq hw 45 rfl)) (by decide) (backOf (W := 0) (rm_get_2_1_NRR_0 l Z a0 hw [] b246 bb258 kk258 r242 r244 (z0 + (1 : Int64)) T269.heap n0 O270 R269 ((z0 + (2 : Int64)) - (1 : Int64)) (own_ge2 he270 hg270 hf (by decide) (by decide)) (own_sub2 he270 hg270 (by decide))) hZ (wq hw 47 rfl) (wq hw 10 rfl) (by decide) (by decide)) q274a q274c (g := (mkF m 270 #[.val (.long z0), .second, .val (.int p1), .val (.int p2), .val (.int p3), .val (.int p4), .val (.long z0), .second, .val (.int (1 : Int32)), .val (.int (1 : Int32)), .val (.ref r240), .val (.ref r242), .val (.ref r244), .val (.ref b246), .val (.int (2 : Int32)), .val (.long (z0 + (1 : Int64))), .second, .val (.long (z0 + (2 : Int64))), .second, .val (.long ((z0 + (2 : Int64)) - (1 : Int64))), .second, .val (.ref r242), .val (.int (1 : Int32))] [(.long ((z0 + (2 : Int64)) - (1 : Int64))), (.ref b246)])) rfl (by rw [hml]; rfl) (Steps.refl _) (argsL := [(.long ((z0 + (2 : Int64)) - (1 : Int64)))]) (rest := []) (lenOf pd_7 rfl) rfl (by show 2 * 0 + _ ≤ _; exact Nat.le_of_eq rfl) (hb hby at_270) (fun _ _ => ⟨rfl, e273, (by decide : 5 + 0 ≤ _), (by decide : 23 + 0 ≤ _)⟩)
        dsimp only [Pt.U, Pt.locs, Pt.cells, Pt.slots] at X274 l274 y274 z274 st274 hQ274
        have X274 := own_to X274 l274 y274 z274
        obtain ⟨rfl, N274q, e274⟩ := hQ274
        have N274 := Fr.app N273 N274q
        have he296 : ((z0 + (2 : Int64)) + (1 : Int64)) = (z0 + (3 : Int64)) := (own_f2 _ _ _ _ (by decide))
        have hg296 : (z0 + (1 : Int64)) = (z0 + (1 : Int64)) := rfl
        obtain ⟨cq275, kq275, q275a, q275b, q275c⟩ := isOf hZ e274 (ER269)
        obtain ⟨_, _, ⟨T275, L275, k275, n275⟩, -, X275, ⟨Lc275, hQ275, l275, y275, z275⟩, st275⟩ := X274.virtualBack hx (y := my_7) (z := my_7) hown (mvT hZ (wq hw 59 rfl)) (mvT hZ (wq hw 44 rfl)) (notFace_of_selects (args := #[]) (mvT hZ (wq hw 46 rfl))) (mvT hZ (wq hw 46 rfl)) (mvT hZ (wq hw 45 rfl)) (by decide) (backOf (W := 0) (rm_get_2_1_NRR_hi l Z a0 hw [] b246 bb258 kk258 r242 r244 (z0 + (1 : Int64)) T269.heap n0 O270 R269 ((z0 + (2 : Int64)) + (1 : Int64)) (own_ge2 he296 hg296 hf (by decide) (by decide)) (own_sub2 he296 hg296 (by decide))) hZ (wq hw 47 rfl) (wq hw 10 rfl) (by decide) (by decide)) q275a q275c (g := (mkF m 296 #[.val (.long z0), .second, .val (.int p1), .val (.int p2), .val (.int p3), .val (.int p4), .val (.long z0), .second, .val (.int (1 : Int32)), .val (.int (1 : Int32)), .val (.ref r240), .val (.ref r242), .val (.ref r244), .val (.ref b246), .val (.int (2 : Int32)), .val (.long (z0 + (1 : Int64))), .second, .val (.long (z0 + (2 : Int64))), .second, .val (.long ((z0 + (2 : Int64)) - (1 : Int64))), .second, .val (.ref r242), .val (.int (1 : Int32))] [(.long ((z0 + (2 : Int64)) + (1 : Int64))), (.ref b246)])) rfl (by rw [hml]; rfl) (Steps.refl _) (argsL := [(.long ((z0 + (2 : Int64)) + (1 : Int64)))]) (rest := []) (lenOf pd_7 rfl) rfl (by show 2 * 0 + _ ≤ _; exact Nat.le_of_eq rfl) (hb hby at_296) (fun _ _ => ⟨rfl, e274, (by decide : 5 + 0 ≤ _), (by decide : 23 + 0 ≤ _)⟩)
        dsimp only [Pt.U, Pt.locs, Pt.cells, Pt.slots] at X275 l275 y275 z275 st275 hQ275
        have X275 := own_to X275 l275 y275 z275
        obtain ⟨rfl, N275q, e275⟩ := hQ275
        have N275 := Fr.app N274 N275q
        obtain ⟨fs, hr, hrun, hended, hW, hsame⟩ := X275.leave (v := (some (.int (1 : Int32)))) (fun h => by rw [Bd.returns] at h; cases h)
        refine ⟨_, _, gp205 _ ?_, hrun, hended, _, _, rfl, ?_, ⟨_, rfl⟩, hW, hsame.mono (by decide) (by decide)⟩
        · refine XS.ifNo X0.here hx rfl (hb hby at_37) rfl ((if0 _ _).trans (feq hc37).1) ?_
          refine XS.iconst X0.here hx rfl (hb hby at_40) ?_
          refine XS.goto X0.here hx rfl (pc0 := 41) (pc' := 45) rfl (hb hby at_41) (by decide) (by decide) ?_
          show Steps p.tables e below (s₁.setTop (mkF m 45 #[.val (.long z0), .second, .val (.int p1), .val (.int p2), .val (.int p3), .val (.int p4), .val (.long z0), .second, .val (.int (1 : Int32)), .unset, .unset, .unset, .unset, .unset, .unset, .unset, .unset, .unset, .unset, .unset, .unset, .unset, .unset] [(.int (1 : Int32))])) _
          refine XS.istore X0.here hx rfl (hb hby at_45) rfl (l' := #[.val (.long z0), .second, .val (.int p1), .val (.int p2), .val (.int p3), .val (.int p4), .val (.long z0), .second, .val (.int (1 : Int32)), .val (.int (1 : Int32)), .unset, .unset, .unset, .unset, .unset, .unset, .unset, .unset, .unset, .unset, .unset, .unset, .unset]) rfl ?_
          refine XS.iloadN X0.here hx rfl (hb hby at_47) rfl ?_
          refine st240 _ ?_
          refine XS.astore X240.here hx rfl (hb hby at_51) rfl rfl (l' := #[.val (.long z0), .second, .val (.int p1), .val (.int p2), .val (.int p3), .val (.int p4), .val (.long z0), .second, .val (.int (1 : Int32)), .val (.int (1 : Int32)), .val (.ref r240), .unset, .unset, .unset, .unset, .unset, .unset, .unset, .unset, .unset, .unset, .unset, .unset]) rfl ?_
          refine XS.iloadN X240.here hx rfl (hb hby at_53) rfl ?_
          refine st242 _ ?_
          show Steps p.tables e below (T242.setTop (mkF m 57 #[.val (.long z0), .second, .val (.int p1), .val (.int p2), .val (.int p3), .val (.int p4), .val (.long z0), .second, .val (.int (1 : Int32)), .val (.int (1 : Int32)), .val (.ref r240), .unset, .unset, .unset, .unset, .unset, .unset, .unset, .unset, .unset, .unset, .unset, .unset] [(.ref r242)])) _
          refine XS.astore X242.here hx rfl (hb hby at_57) rfl rfl (l' := #[.val (.long z0), .second, .val (.int p1), .val (.int p2), .val (.int p3), .val (.int p4), .val (.long z0), .second, .val (.int (1 : Int32)), .val (.int (1 : Int32)), .val (.ref r240), .val (.ref r242), .unset, .unset, .unset, .unset, .unset, .unset, .unset, .unset, .unset, .unset, .unset]) rfl ?_
          refine XS.iload X242.here hx rfl (hb hby at_59) rfl ?_
          refine st244 _ ?_
          refine XS.astore X244.here hx rfl (hb hby at_64) rfl rfl (l' := #[.val (.long z0), .second, .val (.int p1), .val (.int p2), .val (.int p3), .val (.int p4), .val (.long z0), .second, .val (.int (1 : Int32)), .val (.int (1 : Int32)), .val (.ref r240), .val (.ref r242), .val (.ref r244), .unset, .unset, .unset, .unset, .unset, .unset, .unset, .unset, .unset, .unset]) rfl ?_
          refine st246 _ ?_
          refine XS.dup X246.here hx rfl (hb hby at_69) rfl rfl ?_
          show Steps p.tables e below (T246.setTop (mkF m 70 #[.val (.long z0), .second, .val (.int p1), .val (.int p2), .val (.int p3), .val (.int p4), .val (.long z0), .second, .val (.int (1 : Int32)), .val (.int (1 : Int32)), .val (.ref r240), .val (.ref r242), .val (.ref r244), .unset, .unset, .unset, .unset, .unset, .unset, .unset, .unset, .unset, .unset] [(.ref b246), (.ref b246)])) _
          refine XS.lload X246.here hx rfl (hb hby at_70) rfl ?_
          refine st258.trans ?_
          refine XS.astore X258.here hx rfl (hb hby at_75) rfl rfl (l' := #[.val (.long z0), .second, .val (.int p1), .val (.int p2), .val (.int p3), .val (.int p4), .val (.long z0), .second, .val (.int (1 : Int32)), .val (.int (1 : Int32)), .val (.ref r240), .val (.ref r242), .val (.ref r244), .val (.ref b246), .unset, .unset, .unset, .unset, .unset, .unset, .unset, .unset, .unset]) rfl ?_
          refine XS.iload X258.here hx rfl (hb hby at_77) rfl ?_
          refine XS.ifNo X258.here hx rfl (hb hby at_79) rfl ((if0 _ _).trans (feq (by decide : ¬ ((1 : Int32) = (0 : Int32)))).1) ?_
          refine XS.aload X258.here hx rfl (hb hby at_82) rfl rfl ?_
          show Steps p.tables e below (T258.setTop (mkF m 84 #[.val (.long z0), .second, .val (.int p1), .val (.int p2), .val (.int p3), .val (.int p4), .val (.long z0), .second, .val (.int (1 : Int32)), .val (.int (1 : Int32)), .val (.ref r240), .val (.ref r242), .val (.ref r244), .val (.ref b246), .unset, .unset, .unset, .unset, .unset, .unset, .unset, .unset, .unset] [(.ref b246)])) _
          refine XS.aload X258.here hx rfl (hb hby at_84) rfl rfl ?_
          refine st261.trans ?_
          refine XS.aload X261.here hx rfl (hb hby at_89) rfl rfl ?_
          refine XS.aload X261.here hx rfl (hb hby at_91) rfl rfl ?_
          refine st264.trans ?_
          refine XS.iload X264.here hx rfl (hb hby at_96) rfl ?_
          show Steps p.tables e below (T264.setTop (mkF m 98 #[.val (.long z0), .second, .val (.int p1), .val (.int p2), .val (.int p3), .val (.int p4), .val (.long z0), .second, .val (.int (1 : Int32)), .val (.int (1 : Int32)), .val (.ref r240), .val (.ref r242), .val (.ref r244), .val (.ref b246), .unset, .unset, .unset, .unset, .unset, .unset, .unset, .unset, .unset] [(.int (1 : Int32))])) _
          refine XS.ifNo X264.here hx rfl (hb hby at_98) rfl ((if0 _ _).trans (feq (by decide : ¬ ((1 : Int32) = (0 : Int32)))).1) ?_
          refine XS.aload X264.here hx rfl (hb hby at_101) rfl rfl ?_
          refine st266.trans ?_
          refine XS.pop X266.here hx rfl (hb hby at_106) rfl rfl ?_
          refine XS.aload X266.here hx rfl (hb hby at_107) rfl rfl ?_
          refine XS.aload X266.here hx rfl (hb hby at_109) rfl rfl ?_
          show Steps p.tables e below (T266.setTop (mkF m 111 #[.val (.long z0), .second, .val (.int p1), .val (.int p2), .val (.int p3), .val (.int p4), .val (.long z0), .second, .val (.int (1 : Int32)), .val (.int (1 : Int32)), .val (.ref r240), .val (.ref r242), .val (.ref r244), .val (.ref b246), .unset, .unset, .unset, .unset, .unset, .unset, .unset, .unset, .unset] [(.ref r244), (.ref b246)])) _
          refine st269.trans ?_
          refine XS.iload X269.here hx rfl (hb hby at_114) rfl ?_
          refine XS.ifNo X269.here hx rfl (hb hby at_116) rfl ((if0 _ _).trans (feq (by decide : ¬ ((1 : Int32) = (0 : Int32)))).1) ?_
          refine XS.iconst X269.here hx rfl (hb hby at_119) ?_
          refine XS.goto X269.here hx rfl (pc0 := 120) (pc' := 124) rfl (hb hby at_120) (by decide) (by decide) ?_
          refine XS.iconst X269.here hx rfl (hb hby at_124) ?_
          show Steps p.tables e below (T269.setTop (mkF m 125 #[.val (.long z0), .second, .val (.int p1), .val (.int p2), .val (.int p3), .val (.int p4), .val (.long z0), .second, .val (.int (1 : Int32)), .val (.int (1 : Int32)), .val (.ref r240), .val (.ref r242), .val (.ref r244), .val (.ref b246), .unset, .unset, .unset, .unset, .unset, .unset, .unset, .unset, .unset] [(.int (1 : Int32)), (.int (1 : Int32))])) _
          refine XS.iadd X269.here hx rfl (hb hby at_125) rfl ?_
          show Steps p.tables e below (T269.setTop (mkF m 126 #[.val (.long z0), .second, .val (.int p1), .val (.int p2), .val (.int p3), .val (.int p4), .val (.long z0), .second, .val (.int (1 : Int32)), .val (.int (1 : Int32)), .val (.ref r240), .val (.ref r242), .val (.ref r244), .val (.ref b246), .unset, .unset, .unset, .unset, .unset, .unset, .unset, .unset, .unset] [(.int (2 : Int32))])) _
          refine XS.iload X269.here hx rfl (hb hby at_126) rfl ?_
          refine XS.ifNo X269.here hx rfl (hb hby at_128) rfl ((if0 _ _).trans (feq (by decide : ¬ ((1 : Int32) = (0 : Int32)))).1) ?_
          refine XS.iconst X269.here hx rfl (hb hby at_131) ?_
          refine XS.goto X269.here hx rfl (pc0 := 132) (pc' := 136) rfl (hb hby at_132) (by decide) (by decide) ?_
          refine XS.isub X269.here hx rfl (hb hby at_136) rfl ?_
          show Steps p.tables e below (T269.setTop (mkF m 137 #[.val (.long z0), .second, .val (.int p1), .val (.int p2), .val (.int p3), .val (.int p4), .val (.long z0), .second, .val (.int (1 : Int32)), .val (.int (1 : Int32)), .val (.ref r240), .val (.ref r242), .val (.ref r244), .val (.ref b246), .unset, .unset, .unset, .unset, .unset, .unset, .unset, .unset, .unset] [(.int (1 : Int32))])) _
          refine XS.iconst X269.here hx rfl (hb hby at_137) ?_
          refine XS.iadd X269.here hx rfl (hb hby at_138) rfl ?_
          show Steps p.tables e below (T269.setTop (mkF m 139 #[.val (.long z0), .second, .val (.int p1), .val (.int p2), .val (.int p3), .val (.int p4), .val (.long z0), .second, .val (.int (1 : Int32)), .val (.int (1 : Int32)), .val (.ref r240), .val (.ref r242), .val (.ref r244), .val (.ref b246), .unset, .unset, .unset, .unset, .unset, .unset, .unset, .unset, .unset] [(.int (2 : Int32))])) _
          refine XS.istore X269.here hx rfl (hb hby at_139) rfl (l' := #[.val (.long z0), .second, .val (.int p1), .val (.int p2), .val (.int p3), .val (.int p4), .val (.long z0), .second, .val (.int (1 : Int32)), .val (.int (1 : Int32)), .val (.ref r240), .val (.ref r242), .val (.ref r244), .val (.ref b246), .val (.int (2 : Int32)), .unset, .unset, .unset, .unset, .unset, .unset, .unset, .unset]) rfl ?_
          refine XS.lload X269.here hx rfl (hb hby at_141) rfl ?_
          refine XS.iload X269.here hx rfl (hb hby at_143) rfl ?_
          refine XS.ifNo X269.here hx rfl (hb hby at_145) rfl ((if0 _ _).trans (feq (by decide : ¬ ((1 : Int32) = (0 : Int32)))).1) ?_
          show Steps p.tables e below (T269.setTop (mkF m 148 #[.val (.long z0), .second, .val (.int p1), .val (.int p2), .val (.int p3), .val (.int p4), .val (.long z0), .second, .val (.int (1 : Int32)), .val (.int (1 : Int32)), .val (.ref r240), .val (.ref r242), .val (.ref r244), .val (.ref b246), .val (.int (2 : Int32)), .unset, .unset, .unset, .unset, .unset, .unset, .unset, .unset] [(.long z0)])) _
          refine XS.lconst X269.here hx rfl (hb hby at_148) ?_
          refine XS.goto X269.here hx rfl (pc0 := 149) (pc' := 153) rfl (hb hby at_149) (by decide) (by decide) ?_
          refine XS.ladd X269.here hx rfl (hb hby at_153) rfl ?_
          refine XS.lstore X269.here hx rfl (hb hby at_154) rfl (l' := #[.val (.long z0), .second, .val (.int p1), .val (.int p2), .val (.int p3), .val (.int p4), .val (.long z0), .second, .val (.int (1 : Int32)), .val (.int (1 : Int32)), .val (.ref r240), .val (.ref r242), .val (.ref r244), .val (.ref b246), .val (.int (2 : Int32)), .val (.long (z0 + (1 : Int64))), .second, .unset, .unset, .unset, .unset, .unset, .unset]) rfl ?_
          refine XS.lload X269.here hx rfl (hb hby at_156) rfl ?_
          refine XS.iload X269.here hx rfl (hb hby at_158) rfl ?_
          show Steps p.tables e below (T269.setTop (mkF m 160 #[.val (.long z0), .second, .val (.int p1), .val (.int p2), .val (.int p3), .val (.int p4), .val (.long z0), .second, .val (.int (1 : Int32)), .val (.int (1 : Int32)), .val (.ref r240), .val (.ref r242), .val (.ref r244), .val (.ref b246), .val (.int (2 : Int32)), .val (.long (z0 + (1 : Int64))), .second, .unset, .unset, .unset, .unset, .unset, .unset] [(.int (1 : Int32)), (.long z0)])) _
          refine XS.ifNo X269.here hx rfl (hb hby at_160) rfl ((if0 _ _).trans (feq (by decide : ¬ ((1 : Int32) = (0 : Int32)))).1) ?_
          refine X269.ldc2Long hx hown (mvT hZ (wq hw 48 rfl)) (g := (mkF m 163 #[.val (.long z0), .second, .val (.int p1), .val (.int p2), .val (.int p3), .val (.int p4), .val (.long z0), .second, .val (.int (1 : Int32)), .val (.int (1 : Int32)), .val (.ref r240), .val (.ref r242), .val (.ref r244), .val (.ref b246), .val (.int (2 : Int32)), .val (.long (z0 + (1 : Int64))), .second, .unset, .unset, .unset, .unset, .unset, .unset] [(.long z0)])) rfl (hb hby at_163) _ ?_
          refine XS.goto X269.here hx rfl (pc0 := 166) (pc' := 170) rfl (hb hby at_166) (by decide) (by decide) ?_
          refine XS.ladd X269.here hx rfl (hb hby at_170) rfl ?_
          refine XS.lstore X269.here hx rfl (hb hby at_171) rfl (l' := #[.val (.long z0), .second, .val (.int p1), .val (.int p2), .val (.int p3), .val (.int p4), .val (.long z0), .second, .val (.int (1 : Int32)), .val (.int (1 : Int32)), .val (.ref r240), .val (.ref r242), .val (.ref r244), .val (.ref b246), .val (.int (2 : Int32)), .val (.long (z0 + (1 : Int64))), .second, .val (.long (z0 + (2 : Int64))), .second, .unset, .unset, .unset, .unset]) rfl ?_
          refine XS.lload X269.here hx rfl (hb hby at_173) rfl ?_
          show Steps p.tables e below (T269.setTop (mkF m 175 #[.val (.long z0), .second, .val (.int p1), .val (.int p2), .val (.int p3), .val (.int p4), .val (.long z0), .second, .val (.int (1 : Int32)), .val (.int (1 : Int32)), .val (.ref r240), .val (.ref r242), .val (.ref r244), .val (.ref b246), .val (.int (2 : Int32)), .val (.long (z0 + (1 : Int64))), .second, .val (.long (z0 + (2 : Int64))), .second, .unset, .unset, .unset, .unset] [(.long (z0 + (2 : Int64)))])) _
          refine XS.lconst X269.here hx rfl (hb hby at_175) ?_
          refine XS.lsub X269.here hx rfl (hb hby at_176) rfl ?_
          refine XS.lstore X269.here hx rfl (hb hby at_177) rfl (l' := #[.val (.long z0), .second, .val (.int p1), .val (.int p2), .val (.int p3), .val (.int p4), .val (.long z0), .second, .val (.int (1 : Int32)), .val (.int (1 : Int32)), .val (.ref r240), .val (.ref r242), .val (.ref r244), .val (.ref b246), .val (.int (2 : Int32)), .val (.long (z0 + (1 : Int64))), .second, .val (.long (z0 + (2 : Int64))), .second, .val (.long ((z0 + (2 : Int64)) - (1 : Int64))), .second, .unset, .unset]) rfl ?_
          refine XS.iload X269.here hx rfl (hb hby at_179) rfl ?_
          refine XS.ifNo X269.here hx rfl (hb hby at_181) rfl ((if0 _ _).trans (feq (by decide : ¬ ((1 : Int32) = (0 : Int32)))).1) ?_
          refine XS.iload X269.here hx rfl (hb hby at_184) rfl ?_
          show Steps p.tables e below (T269.setTop (mkF m 186 #[.val (.long z0), .second, .val (.int p1), .val (.int p2), .val (.int p3), .val (.int p4), .val (.long z0), .second, .val (.int (1 : Int32)), .val (.int (1 : Int32)), .val (.ref r240), .val (.ref r242), .val (.ref r244), .val (.ref b246), .val (.int (2 : Int32)), .val (.long (z0 + (1 : Int64))), .second, .val (.long (z0 + (2 : Int64))), .second, .val (.long ((z0 + (2 : Int64)) - (1 : Int64))), .second, .unset, .unset] [(.int (1 : Int32))])) _
          refine XS.ifYes X269.here hx rfl (pc0 := 186) (pc' := 193) rfl (hb hby at_186) rfl ((if0 _ _).trans (feq (by decide : ¬ ((1 : Int32) = (0 : Int32)))).2) (by decide) (by decide) ?_
          refine XS.aload X269.here hx rfl (hb hby at_193) rfl rfl ?_
          refine XS.astore X269.here hx rfl (hb hby at_195) rfl rfl (l' := #[.val (.long z0), .second, .val (.int p1), .val (.int p2), .val (.int p3), .val (.int p4), .val (.long z0), .second, .val (.int (1 : Int32)), .val (.int (1 : Int32)), .val (.ref r240), .val (.ref r242), .val (.ref r244), .val (.ref b246), .val (.int (2 : Int32)), .val (.long (z0 + (1 : Int64))), .second, .val (.long (z0 + (2 : Int64))), .second, .val (.long ((z0 + (2 : Int64)) - (1 : Int64))), .second, .val (.ref r242), .unset]) rfl ?_
          refine XS.aload X269.here hx rfl (hb hby at_197) rfl rfl ?_
          refine st271.trans ?_
          refine XS.iload X271.here hx rfl (hb hby at_202) rfl ?_
          show Steps p.tables e below (T271.setTop (mkF m 204 #[.val (.long z0), .second, .val (.int p1), .val (.int p2), .val (.int p3), .val (.int p4), .val (.long z0), .second, .val (.int (1 : Int32)), .val (.int (1 : Int32)), .val (.ref r240), .val (.ref r242), .val (.ref r244), .val (.ref b246), .val (.int (2 : Int32)), .val (.long (z0 + (1 : Int64))), .second, .val (.long (z0 + (2 : Int64))), .second, .val (.long ((z0 + (2 : Int64)) - (1 : Int64))), .second, .val (.ref r242), .unset] [(.int (2 : Int32)), (.int (2 : Int32))])) _
          refine XS.icmpNo X271.here hx rfl (hb hby at_204) rfl (teq (by decide : (2 : Int32) = (2 : Int32))).2 ?_
          refine XS.iconst X271.here hx rfl (hb hby at_207) ?_
          refine XS.goto X271.here hx rfl (pc0 := 208) (pc' := 212) rfl (hb hby at_208) (by decide) (by decide) ?_
          refine XS.istore X271.here hx rfl (hb hby at_212) rfl (l' := #[.val (.long z0), .second, .val (.int p1), .val (.int p2), .val (.int p3), .val (.int p4), .val (.long z0), .second, .val (.int (1 : Int32)), .val (.int (1 : Int32)), .val (.ref r240), .val (.ref r242), .val (.ref r244), .val (.ref b246), .val (.int (2 : Int32)), .val (.long (z0 + (1 : Int64))), .second, .val (.long (z0 + (2 : Int64))), .second, .val (.long ((z0 + (2 : Int64)) - (1 : Int64))), .second, .val (.ref r242), .val (.int (1 : Int32))]) rfl ?_
          refine XS.iload X271.here hx rfl (hb hby at_214) rfl ?_
          refine XS.ifNo X271.here hx rfl (hb hby at_216) rfl ((if0 _ _).trans (feq (by decide : ¬ ((1 : Int32) = (0 : Int32)))).1) ?_
          show Steps p.tables e below (T271.setTop (mkF m 219 #[.val (.long z0), .second, .val (.int p1), .val (.int p2), .val (.int p3), .val (.int p4), .val (.long z0), .second, .val (.int (1 : Int32)), .val (.int (1 : Int32)), .val (.ref r240), .val (.ref r242), .val (.ref r244), .val (.ref b246), .val (.int (2 : Int32)), .val (.long (z0 + (1 : Int64))), .second, .val (.long (z0 + (2 : Int64))), .second, .val (.long ((z0 + (2 : Int64)) - (1 : Int64))), .second, .val (.ref r242), .val (.int (1 : Int32))] [])) _
          refine XS.aload X271.here hx rfl (hb hby at_219) rfl rfl ?_
          refine st272.trans ?_
          refine XS.lload X272.here hx rfl (hb hby at_224) rfl ?_
          refine XS.lcmp X272.here hx rfl (hb hby at_226) rfl ?_
          refine XS.ifNo X272.here hx rfl (hb hby at_227) rfl ((if0 _ _).trans (teq ((lw_eq _ _).mpr rfl)).2) ?_
          refine XS.iconst X272.here hx rfl (hb hby at_230) ?_
          show Steps p.tables e below (T272.setTop (mkF m 231 #[.val (.long z0), .second, .val (.int p1), .val (.int p2), .val (.int p3), .val (.int p4), .val (.long z0), .second, .val (.int (1 : Int32)), .val (.int (1 : Int32)), .val (.ref r240), .val (.ref r242), .val (.ref r244), .val (.ref b246), .val (.int (2 : Int32)), .val (.long (z0 + (1 : Int64))), .second, .val (.long (z0 + (2 : Int64))), .second, .val (.long ((z0 + (2 : Int64)) - (1 : Int64))), .second, .val (.ref r242), .val (.int (1 : Int32))] [(.int (1 : Int32))])) _
          refine XS.goto X272.here hx rfl (pc0 := 231) (pc' := 235) rfl (hb hby at_231) (by decide) (by decide) ?_
          refine XS.istore X272.here hx rfl (hb hby at_235) rfl (l' := #[.val (.long z0), .second, .val (.int p1), .val (.int p2), .val (.int p3), .val (.int p4), .val (.long z0), .second, .val (.int (1 : Int32)), .val (.int (1 : Int32)), .val (.ref r240), .val (.ref r242), .val (.ref r244), .val (.ref b246), .val (.int (2 : Int32)), .val (.long (z0 + (1 : Int64))), .second, .val (.long (z0 + (2 : Int64))), .second, .val (.long ((z0 + (2 : Int64)) - (1 : Int64))), .second, .val (.ref r242), .val (.int (1 : Int32))]) rfl ?_
          refine XS.iload X272.here hx rfl (hb hby at_237) rfl ?_
          refine XS.ifNo X272.here hx rfl (hb hby at_239) rfl ((if0 _ _).trans (feq (by decide : ¬ ((1 : Int32) = (0 : Int32)))).1) ?_
          refine XS.aload X272.here hx rfl (hb hby at_242) rfl rfl ?_
          refine XS.lload X272.here hx rfl (hb hby at_244) rfl ?_
          show Steps p.tables e below (T272.setTop (mkF m 246 #[.val (.long z0), .second, .val (.int p1), .val (.int p2), .val (.int p3), .val (.int p4), .val (.long z0), .second, .val (.int (1 : Int32)), .val (.int (1 : Int32)), .val (.ref r240), .val (.ref r242), .val (.ref r244), .val (.ref b246), .val (.int (2 : Int32)), .val (.long (z0 + (1 : Int64))), .second, .val (.long (z0 + (2 : Int64))), .second, .val (.long ((z0 + (2 : Int64)) - (1 : Int64))), .second, .val (.ref r242), .val (.int (1 : Int32))] [(.long (z0 + (2 : Int64))), (.ref b246)])) _
          refine st273.trans ?_
          refine XS.aload X273.here hx rfl (hb hby at_249) rfl rfl ?_
          refine Jvm.RoadKit.acmp (g := (mkF m 251 #[.val (.long z0), .second, .val (.int p1), .val (.int p2), .val (.int p3), .val (.int p4), .val (.long z0), .second, .val (.int (1 : Int32)), .val (.int (1 : Int32)), .val (.ref r240), .val (.ref r242), .val (.ref r244), .val (.ref b246), .val (.int (2 : Int32)), .val (.long (z0 + (1 : Int64))), .second, .val (.long (z0 + (2 : Int64))), .second, .val (.long ((z0 + (2 : Int64)) - (1 : Int64))), .second, .val (.ref r242), .val (.int (1 : Int32))] [(.ref r244), (.ref r244)])) X273 hx rfl rfl rfl (pc0 := 251) (pc' := 254) (same := true) rfl (hb hby at_251) rfl (decide_eq_true rfl) (by decide) (by decide) ?_
          refine XS.iconst X273.here hx rfl (hb hby at_254) ?_
          refine XS.goto X273.here hx rfl (pc0 := 255) (pc' := 259) rfl (hb hby at_255) (by decide) (by decide) ?_
          refine XS.istore X273.here hx rfl (hb hby at_259) rfl (l' := #[.val (.long z0), .second, .val (.int p1), .val (.int p2), .val (.int p3), .val (.int p4), .val (.long z0), .second, .val (.int (1 : Int32)), .val (.int (1 : Int32)), .val (.ref r240), .val (.ref r242), .val (.ref r244), .val (.ref b246), .val (.int (2 : Int32)), .val (.long (z0 + (1 : Int64))), .second, .val (.long (z0 + (2 : Int64))), .second, .val (.long ((z0 + (2 : Int64)) - (1 : Int64))), .second, .val (.ref r242), .val (.int (1 : Int32))]) rfl ?_
          show Steps p.tables e below (T273.setTop (mkF m 261 #[.val (.long z0), .second, .val (.int p1), .val (.int p2), .val (.int p3), .val (.int p4), .val (.long z0), .second, .val (.int (1 : Int32)), .val (.int (1 : Int32)), .val (.ref r240), .val (.ref r242), .val (.ref r244), .val (.ref b246), .val (.int (2 : Int32)), .val (.long (z0 + (1 : Int64))), .second, .val (.long (z0 + (2 : Int64))), .second, .val (.long ((z0 + (2 : Int64)) - (1 : Int64))), .second, .val (.ref r242), .val (.int (1 : Int32))] [])) _
          refine XS.iload X273.here hx rfl (hb hby at_261) rfl ?_
          refine XS.ifNo X273.here hx rfl (hb hby at_263) rfl ((if0 _ _).trans (feq (by decide : ¬ ((1 : Int32) = (0 : Int32)))).1) ?_
          refine XS.aload X273.here hx rfl (hb hby at_266) rfl rfl ?_
          refine XS.lload X273.here hx rfl (hb hby at_268) rfl ?_
          refine st274.trans ?_
          refine XS.aload X274.here hx rfl (hb hby at_273) rfl rfl ?_
          show Steps p.tables e below (T274.setTop (mkF m 275 #[.val (.long z0), .second, .val (.int p1), .val (.int p2), .val (.int p3), .val (.int p4), .val (.long z0), .second, .val (.int (1 : Int32)), .val (.int (1 : Int32)), .val (.ref r240), .val (.ref r242), .val (.ref r244), .val (.ref b246), .val (.int (2 : Int32)), .val (.long (z0 + (1 : Int64))), .second, .val (.long (z0 + (2 : Int64))), .second, .val (.long ((z0 + (2 : Int64)) - (1 : Int64))), .second, .val (.ref r242), .val (.int (1 : Int32))] [(.ref r242), (.ref r242)])) _
          refine Jvm.RoadKit.acmp (g := (mkF m 275 #[.val (.long z0), .second, .val (.int p1), .val (.int p2), .val (.int p3), .val (.int p4), .val (.long z0), .second, .val (.int (1 : Int32)), .val (.int (1 : Int32)), .val (.ref r240), .val (.ref r242), .val (.ref r244), .val (.ref b246), .val (.int (2 : Int32)), .val (.long (z0 + (1 : Int64))), .second, .val (.long (z0 + (2 : Int64))), .second, .val (.long ((z0 + (2 : Int64)) - (1 : Int64))), .second, .val (.ref r242), .val (.int (1 : Int32))] [(.ref r242), (.ref r242)])) X274 hx rfl rfl rfl (pc0 := 275) (pc' := 278) (same := true) rfl (hb hby at_275) rfl (decide_eq_true rfl) (by decide) (by decide) ?_
          refine XS.iconst X274.here hx rfl (hb hby at_278) ?_
          refine XS.goto X274.here hx rfl (pc0 := 279) (pc' := 283) rfl (hb hby at_279) (by decide) (by decide) ?_
          refine XS.istore X274.here hx rfl (hb hby at_283) rfl (l' := #[.val (.long z0), .second, .val (.int p1), .val (.int p2), .val (.int p3), .val (.int p4), .val (.long z0), .second, .val (.int (1 : Int32)), .val (.int (1 : Int32)), .val (.ref r240), .val (.ref r242), .val (.ref r244), .val (.ref b246), .val (.int (2 : Int32)), .val (.long (z0 + (1 : Int64))), .second, .val (.long (z0 + (2 : Int64))), .second, .val (.long ((z0 + (2 : Int64)) - (1 : Int64))), .second, .val (.ref r242), .val (.int (1 : Int32))]) rfl ?_
          refine XS.iload X274.here hx rfl (hb hby at_285) rfl ?_
          refine XS.ifNo X274.here hx rfl (hb hby at_287) rfl ((if0 _ _).trans (feq (by decide : ¬ ((1 : Int32) = (0 : Int32)))).1) ?_
          show Steps p.tables e below (T274.setTop (mkF m 290 #[.val (.long z0), .second, .val (.int p1), .val (.int p2), .val (.int p3), .val (.int p4), .val (.long z0), .second, .val (.int (1 : Int32)), .val (.int (1 : Int32)), .val (.ref r240), .val (.ref r242), .val (.ref r244), .val (.ref b246), .val (.int (2 : Int32)), .val (.long (z0 + (1 : Int64))), .second, .val (.long (z0 + (2 : Int64))), .second, .val (.long ((z0 + (2 : Int64)) - (1 : Int64))), .second, .val (.ref r242), .val (.int (1 : Int32))] [])) _
          refine XS.aload X274.here hx rfl (hb hby at_290) rfl rfl ?_
          refine XS.lload X274.here hx rfl (hb hby at_292) rfl ?_
          refine XS.lconst X274.here hx rfl (hb hby at_294) ?_
          refine XS.ladd X274.here hx rfl (hb hby at_295) rfl ?_
          refine st275.trans ?_
          refine XS.ifnonnullNo X275.here hx rfl (hb hby at_299) rfl ?_
          show Steps p.tables e below (T275.setTop (mkF m 302 #[.val (.long z0), .second, .val (.int p1), .val (.int p2), .val (.int p3), .val (.int p4), .val (.long z0), .second, .val (.int (1 : Int32)), .val (.int (1 : Int32)), .val (.ref r240), .val (.ref r242), .val (.ref r244), .val (.ref b246), .val (.int (2 : Int32)), .val (.long (z0 + (1 : Int64))), .second, .val (.long (z0 + (2 : Int64))), .second, .val (.long ((z0 + (2 : Int64)) - (1 : Int64))), .second, .val (.ref r242), .val (.int (1 : Int32))] [])) _
          refine XS.iconst X275.here hx rfl (hb hby at_302) ?_
          refine XS.goto X275.here hx rfl (pc0 := 303) (pc' := 307) rfl (hb hby at_303) (by decide) (by decide) ?_
          refine XS.istore X275.here hx rfl (hb hby at_307) rfl (l' := #[.val (.long z0), .second, .val (.int p1), .val (.int p2), .val (.int p3), .val (.int p4), .val (.long z0), .second, .val (.int (1 : Int32)), .val (.int (1 : Int32)), .val (.ref r240), .val (.ref r242), .val (.ref r244), .val (.ref b246), .val (.int (2 : Int32)), .val (.long (z0 + (1 : Int64))), .second, .val (.long (z0 + (2 : Int64))), .second, .val (.long ((z0 + (2 : Int64)) - (1 : Int64))), .second, .val (.ref r242), .val (.int (1 : Int32))]) rfl ?_
          refine XS.iload X275.here hx rfl (hb hby at_309) rfl ?_
          exact retN X275 hx (t := .boolean) Bd.returns (by simp) (hb hby at_311) hr
        · show Q0 n0 _ T275.heap _
          rw [e275]
          exact ⟨rfl, N275⟩
set_option maxRecDepth 65536 in
set_option maxHeartbeats 40000000 in
theorem comes_1 {Post : Tables → Env → Array Value → State → Outcome → State → Prop} (hpost : ∀ tb e args s v u, (limb_1_1.after args s (.returned v) u = true ∧ limb_1_2.after args s (.returned v) u = true ∧ True) → FrameEnd s (.returned v) u (Jvm.fieldLocs frame_1_writes args s ++ Jvm.arrayLocs frame_1_arrays args s ++ Jvm.staticLocs frame_1_statics s) 24 128 → Post tb e args s (.returned v) u) :
    ArmFor flags0 classFile x code maxLocals ret World_1 tables_1 room_1 Calls_1 rest_1 Pre_1 Post := by
  intro l hfl _ _ p e ha hc hk s m args below hf hA hF happ hP
  obtain ⟨hcalls, hrest, hpre⟩ := hP
  obtain ⟨-, -, -, hnamed, -, -, -, hat⟩ := (Spec.applies_iff hf).mp happ
  obtain ⟨hg, hn⟩ := and_e (Cond.before_iff.mp (show (Jvm.Cond.and given_1 narrow_1).before args s = true from hpre))
  obtain ⟨g0, r0⟩ := and_e hg
  obtain ⟨g1, r1⟩ := and_e r0
  obtain ⟨g2, r2⟩ := and_e r1
  obtain ⟨g3, r3⟩ := and_e r2
  obtain ⟨g4, r4⟩ := and_e r3
  obtain ⟨w0, w1, w2, w3, w4, rfl⟩ : ∃ w0 w1 w2 w3 w4 : Value, args = #[w0, w1, w2, w3, w4] := by
    have hs : args.size = 5 := by simpa [Cond.value, given_1] using g0
    obtain ⟨L⟩ := args
    match L, hs with
    | [w0, w1, w2, w3, w4], _ => exact ⟨w0, w1, w2, w3, w4, rfl⟩
  have hw := fun d (hd : d ∈ tables_1) => atoms_spec (ws := Jvm.Cond.code x code maxLocals ret :: tables_1) hat d (List.mem_cons_of_mem _ hd)
  have hfit : Fit s := fun {y c} hc i hi => by
    obtain ⟨ha, rfl⟩ := Array.getElem?_eq_some_iff.mp hc
    have q := List.all_eq_true.mp ((Array.all_eq_true_iff_forall_mem.mp hF) _ (Array.getElem_mem ha)) i (List.mem_range.mpr hi)
    simpa [Array.getElem?_eq_getElem hi] using q
  obtain ⟨hsets, hown0⟩ := atoms_of _ (rest_1_c_eq ▸ (show rest_1_c.before _ s = true from hrest))
  obtain ⟨i0, ei0⟩ := isL_v g1
  obtain rfl : w0 = (.long i0) := Option.some.inj ei0
  obtain ⟨i1, ei1⟩ := is_v g2
  obtain rfl : w1 = (.int i1) := Option.some.inj ei1
  obtain ⟨i2, ei2⟩ := is_v g3
  obtain rfl : w2 = (.int i2) := Option.some.inj ei2
  obtain ⟨i3, ei3⟩ := is_v g4
  obtain rfl : w3 = (.int i3) := Option.some.inj ei3
  obtain ⟨i4, ei4⟩ := is_v r4
  obtain rfl : w4 = (.int i4) := Option.some.inj ei4
  obtain ⟨ca, cc, hL⟩ := own_icb (hsets _ (List.mem_of_getElem? (i := 1) rfl)) (wq hw 6 rfl) (hsets _ (List.mem_of_getElem? (i := 2) rfl)) (hsets _ (List.mem_of_getElem? (i := 3) rfl)) (hsets _ (List.mem_of_getElem? (i := 4) rfl)) (hsets _ (List.mem_of_getElem? (i := 6) rfl)) (hsets _ (List.mem_of_getElem? (i := 7) rfl))
  obtain ⟨n, o, h1, h2, h3, _, L, rfl, ⟨rfl, N⟩, hq⟩ := rm0 l s _ hw tables_1 ca cc hL i0 i1 i2 i3 i4 s.heap s.heap.size (Old.start s) p e ha hc hk s m _ below hf ((Spec.applies_iff_loose hf).mp happ).1 ⟨rfl, State.Warmed39.refl s, rfl⟩ trivial
  refine ⟨n, _, h1, h2, h3, hpost _ _ _ _ _ _ ⟨Cond.after_iff.mpr rfl, Cond.after_iff.mpr (eq_i res_at (Term.int_eval (1)) rfl), trivial⟩ ⟨hq.1, hq.2.1, (hq.2.2.sift fun y hy => Or.inr (N y hy)).mono (by decide) (by decide)⟩⟩
theorem main_1_1 : Claimed_1_1 := comes_1 fun _ _ _ _ _ _ h hF => ⟨h.1, hF⟩
theorem main_1_2 : Claimed_1_2 := comes_1 fun _ _ _ _ _ _ h hF => ⟨h.2.1, hF⟩
end Jvm.Pilot.@@N@@
-- the witness, by the kit's program
namespace Jvm.Pilot.@@N@@
open Jvm Jvm.ClassFile Sem Op Lib Jvm.Free Jvm.Stand Jvm.Pilot.@@N@@.Jvm.D
/-! MADE BY PROGRAM (witnessworld.py) out of the Statement's table words and the real class files: 17 classes; the members and pool entries that the words name. The judged class is class 1, her method 1. -/
namespace start1
open Jvm.ClassFile
def u (s : String) : CpInfo := .utf8 (stringToUtf16 s)
/-- a pool by its gaps: so many unusable entries, then the entry; so many at the end -/
def gap : Nat → List CpInfo → List CpInfo
  | 0, r => r
  | n + 1, r => .unusable :: gap n r
def poolList (es : List (Nat × CpInfo)) (last : Nat) : List CpInfo := es.foldr (fun e r => gap e.1 (e.2 :: r)) (gap last [])
def pool (es : List (Nat × CpInfo)) (last : Nat) : Array CpInfo := ⟨poolList es last⟩
def fileOf (pool : Array CpInfo) (this : Nat) (attrs : Array Attribute := #[]) (ms : Array MethodInfo := #[]) (fl : Nat := 33) (sup : Nat := 0) (ifs : Array Nat := #[]) (fds : Array FieldInfo := #[]) : ClassFile where
  minorVersion := 0
  majorVersion := 65
  constantPool := pool
  accessFlags := fl
  thisClass := this
  superClass := sup
  interfaces := ifs
  fields := fds
  methods := ms
  attributes := attrs
def plain (name : String) (sup : Option ClassId) : Class where
  name := name
  kind := .ordinary
  loader := none
  accessFlags := 33
  super := sup
  interfaces := #[]
  cf := none
  fields := #[]
  methods := #[]
  instanceTypes := #[]
  staticTypes := #[]
  resolved := #[]
  callSites := []
  init := .initialized
  statics := none
  mirror := none

def pool0 : Array CpInfo := pool [(5, u "<init>"), (0, u "()V"), (1, .class_ 10), (1, u "java/lang/Object")] 113

def k0c0 : Code := { maxStack := 0, maxLocals := 1, code := object_method_1_code, exceptionTable := #[], attributes := #[] }
def k0m0 : Method := { name := "<init>", desc := "()V", sig := { parameters := [], returnType := none }, accessFlags := 1, code := some k0c0 }
/-- java/lang/Object -/
def k0 : Class := { plain "java/lang/Object" none with
  accessFlags := 33
  interfaces := #[]
  cf := some (fileOf pool0 8 #[] #[{ accessFlags := 1, nameIndex := 5, descriptorIndex := 6, attributes := #[] }] 33 0 #[] #[])
  fields := #[]
  methods := #[k0m0]
  instanceTypes := #[]
  staticTypes := #[]
  resolved := Array.replicate 124 none
  statics := none }

def pool1 : Array CpInfo := pool [(2, .class_ 4), (1, u "java/lang/Object"), (0, u "<init>"), (0, u "()V"), (2, .long 9223372036854775799), (1, .long 8), (1, .methodref 14 15), (0, .class_ 16), (0, .nameAndType 17 18), (0, u "java/lang/Integer"), (0, u "valueOf"), (0, u "(I)Ljava/lang/Integer;"), (0, .class_ 20), (0, u "com/example/hold_until_acked/holduntilacked/engine/ConsecutiveRing"), (0, .methodref 19 22), (0, .nameAndType 5 23), (0, u "(J)V"), (0, .methodref 19 25), (0, .nameAndType 26 27), (0, u "add"), (0, u "(Ljava/lang/Object;)V"), (0, .methodref 19 29), (0, .nameAndType 30 31), (0, u "removeFirst"), (0, u "()Ljava/lang/Object;"), (0, .long 2), (1, .methodref 19 35), (0, .nameAndType 36 37), (0, u "size"), (0, u "()I"), (0, .methodref 19 39), (0, .nameAndType 40 41), (0, u "firstNumber"), (0, u "()J"), (0, .methodref 19 43), (0, .nameAndType 44 45), (0, u "get"), (0, u "(J)Ljava/lang/Object;"), (0, .class_ 47), (0, u "com/example/hold_until_acked/holduntilacked/engine/ConsecutiveRingAddPinLaw"), (2, u "law"), (0, u "(JIIII)Z")] 3

def k1m0 : Method := { name := "<init>", desc := "()V", sig := { parameters := [], returnType := none }, accessFlags := 1, code := none }
def k1c1 : Code := { maxStack := 5, maxLocals := 23, code := code, exceptionTable := #[], attributes := #[] }
def k1m1 : Method := { name := "law", desc := "(JIIII)Z", sig := { parameters := [.long, .int, .int, .int, .int], returnType := some .boolean }, accessFlags := 9, code := some k1c1 }
/-- com/example/hold_until_acked/holduntilacked/engine/ConsecutiveRingAddPinLaw -/
def k1 : Class := { plain "com/example/hold_until_acked/holduntilacked/engine/ConsecutiveRingAddPinLaw" (some 0) with
  accessFlags := 49
  interfaces := #[]
  cf := some (fileOf pool1 46 #[] #[{ accessFlags := 1, nameIndex := 5, descriptorIndex := 6, attributes := #[] }, { accessFlags := 9, nameIndex := 50, descriptorIndex := 51, attributes := #[] }] 49 2 #[] #[])
  fields := #[]
  methods := #[k1m0, k1m1]
  instanceTypes := #[]
  staticTypes := #[]
  resolved := Array.replicate 55 none
  statics := none }

def pool2 : Array CpInfo := pool [(1, .class_ 2), (0, u "java/io/Serializable"), (0, .class_ 4), (0, u "java/lang/Object")] 2

/-- java/io/Serializable -/
def k2 : Class := { plain "java/io/Serializable" (some 0) with
  accessFlags := 1537
  interfaces := #[]
  cf := some (fileOf pool2 1 #[] #[] 1537 3 #[] #[])
  fields := #[]
  methods := #[]
  instanceTypes := #[]
  staticTypes := #[]
  resolved := Array.replicate 7 none
  statics := none }

def pool3 : Array CpInfo := pool [(1, .methodref 2 3), (0, .class_ 4), (0, .nameAndType 5 6), (0, u "java/lang/Object"), (0, u "<init>"), (0, u "()V"), (1, .class_ 10), (1, u "java/lang/Number"), (2, .class_ 14), (0, u "java/io/Serializable"), (0, u "serialVersionUID"), (0, u "J")] 20

def k3c0 : Code := { maxStack := 1, maxLocals := 1, code := jdk_18_method_1_code, exceptionTable := #[], attributes := #[] }
def k3m0 : Method := { name := "<init>", desc := "()V", sig := { parameters := [], returnType := none }, accessFlags := 1, code := some k3c0 }
/-- java/lang/Number -/
def k3 : Class := { plain "java/lang/Number" (some 0) with
  accessFlags := 1057
  interfaces := #[2]
  cf := some (fileOf pool3 8 #[] #[{ accessFlags := 1, nameIndex := 5, descriptorIndex := 6, attributes := #[] }] 1057 2 #[13] #[{ accessFlags := 26, nameIndex := 15, descriptorIndex := 16, attributes := #[] }])
  fields := #[{ name := "serialVersionUID", type := .long, accessFlags := 26, slot := 0, constantValue := 0 }]
  methods := #[k3m0]
  instanceTypes := #[]
  staticTypes := #[.long]
  resolved := Array.replicate 37 none
  statics := none }

def pool4 : Array CpInfo := pool [(1, .class_ 2), (0, u "java/lang/Comparable"), (0, .class_ 4), (0, u "java/lang/Object")] 7

/-- java/lang/Comparable -/
def k4 : Class := { plain "java/lang/Comparable" (some 0) with
  accessFlags := 1537
  interfaces := #[]
  cf := some (fileOf pool4 1 #[] #[] 1537 3 #[] #[])
  fields := #[]
  methods := #[]
  instanceTypes := #[]
  staticTypes := #[]
  resolved := Array.replicate 12 none
  statics := none }

def pool5 : Array CpInfo := pool [(1, .class_ 2), (0, u "java/lang/constant/Constable"), (0, .class_ 4), (0, u "java/lang/Object")] 6

/-- java/lang/constant/Constable -/
def k5 : Class := { plain "java/lang/constant/Constable" (some 0) with
  accessFlags := 1537
  interfaces := #[]
  cf := some (fileOf pool5 1 #[] #[] 1537 3 #[] #[])
  fields := #[]
  methods := #[]
  instanceTypes := #[]
  staticTypes := #[]
  resolved := Array.replicate 11 none
  statics := none }

def pool6 : Array CpInfo := pool [(1, .class_ 2), (0, u "java/lang/constant/ConstantDesc"), (0, .class_ 4), (0, u "java/lang/Object")] 32

/-- java/lang/constant/ConstantDesc -/
def k6 : Class := { plain "java/lang/constant/ConstantDesc" (some 0) with
  accessFlags := 1537
  interfaces := #[]
  cf := some (fileOf pool6 1 #[] #[] 1537 3 #[] #[])
  fields := #[]
  methods := #[]
  instanceTypes := #[]
  staticTypes := #[]
  resolved := Array.replicate 37 none
  statics := none }

def pool7 : Array CpInfo := pool [(1, .class_ 2), (0, u "java/lang/Integer"), (16, u "digits"), (0, u "[C"), (46, u "<init>"), (17, u "DigitOnes"), (0, u "[B"), (2, u "DigitTens"), (10, .nameAndType 67 101), (0, u "()V"), (85, u "valueOf"), (0, u "(I)Ljava/lang/Integer;"), (0, .class_ 190), (0, u "java/lang/Integer$IntegerCache"), (0, .fieldref 189 192), (0, .nameAndType 193 194), (0, u "high"), (0, u "I"), (0, .fieldref 189 196), (0, .nameAndType 197 198), (0, u "cache"), (0, u "[Ljava/lang/Integer;"), (0, .methodref 1 200), (0, .nameAndType 67 201), (0, u "(I)V"), (0, .methodref 203 100), (0, .class_ 204), (0, u "java/lang/Number"), (0, .fieldref 1 206), (0, .nameAndType 207 194), (0, u "value"), (94, u "TYPE"), (0, u "Ljava/lang/Class;"), (0, .class_ 305), (0, u "java/lang/Comparable"), (0, .class_ 307), (0, u "java/lang/constant/Constable"), (0, .class_ 309), (0, u "java/lang/constant/ConstantDesc"), (0, u "MIN_VALUE"), (1, u "MAX_VALUE"), (3, u "SIZE"), (1, u "BYTES"), (1, u "serialVersionUID"), (0, u "J")] 131

def k7c0 : Code := { maxStack := 3, maxLocals := 1, code := jdk_33_method_22_code, exceptionTable := #[], attributes := #[] }
def k7m0 : Method := { name := "valueOf", desc := "(I)Ljava/lang/Integer;", sig := { parameters := [.int], returnType := some (.object "java/lang/Integer") }, accessFlags := 9, code := some k7c0 }
def k7c1 : Code := { maxStack := 2, maxLocals := 2, code := jdk_33_method_23_code, exceptionTable := #[], attributes := #[] }
def k7m1 : Method := { name := "<init>", desc := "(I)V", sig := { parameters := [.int], returnType := none }, accessFlags := 1, code := some k7c1 }
/-- java/lang/Integer -/
def k7 : Class := { plain "java/lang/Integer" (some 3) with
  accessFlags := 49
  interfaces := #[4, 5, 6]
  cf := some (fileOf pool7 1 #[.nestMembers #[189]] #[{ accessFlags := 9, nameIndex := 187, descriptorIndex := 188, attributes := #[] }, { accessFlags := 1, nameIndex := 67, descriptorIndex := 201, attributes := #[] }] 49 203 #[304, 306, 308] #[{ accessFlags := 25, nameIndex := 310, descriptorIndex := 194, attributes := #[] }, { accessFlags := 25, nameIndex := 312, descriptorIndex := 194, attributes := #[] }, { accessFlags := 25, nameIndex := 302, descriptorIndex := 303, attributes := #[] }, { accessFlags := 24, nameIndex := 19, descriptorIndex := 20, attributes := #[] }, { accessFlags := 24, nameIndex := 89, descriptorIndex := 86, attributes := #[] }, { accessFlags := 24, nameIndex := 85, descriptorIndex := 86, attributes := #[] }, { accessFlags := 18, nameIndex := 207, descriptorIndex := 194, attributes := #[] }, { accessFlags := 25, nameIndex := 316, descriptorIndex := 194, attributes := #[] }, { accessFlags := 25, nameIndex := 318, descriptorIndex := 194, attributes := #[] }, { accessFlags := 26, nameIndex := 320, descriptorIndex := 321, attributes := #[] }])
  fields := #[{ name := "MIN_VALUE", type := .int, accessFlags := 25, slot := 0, constantValue := 0 }, { name := "MAX_VALUE", type := .int, accessFlags := 25, slot := 1, constantValue := 0 }, { name := "TYPE", type := (.object "java/lang/Class"), accessFlags := 25, slot := 2, constantValue := 0 }, { name := "digits", type := (.array .char), accessFlags := 24, slot := 3, constantValue := 0 }, { name := "DigitTens", type := (.array .byte), accessFlags := 24, slot := 4, constantValue := 0 }, { name := "DigitOnes", type := (.array .byte), accessFlags := 24, slot := 5, constantValue := 0 }, { name := "value", type := .int, accessFlags := 18, slot := 0, constantValue := 0 }, { name := "SIZE", type := .int, accessFlags := 25, slot := 6, constantValue := 0 }, { name := "BYTES", type := .int, accessFlags := 25, slot := 7, constantValue := 0 }, { name := "serialVersionUID", type := .long, accessFlags := 26, slot := 8, constantValue := 0 }]
  methods := #[k7m0, k7m1]
  instanceTypes := #[.int]
  staticTypes := #[.int, .int, (.object "java/lang/Class"), (.array .char), (.array .byte), (.array .byte), .int, .int, .long]
  resolved := Array.replicate 453 none
  statics := none }

def pool8 : Array CpInfo := pool [(2, .class_ 4), (1, u "java/lang/Object"), (0, u "<init>"), (0, u "()V"), (0, .class_ 8), (0, u "java/lang/Integer"), (7, .class_ 18), (1, u "java/lang/Integer$IntegerCache"), (0, u "$assertionsDisabled"), (0, u "Z"), (26, u "high"), (0, u "I"), (8, u "archivedCache"), (0, u "[Ljava/lang/Integer;"), (12, u "cache"), (0, u "low")] 27

def k8m0 : Method := { name := "<init>", desc := "()V", sig := { parameters := [], returnType := none }, accessFlags := 2, code := none }
/-- java/lang/Integer$IntegerCache -/
def k8 : Class := { plain "java/lang/Integer$IntegerCache" (some 0) with
  accessFlags := 48
  interfaces := #[]
  cf := some (fileOf pool8 16 #[.nestHost 7] #[{ accessFlags := 2, nameIndex := 5, descriptorIndex := 6, attributes := #[] }] 48 2 #[] #[{ accessFlags := 24, nameIndex := 72, descriptorIndex := 48, attributes := #[] }, { accessFlags := 24, nameIndex := 47, descriptorIndex := 48, attributes := #[] }, { accessFlags := 24, nameIndex := 71, descriptorIndex := 58, attributes := #[] }, { accessFlags := 8, nameIndex := 57, descriptorIndex := 58, attributes := #[] }, { accessFlags := 4120, nameIndex := 19, descriptorIndex := 20, attributes := #[] }])
  fields := #[{ name := "low", type := .int, accessFlags := 24, slot := 0, constantValue := 0 }, { name := "high", type := .int, accessFlags := 24, slot := 1, constantValue := 0 }, { name := "cache", type := (.array (.object "java/lang/Integer")), accessFlags := 24, slot := 2, constantValue := 0 }, { name := "archivedCache", type := (.array (.object "java/lang/Integer")), accessFlags := 8, slot := 3, constantValue := 0 }, { name := "$assertionsDisabled", type := .boolean, accessFlags := 4120, slot := 4, constantValue := 0 }]
  methods := #[k8m0]
  instanceTypes := #[]
  staticTypes := #[.int, .int, (.array (.object "java/lang/Integer")), (.array (.object "java/lang/Integer")), .boolean]
  resolved := Array.replicate 100 none
  statics := some 0 }

def pool9 : Array CpInfo := pool [(1, .methodref 2 3), (0, .class_ 4), (0, .nameAndType 5 6), (0, u "java/lang/Object"), (0, u "<init>"), (0, u "()V"), (0, .fieldref 8 9), (0, .class_ 10), (0, .nameAndType 11 12), (0, u "com/example/hold_until_acked/holduntilacked/engine/ConsecutiveRing"), (0, u "values"), (0, u "[Ljava/lang/Object;"), (0, .fieldref 8 14), (0, .nameAndType 15 16), (0, u "first"), (0, u "J"), (0, .fieldref 8 18), (0, .nameAndType 19 20), (0, u "size"), (0, u "I"), (0, .fieldref 8 22), (0, .nameAndType 23 20), (0, u "head"), (7, .methodref 8 32), (0, .nameAndType 33 34), (0, u "get"), (0, u "(J)Ljava/lang/Object;"), (0, .methodref 8 36), (0, .nameAndType 15 37), (0, u "()Ljava/lang/Object;"), (0, u "(J)V"), (2, u "()I"), (3, u "firstNumber"), (0, u "()J"), (3, u "add"), (0, u "(Ljava/lang/Object;)V"), (2, u "removeFirst")] 3

def k9c0 : Code := { maxStack := 3, maxLocals := 3, code := prog_5_method_1_code, exceptionTable := #[], attributes := #[] }
def k9m0 : Method := { name := "<init>", desc := "(J)V", sig := { parameters := [.long], returnType := none }, accessFlags := 0, code := some k9c0 }
def k9c1 : Code := { maxStack := 1, maxLocals := 1, code := prog_5_method_2_code, exceptionTable := #[], attributes := #[] }
def k9m1 : Method := { name := "size", desc := "()I", sig := { parameters := [], returnType := some .int }, accessFlags := 0, code := some k9c1 }
def k9c2 : Code := { maxStack := 2, maxLocals := 1, code := prog_5_method_4_code, exceptionTable := #[], attributes := #[] }
def k9m2 : Method := { name := "firstNumber", desc := "()J", sig := { parameters := [], returnType := some .long }, accessFlags := 0, code := some k9c2 }
def k9c3 : Code := { maxStack := 5, maxLocals := 4, code := prog_5_method_5_code, exceptionTable := #[], attributes := #[] }
def k9m3 : Method := { name := "get", desc := "(J)Ljava/lang/Object;", sig := { parameters := [.long], returnType := some (.object "java/lang/Object") }, accessFlags := 0, code := some k9c3 }
def k9c4 : Code := { maxStack := 3, maxLocals := 1, code := prog_5_method_6_code, exceptionTable := #[], attributes := #[] }
def k9m4 : Method := { name := "first", desc := "()Ljava/lang/Object;", sig := { parameters := [], returnType := some (.object "java/lang/Object") }, accessFlags := 0, code := some k9c4 }
def k9c5 : Code := { maxStack := 5, maxLocals := 4, code := prog_5_method_7_code, exceptionTable := #[], attributes := #[] }
def k9m5 : Method := { name := "add", desc := "(Ljava/lang/Object;)V", sig := { parameters := [(.object "java/lang/Object")], returnType := none }, accessFlags := 0, code := some k9c5 }
def k9c6 : Code := { maxStack := 5, maxLocals := 2, code := prog_5_method_8_code, exceptionTable := #[], attributes := #[] }
def k9m6 : Method := { name := "removeFirst", desc := "()Ljava/lang/Object;", sig := { parameters := [], returnType := some (.object "java/lang/Object") }, accessFlags := 0, code := some k9c6 }
/-- com/example/hold_until_acked/holduntilacked/engine/ConsecutiveRing -/
def k9 : Class := { plain "com/example/hold_until_acked/holduntilacked/engine/ConsecutiveRing" (some 0) with
  accessFlags := 32
  interfaces := #[]
  cf := some (fileOf pool9 8 #[] #[{ accessFlags := 0, nameIndex := 5, descriptorIndex := 38, attributes := #[] }, { accessFlags := 0, nameIndex := 19, descriptorIndex := 41, attributes := #[] }, { accessFlags := 0, nameIndex := 45, descriptorIndex := 46, attributes := #[] }, { accessFlags := 0, nameIndex := 33, descriptorIndex := 34, attributes := #[] }, { accessFlags := 0, nameIndex := 15, descriptorIndex := 37, attributes := #[] }, { accessFlags := 0, nameIndex := 50, descriptorIndex := 51, attributes := #[] }, { accessFlags := 0, nameIndex := 54, descriptorIndex := 37, attributes := #[] }] 32 2 #[] #[{ accessFlags := 2, nameIndex := 11, descriptorIndex := 12, attributes := #[] }, { accessFlags := 2, nameIndex := 23, descriptorIndex := 20, attributes := #[] }, { accessFlags := 2, nameIndex := 19, descriptorIndex := 20, attributes := #[] }, { accessFlags := 2, nameIndex := 15, descriptorIndex := 16, attributes := #[] }])
  fields := #[{ name := "values", type := (.array (.object "java/lang/Object")), accessFlags := 2, slot := 0, constantValue := 0 }, { name := "head", type := .int, accessFlags := 2, slot := 1, constantValue := 0 }, { name := "size", type := .int, accessFlags := 2, slot := 2, constantValue := 0 }, { name := "first", type := .long, accessFlags := 2, slot := 3, constantValue := 0 }]
  methods := #[k9m0, k9m1, k9m2, k9m3, k9m4, k9m5, k9m6]
  instanceTypes := #[(.array (.object "java/lang/Object")), .int, .int, .long]
  staticTypes := #[]
  resolved := Array.replicate 58 none
  statics := none }

def pool10 : Array CpInfo := pool [(1, u "java/lang/Cloneable"), (0, .class_ 1), (0, u "java/lang/Object"), (0, .class_ 3)] 3

/-- java/lang/Cloneable -/
def k10 : Class := { plain "java/lang/Cloneable" (some 0) with
  accessFlags := 1537
  interfaces := #[]
  cf := some (fileOf pool10 2 #[] #[] 1537 4 #[] #[])
  fields := #[]
  methods := #[]
  instanceTypes := #[]
  staticTypes := #[]
  resolved := Array.replicate 8 none
  statics := none }

/-- the primitive byte -/
def k11 : Class := { plain "byte" none with kind := .primitive 'B', accessFlags := 0x411 }
/-- [B -/
def k12 : Class := { plain "[B" (some 0) with kind := .array 11 .byte, interfaces := #[10, 2], accessFlags := 1041 }

/-- the primitive int -/
def k13 : Class := { plain "int" none with kind := .primitive 'I', accessFlags := 0x411 }
/-- [I -/
def k14 : Class := { plain "[I" (some 0) with kind := .array 13 .int, interfaces := #[10, 2], accessFlags := 1041 }

/-- [Ljava/lang/Integer; -/
def k15 : Class := { plain "[Ljava/lang/Integer;" (some 0) with kind := .array 7 (.object "java/lang/Integer"), interfaces := #[10, 2], accessFlags := 1041 }

/-- [Ljava/lang/Object; -/
def k16 : Class := { plain "[Ljava/lang/Object;" (some 0) with kind := .array 0 (.object "java/lang/Object"), interfaces := #[10, 2], accessFlags := 1041 }

def heap : Heap := #[{ cls := 8, slots := #[.int 0, .int 127, .ref 1, .null, .int 0], vm := .statics 8 },
  { cls := 15, slots := #[.ref 2, .ref 3, .ref 4, .ref 5, .ref 6, .ref 7, .ref 8, .ref 9, .ref 10, .ref 11, .ref 12, .ref 13, .ref 14, .ref 15, .ref 16, .ref 17, .ref 18, .ref 19, .ref 20, .ref 21, .ref 22, .ref 23, .ref 24, .ref 25, .ref 26, .ref 27, .ref 28, .ref 29, .ref 30, .ref 31, .ref 32, .ref 33, .ref 34, .ref 35, .ref 36, .ref 37, .ref 38, .ref 39, .ref 40, .ref 41, .ref 42, .ref 43, .ref 44, .ref 45, .ref 46, .ref 47, .ref 48, .ref 49, .ref 50, .ref 51, .ref 52, .ref 53, .ref 54, .ref 55, .ref 56, .ref 57, .ref 58, .ref 59, .ref 60, .ref 61, .ref 62, .ref 63, .ref 64, .ref 65, .ref 66, .ref 67, .ref 68, .ref 69, .ref 70, .ref 71, .ref 72, .ref 73, .ref 74, .ref 75, .ref 76, .ref 77, .ref 78, .ref 79, .ref 80, .ref 81, .ref 82, .ref 83, .ref 84, .ref 85, .ref 86, .ref 87, .ref 88, .ref 89, .ref 90, .ref 91, .ref 92, .ref 93, .ref 94, .ref 95, .ref 96, .ref 97, .ref 98, .ref 99, .ref 100, .ref 101, .ref 102, .ref 103, .ref 104, .ref 105, .ref 106, .ref 107, .ref 108, .ref 109, .ref 110, .ref 111, .ref 112, .ref 113, .ref 114, .ref 115, .ref 116, .ref 117, .ref 118, .ref 119, .ref 120, .ref 121, .ref 122, .ref 123, .ref 124, .ref 125, .ref 126, .ref 127, .ref 128, .ref 129, .ref 130, .ref 131, .ref 132, .ref 133, .ref 134, .ref 135, .ref 136, .ref 137, .ref 138, .ref 139, .ref 140, .ref 141, .ref 142, .ref 143, .ref 144, .ref 145, .ref 146, .ref 147, .ref 148, .ref 149, .ref 150, .ref 151, .ref 152, .ref 153, .ref 154, .ref 155, .ref 156, .ref 157, .ref 158, .ref 159, .ref 160, .ref 161, .ref 162, .ref 163, .ref 164, .ref 165, .ref 166, .ref 167, .ref 168, .ref 169, .ref 170, .ref 171, .ref 172, .ref 173, .ref 174, .ref 175, .ref 176, .ref 177, .ref 178, .ref 179, .ref 180, .ref 181, .ref 182, .ref 183, .ref 184, .ref 185, .ref 186, .ref 187, .ref 188, .ref 189, .ref 190, .ref 191, .ref 192, .ref 193, .ref 194, .ref 195, .ref 196, .ref 197, .ref 198, .ref 199, .ref 200, .ref 201, .ref 202, .ref 203, .ref 204, .ref 205, .ref 206, .ref 207, .ref 208, .ref 209, .ref 210, .ref 211, .ref 212, .ref 213, .ref 214, .ref 215, .ref 216, .ref 217, .ref 218, .ref 219, .ref 220, .ref 221, .ref 222, .ref 223, .ref 224, .ref 225, .ref 226, .ref 227, .ref 228, .ref 229, .ref 230, .ref 231, .ref 232, .ref 233, .ref 234, .ref 235, .ref 236, .ref 237, .ref 238, .ref 239, .ref 240, .ref 241, .ref 242, .ref 243, .ref 244, .ref 245, .ref 246, .ref 247, .ref 248, .ref 249, .ref 250, .ref 251, .ref 252, .ref 253, .ref 254, .ref 255, .ref 256, .ref 257], vm := .none },
  { cls := 7, slots := #[.int (-128)], vm := .none },
  { cls := 7, slots := #[.int (-127)], vm := .none },
  { cls := 7, slots := #[.int (-126)], vm := .none },
  { cls := 7, slots := #[.int (-125)], vm := .none },
  { cls := 7, slots := #[.int (-124)], vm := .none },
  { cls := 7, slots := #[.int (-123)], vm := .none },
  { cls := 7, slots := #[.int (-122)], vm := .none },
  { cls := 7, slots := #[.int (-121)], vm := .none },
  { cls := 7, slots := #[.int (-120)], vm := .none },
  { cls := 7, slots := #[.int (-119)], vm := .none },
  { cls := 7, slots := #[.int (-118)], vm := .none },
  { cls := 7, slots := #[.int (-117)], vm := .none },
  { cls := 7, slots := #[.int (-116)], vm := .none },
  { cls := 7, slots := #[.int (-115)], vm := .none },
  { cls := 7, slots := #[.int (-114)], vm := .none },
  { cls := 7, slots := #[.int (-113)], vm := .none },
  { cls := 7, slots := #[.int (-112)], vm := .none },
  { cls := 7, slots := #[.int (-111)], vm := .none },
  { cls := 7, slots := #[.int (-110)], vm := .none },
  { cls := 7, slots := #[.int (-109)], vm := .none },
  { cls := 7, slots := #[.int (-108)], vm := .none },
  { cls := 7, slots := #[.int (-107)], vm := .none },
  { cls := 7, slots := #[.int (-106)], vm := .none },
  { cls := 7, slots := #[.int (-105)], vm := .none },
  { cls := 7, slots := #[.int (-104)], vm := .none },
  { cls := 7, slots := #[.int (-103)], vm := .none },
  { cls := 7, slots := #[.int (-102)], vm := .none },
  { cls := 7, slots := #[.int (-101)], vm := .none },
  { cls := 7, slots := #[.int (-100)], vm := .none },
  { cls := 7, slots := #[.int (-99)], vm := .none },
  { cls := 7, slots := #[.int (-98)], vm := .none },
  { cls := 7, slots := #[.int (-97)], vm := .none },
  { cls := 7, slots := #[.int (-96)], vm := .none },
  { cls := 7, slots := #[.int (-95)], vm := .none },
  { cls := 7, slots := #[.int (-94)], vm := .none },
  { cls := 7, slots := #[.int (-93)], vm := .none },
  { cls := 7, slots := #[.int (-92)], vm := .none },
  { cls := 7, slots := #[.int (-91)], vm := .none },
  { cls := 7, slots := #[.int (-90)], vm := .none },
  { cls := 7, slots := #[.int (-89)], vm := .none },
  { cls := 7, slots := #[.int (-88)], vm := .none },
  { cls := 7, slots := #[.int (-87)], vm := .none },
  { cls := 7, slots := #[.int (-86)], vm := .none },
  { cls := 7, slots := #[.int (-85)], vm := .none },
  { cls := 7, slots := #[.int (-84)], vm := .none },
  { cls := 7, slots := #[.int (-83)], vm := .none },
  { cls := 7, slots := #[.int (-82)], vm := .none },
  { cls := 7, slots := #[.int (-81)], vm := .none },
  { cls := 7, slots := #[.int (-80)], vm := .none },
  { cls := 7, slots := #[.int (-79)], vm := .none },
  { cls := 7, slots := #[.int (-78)], vm := .none },
  { cls := 7, slots := #[.int (-77)], vm := .none },
  { cls := 7, slots := #[.int (-76)], vm := .none },
  { cls := 7, slots := #[.int (-75)], vm := .none },
  { cls := 7, slots := #[.int (-74)], vm := .none },
  { cls := 7, slots := #[.int (-73)], vm := .none },
  { cls := 7, slots := #[.int (-72)], vm := .none },
  { cls := 7, slots := #[.int (-71)], vm := .none },
  { cls := 7, slots := #[.int (-70)], vm := .none },
  { cls := 7, slots := #[.int (-69)], vm := .none },
  { cls := 7, slots := #[.int (-68)], vm := .none },
  { cls := 7, slots := #[.int (-67)], vm := .none },
  { cls := 7, slots := #[.int (-66)], vm := .none },
  { cls := 7, slots := #[.int (-65)], vm := .none },
  { cls := 7, slots := #[.int (-64)], vm := .none },
  { cls := 7, slots := #[.int (-63)], vm := .none },
  { cls := 7, slots := #[.int (-62)], vm := .none },
  { cls := 7, slots := #[.int (-61)], vm := .none },
  { cls := 7, slots := #[.int (-60)], vm := .none },
  { cls := 7, slots := #[.int (-59)], vm := .none },
  { cls := 7, slots := #[.int (-58)], vm := .none },
  { cls := 7, slots := #[.int (-57)], vm := .none },
  { cls := 7, slots := #[.int (-56)], vm := .none },
  { cls := 7, slots := #[.int (-55)], vm := .none },
  { cls := 7, slots := #[.int (-54)], vm := .none },
  { cls := 7, slots := #[.int (-53)], vm := .none },
  { cls := 7, slots := #[.int (-52)], vm := .none },
  { cls := 7, slots := #[.int (-51)], vm := .none },
  { cls := 7, slots := #[.int (-50)], vm := .none },
  { cls := 7, slots := #[.int (-49)], vm := .none },
  { cls := 7, slots := #[.int (-48)], vm := .none },
  { cls := 7, slots := #[.int (-47)], vm := .none },
  { cls := 7, slots := #[.int (-46)], vm := .none },
  { cls := 7, slots := #[.int (-45)], vm := .none },
  { cls := 7, slots := #[.int (-44)], vm := .none },
  { cls := 7, slots := #[.int (-43)], vm := .none },
  { cls := 7, slots := #[.int (-42)], vm := .none },
  { cls := 7, slots := #[.int (-41)], vm := .none },
  { cls := 7, slots := #[.int (-40)], vm := .none },
  { cls := 7, slots := #[.int (-39)], vm := .none },
  { cls := 7, slots := #[.int (-38)], vm := .none },
  { cls := 7, slots := #[.int (-37)], vm := .none },
  { cls := 7, slots := #[.int (-36)], vm := .none },
  { cls := 7, slots := #[.int (-35)], vm := .none },
  { cls := 7, slots := #[.int (-34)], vm := .none },
  { cls := 7, slots := #[.int (-33)], vm := .none },
  { cls := 7, slots := #[.int (-32)], vm := .none },
  { cls := 7, slots := #[.int (-31)], vm := .none },
  { cls := 7, slots := #[.int (-30)], vm := .none },
  { cls := 7, slots := #[.int (-29)], vm := .none },
  { cls := 7, slots := #[.int (-28)], vm := .none },
  { cls := 7, slots := #[.int (-27)], vm := .none },
  { cls := 7, slots := #[.int (-26)], vm := .none },
  { cls := 7, slots := #[.int (-25)], vm := .none },
  { cls := 7, slots := #[.int (-24)], vm := .none },
  { cls := 7, slots := #[.int (-23)], vm := .none },
  { cls := 7, slots := #[.int (-22)], vm := .none },
  { cls := 7, slots := #[.int (-21)], vm := .none },
  { cls := 7, slots := #[.int (-20)], vm := .none },
  { cls := 7, slots := #[.int (-19)], vm := .none },
  { cls := 7, slots := #[.int (-18)], vm := .none },
  { cls := 7, slots := #[.int (-17)], vm := .none },
  { cls := 7, slots := #[.int (-16)], vm := .none },
  { cls := 7, slots := #[.int (-15)], vm := .none },
  { cls := 7, slots := #[.int (-14)], vm := .none },
  { cls := 7, slots := #[.int (-13)], vm := .none },
  { cls := 7, slots := #[.int (-12)], vm := .none },
  { cls := 7, slots := #[.int (-11)], vm := .none },
  { cls := 7, slots := #[.int (-10)], vm := .none },
  { cls := 7, slots := #[.int (-9)], vm := .none },
  { cls := 7, slots := #[.int (-8)], vm := .none },
  { cls := 7, slots := #[.int (-7)], vm := .none },
  { cls := 7, slots := #[.int (-6)], vm := .none },
  { cls := 7, slots := #[.int (-5)], vm := .none },
  { cls := 7, slots := #[.int (-4)], vm := .none },
  { cls := 7, slots := #[.int (-3)], vm := .none },
  { cls := 7, slots := #[.int (-2)], vm := .none },
  { cls := 7, slots := #[.int (-1)], vm := .none },
  { cls := 7, slots := #[.int 0], vm := .none },
  { cls := 7, slots := #[.int 1], vm := .none },
  { cls := 7, slots := #[.int 2], vm := .none },
  { cls := 7, slots := #[.int 3], vm := .none },
  { cls := 7, slots := #[.int 4], vm := .none },
  { cls := 7, slots := #[.int 5], vm := .none },
  { cls := 7, slots := #[.int 6], vm := .none },
  { cls := 7, slots := #[.int 7], vm := .none },
  { cls := 7, slots := #[.int 8], vm := .none },
  { cls := 7, slots := #[.int 9], vm := .none },
  { cls := 7, slots := #[.int 10], vm := .none },
  { cls := 7, slots := #[.int 11], vm := .none },
  { cls := 7, slots := #[.int 12], vm := .none },
  { cls := 7, slots := #[.int 13], vm := .none },
  { cls := 7, slots := #[.int 14], vm := .none },
  { cls := 7, slots := #[.int 15], vm := .none },
  { cls := 7, slots := #[.int 16], vm := .none },
  { cls := 7, slots := #[.int 17], vm := .none },
  { cls := 7, slots := #[.int 18], vm := .none },
  { cls := 7, slots := #[.int 19], vm := .none },
  { cls := 7, slots := #[.int 20], vm := .none },
  { cls := 7, slots := #[.int 21], vm := .none },
  { cls := 7, slots := #[.int 22], vm := .none },
  { cls := 7, slots := #[.int 23], vm := .none },
  { cls := 7, slots := #[.int 24], vm := .none },
  { cls := 7, slots := #[.int 25], vm := .none },
  { cls := 7, slots := #[.int 26], vm := .none },
  { cls := 7, slots := #[.int 27], vm := .none },
  { cls := 7, slots := #[.int 28], vm := .none },
  { cls := 7, slots := #[.int 29], vm := .none },
  { cls := 7, slots := #[.int 30], vm := .none },
  { cls := 7, slots := #[.int 31], vm := .none },
  { cls := 7, slots := #[.int 32], vm := .none },
  { cls := 7, slots := #[.int 33], vm := .none },
  { cls := 7, slots := #[.int 34], vm := .none },
  { cls := 7, slots := #[.int 35], vm := .none },
  { cls := 7, slots := #[.int 36], vm := .none },
  { cls := 7, slots := #[.int 37], vm := .none },
  { cls := 7, slots := #[.int 38], vm := .none },
  { cls := 7, slots := #[.int 39], vm := .none },
  { cls := 7, slots := #[.int 40], vm := .none },
  { cls := 7, slots := #[.int 41], vm := .none },
  { cls := 7, slots := #[.int 42], vm := .none },
  { cls := 7, slots := #[.int 43], vm := .none },
  { cls := 7, slots := #[.int 44], vm := .none },
  { cls := 7, slots := #[.int 45], vm := .none },
  { cls := 7, slots := #[.int 46], vm := .none },
  { cls := 7, slots := #[.int 47], vm := .none },
  { cls := 7, slots := #[.int 48], vm := .none },
  { cls := 7, slots := #[.int 49], vm := .none },
  { cls := 7, slots := #[.int 50], vm := .none },
  { cls := 7, slots := #[.int 51], vm := .none },
  { cls := 7, slots := #[.int 52], vm := .none },
  { cls := 7, slots := #[.int 53], vm := .none },
  { cls := 7, slots := #[.int 54], vm := .none },
  { cls := 7, slots := #[.int 55], vm := .none },
  { cls := 7, slots := #[.int 56], vm := .none },
  { cls := 7, slots := #[.int 57], vm := .none },
  { cls := 7, slots := #[.int 58], vm := .none },
  { cls := 7, slots := #[.int 59], vm := .none },
  { cls := 7, slots := #[.int 60], vm := .none },
  { cls := 7, slots := #[.int 61], vm := .none },
  { cls := 7, slots := #[.int 62], vm := .none },
  { cls := 7, slots := #[.int 63], vm := .none },
  { cls := 7, slots := #[.int 64], vm := .none },
  { cls := 7, slots := #[.int 65], vm := .none },
  { cls := 7, slots := #[.int 66], vm := .none },
  { cls := 7, slots := #[.int 67], vm := .none },
  { cls := 7, slots := #[.int 68], vm := .none },
  { cls := 7, slots := #[.int 69], vm := .none },
  { cls := 7, slots := #[.int 70], vm := .none },
  { cls := 7, slots := #[.int 71], vm := .none },
  { cls := 7, slots := #[.int 72], vm := .none },
  { cls := 7, slots := #[.int 73], vm := .none },
  { cls := 7, slots := #[.int 74], vm := .none },
  { cls := 7, slots := #[.int 75], vm := .none },
  { cls := 7, slots := #[.int 76], vm := .none },
  { cls := 7, slots := #[.int 77], vm := .none },
  { cls := 7, slots := #[.int 78], vm := .none },
  { cls := 7, slots := #[.int 79], vm := .none },
  { cls := 7, slots := #[.int 80], vm := .none },
  { cls := 7, slots := #[.int 81], vm := .none },
  { cls := 7, slots := #[.int 82], vm := .none },
  { cls := 7, slots := #[.int 83], vm := .none },
  { cls := 7, slots := #[.int 84], vm := .none },
  { cls := 7, slots := #[.int 85], vm := .none },
  { cls := 7, slots := #[.int 86], vm := .none },
  { cls := 7, slots := #[.int 87], vm := .none },
  { cls := 7, slots := #[.int 88], vm := .none },
  { cls := 7, slots := #[.int 89], vm := .none },
  { cls := 7, slots := #[.int 90], vm := .none },
  { cls := 7, slots := #[.int 91], vm := .none },
  { cls := 7, slots := #[.int 92], vm := .none },
  { cls := 7, slots := #[.int 93], vm := .none },
  { cls := 7, slots := #[.int 94], vm := .none },
  { cls := 7, slots := #[.int 95], vm := .none },
  { cls := 7, slots := #[.int 96], vm := .none },
  { cls := 7, slots := #[.int 97], vm := .none },
  { cls := 7, slots := #[.int 98], vm := .none },
  { cls := 7, slots := #[.int 99], vm := .none },
  { cls := 7, slots := #[.int 100], vm := .none },
  { cls := 7, slots := #[.int 101], vm := .none },
  { cls := 7, slots := #[.int 102], vm := .none },
  { cls := 7, slots := #[.int 103], vm := .none },
  { cls := 7, slots := #[.int 104], vm := .none },
  { cls := 7, slots := #[.int 105], vm := .none },
  { cls := 7, slots := #[.int 106], vm := .none },
  { cls := 7, slots := #[.int 107], vm := .none },
  { cls := 7, slots := #[.int 108], vm := .none },
  { cls := 7, slots := #[.int 109], vm := .none },
  { cls := 7, slots := #[.int 110], vm := .none },
  { cls := 7, slots := #[.int 111], vm := .none },
  { cls := 7, slots := #[.int 112], vm := .none },
  { cls := 7, slots := #[.int 113], vm := .none },
  { cls := 7, slots := #[.int 114], vm := .none },
  { cls := 7, slots := #[.int 115], vm := .none },
  { cls := 7, slots := #[.int 116], vm := .none },
  { cls := 7, slots := #[.int 117], vm := .none },
  { cls := 7, slots := #[.int 118], vm := .none },
  { cls := 7, slots := #[.int 119], vm := .none },
  { cls := 7, slots := #[.int 120], vm := .none },
  { cls := 7, slots := #[.int 121], vm := .none },
  { cls := 7, slots := #[.int 122], vm := .none },
  { cls := 7, slots := #[.int 123], vm := .none },
  { cls := 7, slots := #[.int 124], vm := .none },
  { cls := 7, slots := #[.int 125], vm := .none },
  { cls := 7, slots := #[.int 126], vm := .none },
  { cls := 7, slots := #[.int 127], vm := .none }]
def classes : Array Class := #[k0, k1, k2, k3, k4, k5, k6, k7, k8, k9, k10, k11, k12, k13, k14, k15, k16]
def interned : List (Array UInt16 × Addr) := []
def slotsUsed : Nat := 517
def theMethod : MethodId := ⟨1, 1⟩
def args0 : Array Value := #[.long 5, .int 5, .int 5, .int 5, .int 5]
def aboutOver (below : List Frame) : State where
  vm := { classes := classes, interned := interned.toArray }
  heap := heap
  slotsUsed := slotsUsed
  threads := #[{ frames := .invoking theMethod args0 :: below }]
def below0 : List Frame := [.native { method := ⟨0, 0⟩, args := #[] }]
def about1 : State := aboutOver below0
def p0 : Program := .bare "" "" ""
def e0 : Env := launch0.env 0 0 0
theorem w_frames : about1.frames = Frame.invoking theMethod args0 :: below0 := rfl
set_option maxRecDepth 65536 in
theorem w_args : argsFit about1.vm theMethod args0 = true := by decide +kernel
set_option maxRecDepth 65536 in
theorem w_heap : heapFits about1 = true := by decide +kernel
set_option maxRecDepth 65536 in
theorem w_runnable : about1.curStatus? = some .runnable := by decide +kernel
set_option maxRecDepth 65536 in
theorem w_alone : about1.alone = true := by decide +kernel
set_option maxRecDepth 65536 in
theorem w_named : about1.methodNamed? x = some theMethod := by decide +kernel
set_option maxRecDepth 65536 in
theorem w_hears : about1.hears theMethod below0 = true := by decide +kernel
set_option maxRecDepth 65536 in
theorem w_ripe : about1.ripe theMethod args0 below0 = true := by decide +kernel
theorem w_running : about1.status = .running := rfl
set_option maxRecDepth 65536 in
theorem w_room : about1.hasRoom e0.platform room_1 = true :=
  launch0.hasRoom_least _ room_1 (by decide +kernel) (by decide +kernel) (by decide +kernel) (by decide +kernel) (by decide +kernel) (by decide +kernel)
theorem allAtoms_all (ts : List Jvm.Cond) (a : Array Jvm.Value) (st : Jvm.State) : (allAtoms ts).before a st = ts.all (fun c => c.before a st) := by
  induction ts with
  | nil => rfl
  | cons c t ih =>
    show (Jvm.Cond.and c (allAtoms t)).before a st = _
    rw [Jvm.Cond.before_and, ih, List.all_cons]
def words1 : List Jvm.Cond := Jvm.Cond.code x code maxLocals ret :: tables_1
/-- a 'code' word, met by the world's own term for the bytes: nothing is compared byte by byte -/
theorem code_word {y : MethodName} {bytes : ByteArray} {mx : Nat} {rt : Option FieldType} {a : Array Value} {s : State} {m : MethodId} {meth : Method} {c : Code} (h1 : s.methodNamed? y = some m) (h2 : s.vm.method? m = some meth) (h3 : meth.code = some c) (h4 : c.code = bytes)
    (h5 : (c.maxLocals == mx && c.exceptionTable.isEmpty && decide (c.maxStack ≤ mostOperands) && decide (meth.sig.returnType = rt) && !meth.locks && decide (parseMethodDescriptor y.desc = some meth.sig)) = true) : (Jvm.Cond.code y bytes mx rt).before a s = true := by
  simp only [Bool.and_eq_true, beq_iff_eq, Bool.not_eq_true', decide_eq_true_eq] at h5
  obtain ⟨⟨⟨⟨⟨g1, g2⟩, g3⟩, g4⟩, g5⟩, g6⟩ := h5
  simp [Cond.before, Cond.holds, Cond.value, h1, h2, h3, h4, g1, g2, g3, g4, g5, g6]
def isCode : Jvm.Cond → Bool
  | .code _ _ _ _ => true
  | _ => false
theorem all_split {L : List Jvm.Cond} {P : Jvm.Cond → Bool} (h1 : L.all (fun c => isCode c || P c) = true) (h2 : ∀ c ∈ L.filter isCode, P c = true) : L.all P = true := by
  refine List.all_eq_true.mpr fun c hc => ?_
  have h := List.all_eq_true.mp h1 c hc
  rcases Bool.eq_false_or_eq_true (isCode c) with hi | hi
  · exact h2 c (List.mem_filter.mpr ⟨hc, hi⟩)
  · simpa [hi] using h
set_option maxRecDepth 65536 in
theorem w_c0 : (Jvm.Cond.code x code maxLocals ret).before args0 about1 = true := code_word (m := ⟨1, 1⟩) (meth := k1m1) (c := k1c1) (by decide +kernel) rfl rfl rfl (by decide +kernel)
set_option maxRecDepth 65536 in
theorem w_c1 : (Jvm.Cond.code ({ cls := "java/lang/Integer", name := "valueOf", desc := "(I)Ljava/lang/Integer;" } : Jvm.MethodName) jdk_33_method_22_code (1 : Nat) (Option.some (Jvm.ClassFile.FieldType.object "java/lang/Integer"))).before args0 about1 = true := code_word (m := ⟨7, 0⟩) (meth := k7m0) (c := k7c0) (by decide +kernel) rfl rfl rfl (by decide +kernel)
set_option maxRecDepth 65536 in
theorem w_c2 : (Jvm.Cond.code ({ cls := "com/example/hold_until_acked/holduntilacked/engine/ConsecutiveRing", name := "<init>", desc := "(J)V" } : Jvm.MethodName) prog_5_method_1_code (3 : Nat) (Option.none : Option Jvm.ClassFile.FieldType)).before args0 about1 = true := code_word (m := ⟨9, 0⟩) (meth := k9m0) (c := k9c0) (by decide +kernel) rfl rfl rfl (by decide +kernel)
set_option maxRecDepth 65536 in
theorem w_c3 : (Jvm.Cond.code ({ cls := "java/lang/Object", name := "<init>", desc := "()V" } : Jvm.MethodName) object_method_1_code (1 : Nat) (Option.none : Option Jvm.ClassFile.FieldType)).before args0 about1 = true := code_word (m := ⟨0, 0⟩) (meth := k0m0) (c := k0c0) (by decide +kernel) rfl rfl rfl (by decide +kernel)
set_option maxRecDepth 65536 in
theorem w_c4 : (Jvm.Cond.code ({ cls := "com/example/hold_until_acked/holduntilacked/engine/ConsecutiveRing", name := "add", desc := "(Ljava/lang/Object;)V" } : Jvm.MethodName) prog_5_method_7_code (4 : Nat) (Option.none : Option Jvm.ClassFile.FieldType)).before args0 about1 = true := code_word (m := ⟨9, 5⟩) (meth := k9m5) (c := k9c5) (by decide +kernel) rfl rfl rfl (by decide +kernel)
set_option maxRecDepth 65536 in
theorem w_c5 : (Jvm.Cond.code ({ cls := "com/example/hold_until_acked/holduntilacked/engine/ConsecutiveRing", name := "removeFirst", desc := "()Ljava/lang/Object;" } : Jvm.MethodName) prog_5_method_8_code (2 : Nat) (Option.some (Jvm.ClassFile.FieldType.object "java/lang/Object"))).before args0 about1 = true := code_word (m := ⟨9, 6⟩) (meth := k9m6) (c := k9c6) (by decide +kernel) rfl rfl rfl (by decide +kernel)
set_option maxRecDepth 65536 in
theorem w_c6 : (Jvm.Cond.code ({ cls := "com/example/hold_until_acked/holduntilacked/engine/ConsecutiveRing", name := "first", desc := "()Ljava/lang/Object;" } : Jvm.MethodName) prog_5_method_6_code (1 : Nat) (Option.some (Jvm.ClassFile.FieldType.object "java/lang/Object"))).before args0 about1 = true := code_word (m := ⟨9, 4⟩) (meth := k9m4) (c := k9c4) (by decide +kernel) rfl rfl rfl (by decide +kernel)
set_option maxRecDepth 65536 in
theorem w_c7 : (Jvm.Cond.code ({ cls := "com/example/hold_until_acked/holduntilacked/engine/ConsecutiveRing", name := "get", desc := "(J)Ljava/lang/Object;" } : Jvm.MethodName) prog_5_method_5_code (4 : Nat) (Option.some (Jvm.ClassFile.FieldType.object "java/lang/Object"))).before args0 about1 = true := code_word (m := ⟨9, 3⟩) (meth := k9m3) (c := k9c3) (by decide +kernel) rfl rfl rfl (by decide +kernel)
set_option maxRecDepth 65536 in
theorem w_c8 : (Jvm.Cond.code ({ cls := "com/example/hold_until_acked/holduntilacked/engine/ConsecutiveRing", name := "size", desc := "()I" } : Jvm.MethodName) prog_5_method_2_code (1 : Nat) (Option.some Jvm.ClassFile.FieldType.int)).before args0 about1 = true := code_word (m := ⟨9, 1⟩) (meth := k9m1) (c := k9c1) (by decide +kernel) rfl rfl rfl (by decide +kernel)
set_option maxRecDepth 65536 in
theorem w_c9 : (Jvm.Cond.code ({ cls := "com/example/hold_until_acked/holduntilacked/engine/ConsecutiveRing", name := "firstNumber", desc := "()J" } : Jvm.MethodName) prog_5_method_4_code (1 : Nat) (Option.some Jvm.ClassFile.FieldType.long)).before args0 about1 = true := code_word (m := ⟨9, 2⟩) (meth := k9m2) (c := k9c2) (by decide +kernel) rfl rfl rfl (by decide +kernel)
set_option maxRecDepth 65536 in
theorem w_c10 : (Jvm.Cond.code ({ cls := "java/lang/Integer", name := "<init>", desc := "(I)V" } : Jvm.MethodName) jdk_33_method_23_code (2 : Nat) (Option.none : Option Jvm.ClassFile.FieldType)).before args0 about1 = true := code_word (m := ⟨7, 1⟩) (meth := k7m1) (c := k7c1) (by decide +kernel) rfl rfl rfl (by decide +kernel)
set_option maxRecDepth 65536 in
theorem w_c11 : (Jvm.Cond.code ({ cls := "java/lang/Number", name := "<init>", desc := "()V" } : Jvm.MethodName) jdk_18_method_1_code (1 : Nat) (Option.none : Option Jvm.ClassFile.FieldType)).before args0 about1 = true := code_word (m := ⟨3, 0⟩) (meth := k3m0) (c := k3c0) (by decide +kernel) rfl rfl rfl (by decide +kernel)
def codes1 : List Jvm.Cond := [Jvm.Cond.code x code maxLocals ret, Jvm.Cond.code ({ cls := "java/lang/Integer", name := "valueOf", desc := "(I)Ljava/lang/Integer;" } : Jvm.MethodName) jdk_33_method_22_code (1 : Nat) (Option.some (Jvm.ClassFile.FieldType.object "java/lang/Integer")), Jvm.Cond.code ({ cls := "com/example/hold_until_acked/holduntilacked/engine/ConsecutiveRing", name := "<init>", desc := "(J)V" } : Jvm.MethodName) prog_5_method_1_code (3 : Nat) (Option.none : Option Jvm.ClassFile.FieldType), Jvm.Cond.code ({ cls := "java/lang/Object", name := "<init>", desc := "()V" } : Jvm.MethodName) object_method_1_code (1 : Nat) (Option.none : Option Jvm.ClassFile.FieldType), Jvm.Cond.code ({ cls := "com/example/hold_until_acked/holduntilacked/engine/ConsecutiveRing", name := "add", desc := "(Ljava/lang/Object;)V" } : Jvm.MethodName) prog_5_method_7_code (4 : Nat) (Option.none : Option Jvm.ClassFile.FieldType), Jvm.Cond.code ({ cls := "com/example/hold_until_acked/holduntilacked/engine/ConsecutiveRing", name := "removeFirst", desc := "()Ljava/lang/Object;" } : Jvm.MethodName) prog_5_method_8_code (2 : Nat) (Option.some (Jvm.ClassFile.FieldType.object "java/lang/Object")), Jvm.Cond.code ({ cls := "com/example/hold_until_acked/holduntilacked/engine/ConsecutiveRing", name := "first", desc := "()Ljava/lang/Object;" } : Jvm.MethodName) prog_5_method_6_code (1 : Nat) (Option.some (Jvm.ClassFile.FieldType.object "java/lang/Object")), Jvm.Cond.code ({ cls := "com/example/hold_until_acked/holduntilacked/engine/ConsecutiveRing", name := "get", desc := "(J)Ljava/lang/Object;" } : Jvm.MethodName) prog_5_method_5_code (4 : Nat) (Option.some (Jvm.ClassFile.FieldType.object "java/lang/Object")), Jvm.Cond.code ({ cls := "com/example/hold_until_acked/holduntilacked/engine/ConsecutiveRing", name := "size", desc := "()I" } : Jvm.MethodName) prog_5_method_2_code (1 : Nat) (Option.some Jvm.ClassFile.FieldType.int), Jvm.Cond.code ({ cls := "com/example/hold_until_acked/holduntilacked/engine/ConsecutiveRing", name := "firstNumber", desc := "()J" } : Jvm.MethodName) prog_5_method_4_code (1 : Nat) (Option.some Jvm.ClassFile.FieldType.long), Jvm.Cond.code ({ cls := "java/lang/Integer", name := "<init>", desc := "(I)V" } : Jvm.MethodName) jdk_33_method_23_code (2 : Nat) (Option.none : Option Jvm.ClassFile.FieldType), Jvm.Cond.code ({ cls := "java/lang/Number", name := "<init>", desc := "()V" } : Jvm.MethodName) jdk_18_method_1_code (1 : Nat) (Option.none : Option Jvm.ClassFile.FieldType)]
set_option maxRecDepth 65536 in
theorem codes_eq : words1.filter isCode = codes1 := rfl
theorem w_codes : ∀ c ∈ words1.filter isCode, c.before args0 about1 = true := by
  rw [codes_eq]
  intro c hc
  simp only [codes1, List.mem_cons, List.not_mem_nil, or_false] at hc
  rcases hc with rfl | rfl | rfl | rfl | rfl | rfl | rfl | rfl | rfl | rfl | rfl | rfl
  · exact w_c0
  · exact w_c1
  · exact w_c2
  · exact w_c3
  · exact w_c4
  · exact w_c5
  · exact w_c6
  · exact w_c7
  · exact w_c8
  · exact w_c9
  · exact w_c10
  · exact w_c11
set_option maxRecDepth 65536 in
theorem w_t1 : (words1.take 24).all (fun c => isCode c || c.before args0 about1) = true := by decide +kernel
set_option maxRecDepth 65536 in
theorem w_t2 : ((words1.drop 24).take 24).all (fun c => isCode c || c.before args0 about1) = true := by decide +kernel
set_option maxRecDepth 65536 in
theorem w_t3 : (((words1.drop 24).drop 24).take 24).all (fun c => isCode c || c.before args0 about1) = true := by decide +kernel
set_option maxRecDepth 65536 in
theorem w_t4 : (((words1.drop 24).drop 24).drop 24).all (fun c => isCode c || c.before args0 about1) = true := by decide +kernel
theorem w_tables : (allAtoms (Jvm.Cond.code x code maxLocals ret :: tables_1)).before args0 about1 = true := by
  rw [allAtoms_all]
  show words1.all (fun c => c.before args0 about1) = true
  refine all_split ?_ w_codes
  rw [← List.take_append_drop 24 words1, List.all_append, w_t1, ← List.take_append_drop 24 (words1.drop 24), List.all_append, w_t2, ← List.take_append_drop 24 ((words1.drop 24).drop 24), List.all_append, w_t3, w_t4]
  rfl
set_option maxRecDepth 65536 in
theorem w_rest : rest_1_c.before args0 about1 = true := by decide +kernel
set_option maxRecDepth 65536 in
theorem w_case : (Jvm.Cond.and given_1 narrow_1).before args0 about1 = true := by decide +kernel
theorem w_applies : (headSpec (Jvm.Cond.code x code maxLocals ret :: tables_1) room_1).applies x e0.platform about1 = true :=
  (Spec.applies_iff w_frames).mpr ⟨w_running, w_runnable, w_alone, w_named, w_hears, w_ripe, w_room, w_tables⟩
theorem atStart : AtStart classFile x code maxLocals ret World_1 tables_1 room_1 Calls_1 rest_1 Pre_1 launch0 p0 e0 about1 theMethod args0 below0 :=
  ⟨lists_1, trivial, launch0.admits_env _ _ _, launch0.least_env, fairChoices_fair.cas, fairChoices_fair.clock, w_frames, w_args, w_heap, w_applies, trivial, w_rest, w_case⟩
end start1
theorem witness_1 : WitnessClaimed_1 := ⟨start1.p0, start1.e0, start1.about1, start1.theMethod, start1.args0, start1.below0, start1.atStart⟩
end Jvm.Pilot.@@N@@
